import PyProof.Rows.All
import Wide.All
import OpenK.AllK
import Wide.FinOn
import PySem.Sre
import PyProof.TableCode
import PyProof.StrLawsNeg
import PyProof.Rows.StrJoin2
import PyProof.CompMap
import PyProof.ListTruth
import PyProof.ListNew
import KE.KOwnIter
import PyProof.StrLawsReplace
import KE.KLam
import KE.KLcPair
import PyProof.EnumStmt
import KE.KPop
import KE.KPopAny
import OpenK.KRaiseN
import PyProof.Rows.ListMul
import KE.KRevSl
import PyProof.P3Eq
import PyProof.SumWalkG
import Lean
import PySem.Challenge.RW_il0090_01
set_option Elab.async false
set_option maxRecDepth 100000
set_option maxHeartbeats 0
open PySem.Challenge
set_option genInjectivity false
set_option genSizeOfSpec false
set_option genSizeOf false
set_option linter.all false
set_option genCtorIdx false
set_option compiler.extract_closed false
section
open PySem PySem.W PyProof.Rows
namespace Mine
noncomputable def stAt:List Stmt→Nat→Stmt
  | [],_=> .Pass default
  | s::l,n=>match n with|0=>s|n+1=>stAt l n
noncomputable def bodyOf:Stmt→List Stmt
  | .ClassDef _ _ _ b _ _ _ _ _ _ _=>b
  | _=>[]
noncomputable def dK (k:Nat):Stmt:=stAt pw_il0090_01.main.body k
noncomputable def mK (k j:Nat):Stmt:=stAt (bodyOf (dK k)) j
noncomputable def fk (st:Stmt) (qual:Str) (dflt pm code:Value):Obj:=match st with
  | .FunctionDef n a b _ _ _ sc _ _ _=>⟨.type "function",none, .func ⟨n,qual,a, .stmts b,sc,3,[],dflt, .none, .none,pm,none,code, .none,0⟩,⟨[]⟩⟩
  | _=>default
noncomputable abbrev coK (l:List Value):Obj:=⟨.type "code",none, .fields ⟨l⟩,⟨[]⟩⟩
noncomputable abbrev tpK (l:List Value):Obj:=⟨.type "tuple",none, .seq ⟨l⟩ (nat_lit 0),⟨[]⟩⟩
noncomputable abbrev dcK (l:List DictEntry) (n:Nat):Obj:=⟨.type "dict",none, .dict ⟨l⟩ n,⟨[]⟩⟩
noncomputable abbrev enK (P:Params) (z:Str) (t:Nat) (v:Value):DictEntry:=⟨PyData.keyHash P z, .str z t,v⟩
noncomputable def K (P:Params):Frag:=
  (nat_lit 0,dcK [enK P "__name__" 1 (.str "builtins" 160),enK P "__doc__" 2 (.builtin "builtins.__doc__:str#opaque"),enK P "__package__" 3 (.builtin "builtins.__package__:str#opaque"),enK P "__loader__" 4 (.builtin "builtins.__loader__:shared#opaque"),enK P "__spec__" 5 (.builtin "builtins.__spec__#opaque"),enK P "__build_class__" 6 (.builtin "__build_class__"),enK P "__import__" 7 (.builtin "__import__"),enK P "abs" 8 (.builtin "abs"),enK P "all" 9 (.builtin "all"),enK P "any" 10 (.builtin "any"),enK P "ascii" 11 (.builtin "ascii"),enK P "bin" 12 (.builtin "bin"),enK P "breakpoint" 13 (.builtin "breakpoint"),enK P "callable" 14 (.builtin "callable"),enK P "chr" 15 (.builtin "chr"),enK P "compile" 16 (.builtin "compile"),enK P "delattr" 17 (.builtin "delattr"),enK P "dir" 18 (.builtin "dir"),enK P "divmod" 19 (.builtin "divmod"),enK P "eval" 20 (.builtin "eval"),enK P "exec" 21 (.builtin "exec"),enK P "format" 22 (.builtin "format"),enK P "getattr" 23 (.builtin "getattr"),enK P "globals" 24 (.builtin "globals"),enK P "hasattr" 25 (.builtin "hasattr"),enK P "hash" 26 (.builtin "hash"),enK P "hex" 27 (.builtin "hex"),enK P "id" 28 (.builtin "id"),enK P "input" 29 (.builtin "input"),enK P "isinstance" 30 (.builtin "isinstance"),enK P "issubclass" 31 (.builtin "issubclass"),enK P "iter" 32 (.builtin "iter"),enK P "aiter" 33 (.builtin "aiter"),enK P "len" 34 (.builtin "len"),enK P "locals" 35 (.builtin "locals"),enK P "max" 36 (.builtin "max"),enK P "min" 37 (.builtin "min"),enK P "next" 38 (.builtin "next"),enK P "anext" 39 (.builtin "anext"),enK P "oct" 40 (.builtin "oct"),enK P "ord" 41 (.builtin "ord"),enK P "pow" 42 (.builtin "pow"),enK P "print" 43 (.builtin "print"),enK P "repr" 44 (.builtin "repr"),enK P "round" 45 (.builtin "round"),enK P "setattr" 46 (.builtin "setattr"),enK P "sorted" 47 (.builtin "sorted"),enK P "sum" 48 (.builtin "sum"),enK P "vars" 49 (.builtin "vars"),enK P "None" 50 .none,enK P "Ellipsis" 51 .ellipsis,enK P "NotImplemented" 52 .notImplemented,enK P "False" 53 (.bool false),enK P "True" 54 (.bool true),enK P "bool" 55 (.type "bool"),enK P "memoryview" 56 (.type "memoryview"),enK P "bytearray" 57 (.type "bytearray"),enK P "bytes" 58 (.type "bytes"),enK P "classmethod" 59 (.type "classmethod"),enK P "complex" 60 (.type "complex"),enK P "dict" 61 (.type "dict"),enK P "enumerate" 62 (.type "enumerate"),enK P "filter" 63 (.type "filter"),enK P "float" 64 (.type "float"),enK P "frozenset" 65 (.type "frozenset"),enK P "property" 66 (.type "property"),enK P "int" 67 (.type "int"),enK P "list" 68 (.type "list"),enK P "map" 69 (.type "map"),enK P "object" 70 (.type "object"),enK P "range" 71 (.type "range"),enK P "reversed" 72 (.type "reversed"),enK P "set" 73 (.type "set"),enK P "slice" 74 (.type "slice"),enK P "staticmethod" 75 (.type "staticmethod"),enK P "str" 76 (.type "str"),enK P "super" 77 (.type "super"),enK P "tuple" 78 (.type "tuple"),enK P "type" 79 (.type "type"),enK P "zip" 80 (.type "zip"),enK P "__debug__" 81 (.bool true),enK P "BaseException" 82 (.type "BaseException"),enK P "BaseExceptionGroup" 83 (.type "BaseExceptionGroup"),enK P "Exception" 84 (.type "Exception"),enK P "GeneratorExit" 85 (.type "GeneratorExit"),enK P "KeyboardInterrupt" 86 (.type "KeyboardInterrupt"),enK P "SystemExit" 87 (.type "SystemExit"),enK P "ArithmeticError" 88 (.type "ArithmeticError"),enK P "AssertionError" 89 (.type "AssertionError"),enK P "AttributeError" 90 (.type "AttributeError"),enK P "BufferError" 91 (.type "BufferError"),enK P "EOFError" 92 (.type "EOFError"),enK P "ImportError" 93 (.type "ImportError"),enK P "LookupError" 94 (.type "LookupError"),enK P "MemoryError" 95 (.type "MemoryError"),enK P "NameError" 96 (.type "NameError"),enK P "OSError" 97 (.type "OSError"),enK P "ReferenceError" 98 (.type "ReferenceError"),enK P "RuntimeError" 99 (.type "RuntimeError"),enK P "StopAsyncIteration" 100 (.type "StopAsyncIteration"),enK P "StopIteration" 101 (.type "StopIteration"),enK P "SyntaxError" 102 (.type "SyntaxError"),enK P "SystemError" 103 (.type "SystemError"),enK P "TypeError" 104 (.type "TypeError"),enK P "ValueError" 105 (.type "ValueError"),enK P "Warning" 106 (.type "Warning"),enK P "FloatingPointError" 107 (.type "FloatingPointError"),enK P "OverflowError" 108 (.type "OverflowError"),enK P "ZeroDivisionError" 109 (.type "ZeroDivisionError"),enK P "BytesWarning" 110 (.type "BytesWarning"),enK P "DeprecationWarning" 111 (.type "DeprecationWarning"),enK P "EncodingWarning" 112 (.type "EncodingWarning"),enK P "FutureWarning" 113 (.type "FutureWarning"),enK P "ImportWarning" 114 (.type "ImportWarning"),enK P "PendingDeprecationWarning" 115 (.type "PendingDeprecationWarning"),enK P "ResourceWarning" 116 (.type "ResourceWarning"),enK P "RuntimeWarning" 117 (.type "RuntimeWarning"),enK P "SyntaxWarning" 118 (.type "SyntaxWarning"),enK P "UnicodeWarning" 119 (.type "UnicodeWarning"),enK P "UserWarning" 120 (.type "UserWarning"),enK P "BlockingIOError" 121 (.type "BlockingIOError"),enK P "ChildProcessError" 122 (.type "ChildProcessError"),enK P "ConnectionError" 123 (.type "ConnectionError"),enK P "FileExistsError" 124 (.type "FileExistsError"),enK P "FileNotFoundError" 125 (.type "FileNotFoundError"),enK P "InterruptedError" 126 (.type "InterruptedError"),enK P "IsADirectoryError" 127 (.type "IsADirectoryError"),enK P "NotADirectoryError" 128 (.type "NotADirectoryError"),enK P "PermissionError" 129 (.type "PermissionError"),enK P "ProcessLookupError" 130 (.type "ProcessLookupError"),enK P "TimeoutError" 131 (.type "TimeoutError"),enK P "IndentationError" 132 (.type "IndentationError"),enK P "_IncompleteInputError" 133 (.type "_IncompleteInputError"),enK P "IndexError" 134 (.type "IndexError"),enK P "KeyError" 135 (.type "KeyError"),enK P "ModuleNotFoundError" 136 (.type "ModuleNotFoundError"),enK P "NotImplementedError" 137 (.type "NotImplementedError"),enK P "PythonFinalizationError" 138 (.type "PythonFinalizationError"),enK P "RecursionError" 139 (.type "RecursionError"),enK P "UnboundLocalError" 140 (.type "UnboundLocalError"),enK P "UnicodeError" 141 (.type "UnicodeError"),enK P "BrokenPipeError" 142 (.type "BrokenPipeError"),enK P "ConnectionAbortedError" 143 (.type "ConnectionAbortedError"),enK P "ConnectionRefusedError" 144 (.type "ConnectionRefusedError"),enK P "ConnectionResetError" 145 (.type "ConnectionResetError"),enK P "TabError" 146 (.type "TabError"),enK P "UnicodeDecodeError" 147 (.type "UnicodeDecodeError"),enK P "UnicodeEncodeError" 148 (.type "UnicodeEncodeError"),enK P "UnicodeTranslateError" 149 (.type "UnicodeTranslateError"),enK P "ExceptionGroup" 150 (.type "ExceptionGroup"),enK P "EnvironmentError" 151 (.type "OSError"),enK P "IOError" 152 (.type "OSError"),enK P "open" 153 (.builtin "open"),enK P "quit" 154 (.builtin "builtins.quit#opaque"),enK P "exit" 155 (.builtin "builtins.exit#opaque"),enK P "copyright" 156 (.builtin "builtins.copyright#opaque"),enK P "credits" 157 (.builtin "builtins.credits#opaque"),enK P "license" 158 (.builtin "builtins.license#opaque"),enK P "help" 159 (.builtin "builtins.help#opaque")] 159)::
  (nat_lit 2,⟨.none,none,(.dict ⟨[enK P "impo\x72t.loaded._sre" 183 (.bool true),enK P "class._frozen_importlib.BuiltinImporter" 185 (.ref 14),enK P "watched.impo\x72t" 206 (.ref 18),enK P "class._frozen_importlib.ModuleSpec" 216 (.ref 22),enK P "sys.modules.booked-epoch" 245 (.int 4 0),enK P "impo\x72t.later-laid._sre" 270 (.bool true),enK P "watched.library" 272 (.ref 27),enK P "watched.library-objects" 0 (.str "\x0c\x1e" 0),enK P "watched.library-deep._sre" 273 (.str "\x04\x00\x00\x0b\x04\x00\x00\x0b\x04\x00\x00\x03\x04\x00\x00\x0b\x08\x04dict\x02" 0),enK P "impo\x72t.loaded._collections" 280 (.bool true),enK P "sys.modules.landed._collections" 294 (.bool true),enK P "impo\x72t.later-laid._collections" 309 (.bool true),enK P "watched.library-deep._collections" 311 (.str "\x04\x00\x00\x1d\x04\x00\x00\x1d\x04\x00\x00\x03\x04\x00\x00\x1d\x08\x04dict\x02" 0),enK P "type.__subclasses__.OSError.0" 735 (.int 129 0),enK P "type.__subclasses__.OSError.n" 736 (.int 1 0)]⟩ 15),⟨[]⟩⟩)::
  (nat_lit 3,dcK [enK P "__name__" 165 (.str "law_il0090_01" 1603),enK P "__doc__" 166 .none,enK P "__package__" 167 .none,enK P "__loader__" 168 (.builtin "__main__.__loader__#opaque"),enK P "__spec__" 169 .none,enK P "__annotations__" 170 (.ref 6),enK P "__builtins__" 171 (.ref 4),enK P "__file__" 173 (.str "/claim/cut.py" 172),enK P "__cached__" 174 .none,enK P "_sre" 275 (.ref 12),enK P "deque" 317 (.type "collections.deque"),enK P "_wall" 330 (.ref 44),enK P "_twin_re_7" 360 (.ref 49),enK P "unmatched" 369 (.ref 56),enK P "HEADER_TOKEN_RE" 417 (.ref 61),enK P "HEADER_QUOTED_VALUE_RE" 495 (.ref 66),enK P "HEADER_VALUE_RE" 550 (.ref 71),enK P "HEADER_ESCAPE_RE" 573 (.ref 76),enK P "split_header_words" 589 (.ref 83),enK P "HEADER_JOIN_TOKEN_RE" 618 (.ref 88),enK P "HEADER_JOIN_ESCAPE_RE" 646 (.ref 93),enK P "join_header_words" 658 (.ref 100),enK P "_twin_re_1" 698 (.ref 105),enK P "_whence" 708 (.ref 112),enK P "_index" 716 (.ref 119),enK P "UnsupportedOperation" 738 (.ref 129),enK P "IOBase" 770 (.ref 149),enK P "BufferedIOBase" 788 (.ref 164),enK P "TextIOBase" 806 (.ref 176),enK P "BytesIO" 1068 (.ref 406),enK P "StringIO" 1355 (.ref 653),enK P "_kind" 1366 (.ref 662),enK P "_fspath" 1375 (.ref 669),enK P "_check_arg_types" 1385 (.ref 676),enK P "isabs" 1392 (.ref 683),enK P "join" 1403 (.ref 807),enK P "join_path" 1404 (.ref 690),enK P "dirname" 1414 (.ref 697),enK P "shlex" 1555 (.ref 788),enK P "split" 1565 (.ref 800),enK P "join_shlex" 1573 (.ref 807),enK P "_find_unsafe" 1575 (.ref 808),enK P "quote" 1582 (.ref 815),enK P "unorderable_list_difference" 1594 (.ref 822),enK P "three_way_cmp" 1602 (.ref 829),enK P "_law_sign" 1611 (.ref 836),enK P "_law_order" 1617 (.ref 841),enK P "_law_words" 1625 (.ref 848),enK P "_law_lists" 1633 (.ref 855),enK P "_law_line" 1643 (.ref 862),enK P "_law_header" 1653 (.ref 869),enK P "_law_counted" 1660 (.ref 876),enK P "_law_reckoned" 1673 (.ref 883),enK P "_law_chain" 1685 (.ref 890),enK P "_law_apart" 1698 (.ref 897),enK P "law" 1704 (.ref 902)] 56)::
  (nat_lit 48,tpK [(.int 14 0),(.int 4 0),(.int 0 0),(.int 0 0),(.int 4294967295 0),(.int 6 0),(.int 0 0),(.int 24 0),(.int 13 0),(.int 0 0),(.int 4294967295 0),(.int 13 0),(.int 8 0),(.int 16 0),(.int 61 0),(.int 8 0),(.int 12 0),(.int 16 0),(.int 59 0),(.int 0 0),(.int 1 0),(.int 1 0)])::
  (nat_lit 49,⟨(.type "re.Pattern"),none,(.fields ⟨[(.str "^[=\\s;]*" 334),(.int 32 359),(.int 0 0), .none, .none,(.ref 48),(.int 0 0)]⟩),⟨[]⟩⟩)::
  (nat_lit 55,coK [(.str "unmatched" 361),(.str "unmatched" 362),(.str "/claim/cut.py" 363),(.int 8 0),(.int 1 0),(.int 0 0),(.int 0 0),(.int 3 0),(.ref 50),(.bool true),(.int 318 0),(.ref 51), .none,(.ref 52),(.ref 53),(.ref 54),(.int 367 0),(.int 8 0),(.str "/claim/cut.py" 368)])::
  (nat_lit 56,fk (dK 5) "unmatched" .none (.str "cpy313.http.cookiejar" 331) (.ref 55))::
  (nat_lit 60,tpK [(.int 14 0),(.int 4 0),(.int 0 0),(.int 1 0),(.int 4294967295 0),(.int 6 0),(.int 0 0),(.int 24 0),(.int 9 0),(.int 0 0),(.int 4294967295 0),(.int 13 0),(.int 4 0),(.int 8 0),(.int 12 0),(.int 0 0),(.int 1 0),(.int 17 0),(.int 0 0),(.int 24 0),(.int 19 0),(.int 1 0),(.int 4294967295 0),(.int 13 0),(.int 14 0),(.int 21 0),(.int 9 0),(.int 0 0),(.int 671092736 0),(.int 0 0),(.int 0 0),(.int 0 0),(.int 0 0),(.int 0 0),(.int 0 0),(.int 8 0),(.int 12 0),(.int 0 0),(.int 1 0),(.int 17 0),(.int 1 0),(.int 1 0)])::
  (nat_lit 61,⟨(.type "re.Pattern"),none,(.fields ⟨[(.str "^\\s*([^=\\s;,]+)" 371),(.int 32 416),(.int 1 0), .none, .none,(.ref 60),(.int 0 0)]⟩),⟨[]⟩⟩)::
  (nat_lit 65,tpK [(.int 14 0),(.int 4 0),(.int 0 0),(.int 3 0),(.int 4294967295 0),(.int 6 0),(.int 0 0),(.int 24 0),(.int 9 0),(.int 0 0),(.int 4294967295 0),(.int 13 0),(.int 4 0),(.int 8 0),(.int 12 0),(.int 0 0),(.int 1 0),(.int 16 0),(.int 61 0),(.int 24 0),(.int 9 0),(.int 0 0),(.int 4294967295 0),(.int 13 0),(.int 4 0),(.int 8 0),(.int 12 0),(.int 0 0),(.int 1 0),(.int 16 0),(.int 34 0),(.int 17 0),(.int 0 0),(.int 24 0),(.int 12 0),(.int 0 0),(.int 4294967295 0),(.int 13 0),(.int 7 0),(.int 21 0),(.int 16 0),(.int 34 0),(.int 16 0),(.int 92 0),(.int 0 0),(.int 1 0),(.int 23 0),(.int 19 0),(.int 0 0),(.int 4294967295 0),(.int 16 0),(.int 92 0),(.int 2 0),(.int 24 0),(.int 12 0),(.int 0 0),(.int 4294967295 0),(.int 13 0),(.int 7 0),(.int 21 0),(.int 16 0),(.int 34 0),(.int 16 0),(.int 92 0),(.int 0 0),(.int 1 0),(.int 18 0),(.int 17 0),(.int 1 0),(.int 16 0),(.int 34 0),(.int 1 0)])::
  (nat_lit 66,⟨(.type "re.Pattern"),none,(.fields ⟨[(.str "^\\s*=\\s*\\\"([^\\\"\\\\]*(?:\\\\.[^\\\"\\\\]*)*)\\\"" 419),(.int 32 494),(.int 1 0), .none, .none,(.ref 65),(.int 0 0)]⟩),⟨[]⟩⟩)::
  (nat_lit 70,tpK [(.int 14 0),(.int 4 0),(.int 0 0),(.int 1 0),(.int 4294967295 0),(.int 6 0),(.int 0 0),(.int 24 0),(.int 9 0),(.int 0 0),(.int 4294967295 0),(.int 13 0),(.int 4 0),(.int 8 0),(.int 12 0),(.int 0 0),(.int 1 0),(.int 16 0),(.int 61 0),(.int 24 0),(.int 9 0),(.int 0 0),(.int 4294967295 0),(.int 13 0),(.int 4 0),(.int 8 0),(.int 12 0),(.int 0 0),(.int 1 0),(.int 17 0),(.int 0 0),(.int 24 0),(.int 14 0),(.int 0 0),(.int 4294967295 0),(.int 13 0),(.int 9 0),(.int 21 0),(.int 8 0),(.int 12 0),(.int 16 0),(.int 59 0),(.int 16 0),(.int 44 0),(.int 0 0),(.int 1 0),(.int 17 0),(.int 1 0),(.int 1 0)])::
  (nat_lit 71,⟨(.type "re.Pattern"),none,(.fields ⟨[(.str "^\\s*=\\s*([^\\s;,]*)" 497),(.int 32 549),(.int 1 0), .none, .none,(.ref 70),(.int 0 0)]⟩),⟨[]⟩⟩)::
  (nat_lit 75,tpK [(.int 14 0),(.int 8 0),(.int 1 0),(.int 2 0),(.int 2 0),(.int 1 0),(.int 1 0),(.int 92 0),(.int 0 0),(.int 16 0),(.int 92 0),(.int 17 0),(.int 0 0),(.int 2 0),(.int 17 0),(.int 1 0),(.int 1 0)])::
  (nat_lit 76,⟨(.type "re.Pattern"),none,(.fields ⟨[(.str "\\\\(.)" 552),(.int 32 572),(.int 1 0), .none, .none,(.ref 75),(.int 0 0)]⟩),⟨[]⟩⟩)::
  (nat_lit 82,coK [(.str "split_header_words" 574),(.str "split_header_words" 575),(.str "/claim/cut.py" 576),(.int 15 0),(.int 1 0),(.int 0 0),(.int 0 0),(.int 3 0),(.ref 77),(.bool true),(.int 318 0),(.ref 78), .none,(.ref 79),(.ref 80),(.ref 81),(.int 587 0),(.int 15 0),(.str "/claim/cut.py" 588)])::
  (nat_lit 83,fk (dK 10) "split_header_words" .none (.str "cpy313.http.cookiejar" 331) (.ref 82))::
  (nat_lit 87,tpK [(.int 14 0),(.int 4 0),(.int 0 0),(.int 1 0),(.int 4294967295 0),(.int 24 0),(.int 16 0),(.int 1 0),(.int 4294967295 0),(.int 13 0),(.int 11 0),(.int 9 0),(.int 0 0),(.int 67071226 0),(.int 3355443198 0),(.int 1476395007 0),(.int 0 0),(.int 0 0),(.int 0 0),(.int 0 0),(.int 0 0),(.int 1 0),(.int 1 0)])::
  (nat_lit 88,⟨(.type "re.Pattern"),none,(.fields ⟨[(.str "[!#$%&'*+\\-.^_`|~0-9A-Za-z]+" 591),(.int 32 617),(.int 0 0), .none, .none,(.ref 87),(.int 0 0)]⟩),⟨[]⟩⟩)::
  (nat_lit 92,tpK [(.int 14 0),(.int 9 0),(.int 4 0),(.int 1 0),(.int 1 0),(.int 16 0),(.int 34 0),(.int 16 0),(.int 92 0),(.int 0 0),(.int 17 0),(.int 0 0),(.int 13 0),(.int 6 0),(.int 16 0),(.int 34 0),(.int 16 0),(.int 92 0),(.int 0 0),(.int 17 0),(.int 1 0),(.int 1 0)])::
  (nat_lit 93,⟨(.type "re.Pattern"),none,(.fields ⟨[(.str "([\\\"\\\\])" 620),(.int 32 645),(.int 1 0), .none, .none,(.ref 92),(.int 0 0)]⟩),⟨[]⟩⟩)::
  (nat_lit 99,coK [(.str "join_header_words" 647),(.str "join_header_words" 648),(.str "/claim/cut.py" 649),(.int 54 0),(.int 1 0),(.int 0 0),(.int 0 0),(.int 3 0),(.ref 94),(.bool true),(.int 318 0),(.ref 95), .none,(.ref 96),(.ref 97),(.ref 98),(.int 656 0),(.int 54 0),(.str "/claim/cut.py" 657)])::
  (nat_lit 100,fk (dK 13) "join_header_words" .none (.str "cpy313.http.cookiejar" 331) (.ref 99))::
  (nat_lit 104,tpK [(.int 14 0),(.int 17 0),(.int 4 0),(.int 1 0),(.int 1 0),(.int 21 0),(.int 9 0),(.int 0 0),(.int 604043296 0),(.int 1 0),(.int 0 0),(.int 0 0),(.int 0 0),(.int 0 0),(.int 0 0),(.int 8 0),(.int 4 0),(.int 0 0),(.int 13 0),(.int 14 0),(.int 21 0),(.int 9 0),(.int 0 0),(.int 604043296 0),(.int 1 0),(.int 0 0),(.int 0 0),(.int 0 0),(.int 0 0),(.int 0 0),(.int 8 0),(.int 4 0),(.int 0 0),(.int 1 0)])::
  (nat_lit 105,⟨(.type "re.Pattern"),none,(.fields ⟨[(.str "[^\\w@%+=:,./-]" 660),(.int 256 697),(.int 0 0), .none, .none,(.ref 104),(.int 0 0)]⟩),⟨[]⟩⟩)::
  (nat_lit 118,coK [(.str "_index" 709),(.str "_index" 710),(.str "/claim/cut.py" 711),(.int 75 0),(.int 2 0),(.int 0 0),(.int 0 0),(.int 3 0),(.ref 113),(.bool true),(.int 318 0),(.ref 114), .none,(.ref 115),(.ref 116),(.ref 117),(.int 714 0),(.int 75 0),(.str "/claim/cut.py" 715)])::
  (nat_lit 119,fk (dK 17) "_index" .none (.str "io" 699) (.ref 118))::
  (nat_lit 145,coK [(.str "__new__" 753),(.str "IOBase.__new__" 754),(.str "/claim/cut.py" 755),(.int 87 0),(.int 1 0),(.int 1 0),(.int 0 0),(.int 15 0),(.ref 140),(.bool true),(.int 318 0),(.ref 141), .none,(.ref 142),(.ref 143),(.ref 144),(.int 759 0),(.int 87 0),(.str "/claim/cut.py" 760)])::
  (nat_lit 146,fk (mK 19 1) "IOBase.__new__" .none (.str "io" 699) (.ref 145))::
  (nat_lit 148,dcK [enK P "__module__" 746 (.str "io" 751),enK P "__firstlineno__" 750 (.int 84 749),enK P "__new__" 761 (.ref 150),enK P "__static_attributes__" 762 (.ref 147),enK P "__dict__" 765 (.ref 151),enK P "__weakref__" 767 (.ref 152),enK P "__doc__" 768 .none] 4)::
  (nat_lit 149,⟨(.type "type"),none,(.cls ⟨"IOBase",[(.type "object")],[(.ref 149),(.type "object")],148,"IOBase",true,[],[(.ref 164),(.ref 176)],false,none,false⟩),⟨[none,none,some (.str "IOBase" 739),some (.str "IOBase" 747),some .none,some (.bool true)]⟩⟩)::
  (nat_lit 150,⟨(.type "staticmethod"),none,(.fields ⟨[(.ref 146)]⟩),⟨[]⟩⟩)::
  (nat_lit 155,tpK [(.ref 149)])::
  (nat_lit 163,dcK [enK P "__module__" 778 (.str "io" 783),enK P "__firstlineno__" 782 (.int 91 781),enK P "__static_attributes__" 785 (.ref 162),enK P "__doc__" 786 .none] 2)::
  (nat_lit 164,⟨(.type "type"),none,(.cls ⟨"BufferedIOBase",[(.ref 149)],[(.ref 164),(.ref 149),(.type "object")],163,"BufferedIOBase",true,[],[(.ref 406)],false,none,false⟩),⟨[some (.ref 155),none,some (.str "BufferedIOBase" 771),some (.str "BufferedIOBase" 779),some .none,some (.bool true)]⟩⟩)::
  (nat_lit 167,tpK [(.ref 149)])::
  (nat_lit 175,dcK [enK P "__module__" 796 (.str "io" 801),enK P "__firstlineno__" 800 (.int 93 799),enK P "__static_attributes__" 803 (.ref 174),enK P "__doc__" 804 .none] 2)::
  (nat_lit 176,⟨(.type "type"),none,(.cls ⟨"TextIOBase",[(.ref 149)],[(.ref 176),(.ref 149),(.type "object")],175,"TextIOBase",true,[],[(.ref 653)],false,none,false⟩),⟨[some (.ref 167),none,some (.str "TextIOBase" 789),some (.str "TextIOBase" 797),some .none,some (.bool true)]⟩⟩)::
  (nat_lit 179,tpK [(.ref 164)])::
  (nat_lit 405,dcK [enK P "__module__" 814 (.str "_io" 819),enK P "__firstlineno__" 818 (.int 95 817),enK P "__init__" 828 (.ref 193),enK P "_BytesIO__check" 835 (.ref 200),enK P "_BytesIO__line" 846 (.ref 207),enK P "closed" 854 (.ref 215),enK P "close" 861 (.ref 222),enK P "__enter__" 868 (.ref 229),enK P "__exit__" 876 (.ref 236),enK P "readable" 883 (.ref 243),enK P "writable" 890 (.ref 250),enK P "seekable" 897 (.ref 257),enK P "isatty" 904 (.ref 264),enK P "flush" 911 (.ref 271),enK P "fileno" 918 (.ref 278),enK P "detach" 925 (.ref 285),enK P "getvalue" 932 (.ref 292),enK P "getbuffer" 939 (.ref 299),enK P "tell" 946 (.ref 306),enK P "seek" 956 (.ref 314),enK P "truncate" 964 (.ref 322),enK P "read" 976 (.ref 330),enK P "read1" 986 (.ref 338),enK P "readinto" 996 (.ref 345),enK P "readinto1" 1004 (.ref 352),enK P "readline" 1014 (.ref 360),enK P "readlines" 1022 (.ref 368),enK P "__iter__" 1029 (.ref 375),enK P "__next__" 1037 (.ref 382),enK P "write" 1047 (.ref 389),enK P "writelines" 1055 (.ref 396),enK P "__repr__" 1062 (.ref 403),enK P "__static_attributes__" 1065 (.ref 404),enK P "__doc__" 1066 .none] 2)::
  (nat_lit 406,⟨(.type "type"),none,(.cls ⟨"BytesIO",[(.ref 164)],[(.ref 406),(.ref 164),(.ref 149),(.type "object")],405,"BytesIO",true,[],[],false,none,false⟩),⟨[some (.ref 179),none,some (.str "BytesIO" 807),some (.str "BytesIO" 815),some .none,some (.bool true)]⟩⟩)::
  (nat_lit 409,tpK [(.ref 176)])::
  (nat_lit 416,tpK [(.str "" 1083),(.str "\n" 1084)])::
  (nat_lit 422,coK [(.str "__init__" 1085),(.str "StringIO.__init__" 1086),(.str "/claim/cut.py" 1087),(.int 268 0),(.int 3 0),(.int 0 0),(.int 0 0),(.int 3 0),(.ref 417),(.bool true),(.int 318 0),(.ref 418), .none,(.ref 419),(.ref 420),(.ref 421),(.int 1091 0),(.int 268 0),(.str "/claim/cut.py" 1092)])::
  (nat_lit 423,fk (mK 23 1) "StringIO.__init__" (.ref 416) (.str "io" 699) (.ref 422))::
  (nat_lit 429,coK [(.str "__translated" 1094),(.str "StringIO.__translated" 1095),(.str "/claim/cut.py" 1096),(.int 281 0),(.int 2 0),(.int 0 0),(.int 0 0),(.int 3 0),(.ref 424),(.bool true),(.int 318 0),(.ref 425), .none,(.ref 426),(.ref 427),(.ref 428),(.int 1100 0),(.int 281 0),(.str "/claim/cut.py" 1101)])::
  (nat_lit 430,fk (mK 23 2) "StringIO.__translated" .none (.str "io" 699) (.ref 429))::
  (nat_lit 436,coK [(.str "__check" 1103),(.str "StringIO.__check" 1104),(.str "/claim/cut.py" 1105),(.int 289 0),(.int 1 0),(.int 0 0),(.int 0 0),(.int 3 0),(.ref 431),(.bool true),(.int 318 0),(.ref 432), .none,(.ref 433),(.ref 434),(.ref 435),(.int 1107 0),(.int 289 0),(.str "/claim/cut.py" 1108)])::
  (nat_lit 437,fk (mK 23 3) "StringIO.__check" .none (.str "io" 699) (.ref 436))::
  (nat_lit 592,tpK [(.int (-1) 1276)])::
  (nat_lit 598,coK [(.str "read" 1277),(.str "StringIO.read" 1278),(.str "/claim/cut.py" 1279),(.int 411 0),(.int 2 0),(.int 2 0),(.int 0 0),(.int 3 0),(.ref 593),(.bool true),(.int 318 0),(.ref 594), .none,(.ref 595),(.ref 596),(.ref 597),(.int 1284 0),(.int 411 0),(.str "/claim/cut.py" 1285)])::
  (nat_lit 599,fk (mK 23 25) "StringIO.read" (.ref 592) (.str "io" 699) (.ref 598))::
  (nat_lit 652,dcK [enK P "__module__" 1076 (.str "_io" 1081),enK P "__firstlineno__" 1080 (.int 265 1079),enK P "__init__" 1093 (.ref 423),enK P "_StringIO__translated" 1102 (.ref 430),enK P "_StringIO__check" 1109 (.ref 437),enK P "_StringIO__check_dot" 1116 (.ref 444),enK P "_StringIO__line" 1131 (.ref 451),enK P "closed" 1139 (.ref 459),enK P "line_buffering" 1147 (.ref 467),enK P "newlines" 1155 (.ref 475),enK P "encoding" 1163 (.ref 483),enK P "errors" 1171 (.ref 491),enK P "close" 1178 (.ref 498),enK P "__enter__" 1185 (.ref 505),enK P "__exit__" 1193 (.ref 512),enK P "readable" 1200 (.ref 519),enK P "writable" 1207 (.ref 526),enK P "seekable" 1214 (.ref 533),enK P "isatty" 1221 (.ref 540),enK P "flush" 1228 (.ref 547),enK P "fileno" 1235 (.ref 554),enK P "detach" 1242 (.ref 561),enK P "getvalue" 1249 (.ref 568),enK P "tell" 1256 (.ref 575),enK P "seek" 1266 (.ref 583),enK P "truncate" 1274 (.ref 591),enK P "read" 1286 (.ref 599),enK P "readline" 1296 (.ref 607),enK P "readlines" 1306 (.ref 615),enK P "__iter__" 1313 (.ref 622),enK P "__next__" 1321 (.ref 629),enK P "write" 1333 (.ref 636),enK P "writelines" 1341 (.ref 643),enK P "__repr__" 1348 (.ref 650),enK P "__static_attributes__" 1352 (.ref 651),enK P "__doc__" 1353 .none] 2)::
  (nat_lit 653,⟨(.type "type"),none,(.cls ⟨"StringIO",[(.ref 176)],[(.ref 653),(.ref 176),(.ref 149),(.type "object")],652,"StringIO",true,[],[],false,none,false⟩),⟨[some (.ref 409),none,some (.str "StringIO" 1069),some (.str "StringIO" 1077),some .none,some (.bool true)]⟩⟩)::
  (nat_lit 689,coK [(.str "join" 1393),(.str "join" 1394),(.str "/claim/cut.py" 1395),(.int 505 0),(.int 1 0),(.int 0 0),(.int 0 0),(.int 7 0),(.ref 684),(.bool true),(.int 318 0),(.ref 685), .none,(.ref 686),(.ref 687),(.ref 688),(.int 1401 0),(.int 505 0),(.str "/claim/cut.py" 1402)])::
  (nat_lit 690,fk (dK 29) "join" .none (.str "os.path" 1356) (.ref 689))::
  (nat_lit 705,tpK [.none, .none,(.bool false),(.bool false)])::
  (nat_lit 711,coK [(.str "__init__" 1429),(.str "shlex.__init__" 1430),(.str "/claim/cut.py" 1431),(.int 537 0),(.int 5 0),(.int 0 0),(.int 0 0),(.int 3 0),(.ref 706),(.bool true),(.int 318 0),(.ref 707), .none,(.ref 708),(.ref 709),(.ref 710),(.int 1438 0),(.int 537 0),(.str "/claim/cut.py" 1439)])::
  (nat_lit 712,fk (mK 33 0) "shlex.__init__" (.ref 705) (.str "cpy313.shlex" 1415) (.ref 711))::
  (nat_lit 718,coK [(.str "punctuation_chars" 1441),(.str "shlex.punctuation_chars" 1442),(.str "/claim/cut.py" 1443),(.int 578 0),(.int 1 0),(.int 0 0),(.int 0 0),(.int 3 0),(.ref 713),(.bool true),(.int 318 0),(.ref 714), .none,(.ref 715),(.ref 716),(.ref 717),(.int 1445 0),(.int 578 0),(.str "/claim/cut.py" 1446)])::
  (nat_lit 719,fk (mK 33 1) "shlex.punctuation_chars" .none (.str "cpy313.shlex" 1415) (.ref 718))::
  (nat_lit 720,⟨(.type "property"),none,(.fields ⟨[(.ref 719), .none, .none, .none,(.str "punctuation_chars" 1448),(.bool false)]⟩),⟨[]⟩⟩)::
  (nat_lit 748,coK [(.str "get_token" 1473),(.str "shlex.get_token" 1474),(.str "/claim/cut.py" 1475),(.int 605 0),(.int 1 0),(.int 0 0),(.int 0 0),(.int 3 0),(.ref 743),(.bool true),(.int 318 0),(.ref 744), .none,(.ref 745),(.ref 746),(.ref 747),(.int 1482 0),(.int 605 0),(.str "/claim/cut.py" 1483)])::
  (nat_lit 749,fk (mK 33 5) "shlex.get_token" .none (.str "cpy313.shlex" 1415) (.ref 748))::
  (nat_lit 755,coK [(.str "read_token" 1485),(.str "shlex.read_token" 1486),(.str "/claim/cut.py" 1487),(.int 632 0),(.int 1 0),(.int 0 0),(.int 0 0),(.int 3 0),(.ref 750),(.bool true),(.int 318 0),(.ref 751), .none,(.ref 752),(.ref 753),(.ref 754),(.int 1493 0),(.int 632 0),(.str "/claim/cut.py" 1494)])::
  (nat_lit 756,fk (mK 33 6) "shlex.read_token" .none (.str "cpy313.shlex" 1415) (.ref 755))::
  (nat_lit 777,coK [(.str "__iter__" 1513),(.str "shlex.__iter__" 1514),(.str "/claim/cut.py" 1515),(.int 779 0),(.int 1 0),(.int 0 0),(.int 0 0),(.int 3 0),(.ref 772),(.bool true),(.int 318 0),(.ref 773), .none,(.ref 774),(.ref 775),(.ref 776),(.int 1517 0),(.int 779 0),(.str "/claim/cut.py" 1518)])::
  (nat_lit 778,fk (mK 33 9) "shlex.__iter__" .none (.str "cpy313.shlex" 1415) (.ref 777))::
  (nat_lit 784,coK [(.str "__next__" 1520),(.str "shlex.__next__" 1521),(.str "/claim/cut.py" 1522),(.int 782 0),(.int 1 0),(.int 0 0),(.int 0 0),(.int 3 0),(.ref 779),(.bool true),(.int 318 0),(.ref 780), .none,(.ref 781),(.ref 782),(.ref 783),(.int 1525 0),(.int 782 0),(.str "/claim/cut.py" 1526)])::
  (nat_lit 785,fk (mK 33 10) "shlex.__next__" .none (.str "cpy313.shlex" 1415) (.ref 784))::
  (nat_lit 787,dcK [enK P "__module__" 1424 (.str "cpy313.shlex" 1415),enK P "__firstlineno__" 1428 (.int 535 1427),enK P "__init__" 1440 (.ref 712),enK P "punctuation_chars" 1448 (.ref 720),enK P "push_token" 1456 (.ref 727),enK P "push_source" 1465 (.ref 735),enK P "pop_source" 1472 (.ref 742),enK P "get_token" 1484 (.ref 749),enK P "read_token" 1495 (.ref 756),enK P "sourcehook" 1503 (.ref 763),enK P "error_leader" 1512 (.ref 771),enK P "__iter__" 1519 (.ref 778),enK P "__next__" 1527 (.ref 785),enK P "__static_attributes__" 1548 (.ref 786),enK P "__dict__" 1550 (.ref 789),enK P "__weakref__" 1552 (.ref 790),enK P "__doc__" 1553 .none] 4)::
  (nat_lit 788,⟨(.type "type"),none,(.cls ⟨"shlex",[(.type "object")],[(.ref 788),(.type "object")],787,"shlex",true,[],[],false,none,false⟩),⟨[none,none,some (.str "shlex" 1417),some (.str "shlex" 1425),some (.builtin "object.__new__"),some (.bool true)]⟩⟩)::
  (nat_lit 793,tpK [(.bool false),(.bool true)])::
  (nat_lit 799,coK [(.str "split" 1556),(.str "split" 1557),(.str "/claim/cut.py" 1558),(.int 787 0),(.int 3 0),(.int 0 0),(.int 0 0),(.int 3 0),(.ref 794),(.bool true),(.int 318 0),(.ref 795), .none,(.ref 796),(.ref 797),(.ref 798),(.int 1563 0),(.int 787 0),(.str "/claim/cut.py" 1564)])::
  (nat_lit 800,fk (dK 34) "split" (.ref 793) (.str "cpy313.shlex" 1415) (.ref 799))::
  (nat_lit 806,coK [(.str "join" 1566),(.str "join" 1567),(.str "/claim/cut.py" 1568),(.int 795 0),(.int 1 0),(.int 0 0),(.int 0 0),(.int 3 0),(.ref 801),(.bool true),(.int 318 0),(.ref 802), .none,(.ref 803),(.ref 804),(.ref 805),(.int 1570 0),(.int 795 0),(.str "/claim/cut.py" 1571)])::
  (nat_lit 807,fk (dK 35) "join" .none (.str "cpy313.shlex" 1415) (.ref 806))::
  (nat_lit 808,⟨(.type "builtin_function_or_method"),none,(.fields ⟨[(.builtin "re.Pattern.search"),(.ref 105)]⟩),⟨[]⟩⟩)::
  (nat_lit 814,coK [(.str "quote" 1576),(.str "quote" 1577),(.str "/claim/cut.py" 1578),(.int 799 0),(.int 1 0),(.int 0 0),(.int 0 0),(.int 3 0),(.ref 809),(.bool true),(.int 318 0),(.ref 810), .none,(.ref 811),(.ref 812),(.ref 813),(.int 1580 0),(.int 799 0),(.str "/claim/cut.py" 1581)])::
  (nat_lit 815,fk (dK 38) "quote" .none (.str "cpy313.shlex" 1415) (.ref 814))::
  (nat_lit 821,coK [(.str "unorderable_list_difference" 1585),(.str "unorderable_list_difference" 1586),(.str "/claim/cut.py" 1587),(.int 806 0),(.int 2 0),(.int 0 0),(.int 0 0),(.int 3 0),(.ref 816),(.bool true),(.int 318 0),(.ref 817), .none,(.ref 818),(.ref 819),(.ref 820),(.int 1592 0),(.int 806 0),(.str "/claim/cut.py" 1593)])::
  (nat_lit 822,fk (dK 40) "unorderable_list_difference" .none (.str "cpy313.unittest.util" 1583) (.ref 821))::
  (nat_lit 828,coK [(.str "three_way_cmp" 1595),(.str "three_way_cmp" 1596),(.str "/claim/cut.py" 1597),(.int 815 0),(.int 2 0),(.int 0 0),(.int 0 0),(.int 3 0),(.ref 823),(.bool true),(.int 318 0),(.ref 824), .none,(.ref 825),(.ref 826),(.ref 827),(.int 1600 0),(.int 815 0),(.str "/claim/cut.py" 1601)])::
  (nat_lit 829,fk (dK 41) "three_way_cmp" .none (.str "cpy313.unittest.util" 1583) (.ref 828))::
  (nat_lit 835,coK [(.str "_law_sign" 1605),(.str "_law_sign" 1606),(.str "/claim/cut.py" 1607),(.int 818 0),(.int 1 0),(.int 0 0),(.int 0 0),(.int 3 0),(.ref 830),(.bool true),(.int 318 0),(.ref 831), .none,(.ref 832),(.ref 833),(.ref 834),(.int 1609 0),(.int 818 0),(.str "/claim/cut.py" 1610)])::
  (nat_lit 836,fk (dK 43) "_law_sign" .none (.str "law_il0090_01" 1603) (.ref 835))::
  (nat_lit 840,coK [(.str "_law_order" 1612),(.str "_law_order" 1613),(.str "/claim/cut.py" 1614),(.int 820 0),(.int 1 0),(.int 0 0),(.int 0 0),(.int 3 0),(.ref 837),(.bool true),(.int 318 0),(.ref 838), .none, .none, .none,(.ref 839),(.int 1615 0),(.int 820 0),(.str "/claim/cut.py" 1616)])::
  (nat_lit 841,fk (dK 44) "_law_order" .none (.str "law_il0090_01" 1603) (.ref 840))::
  (nat_lit 847,coK [(.str "_law_words" 1618),(.str "_law_words" 1619),(.str "/claim/cut.py" 1620),(.int 829 0),(.int 2 0),(.int 0 0),(.int 0 0),(.int 3 0),(.ref 842),(.bool true),(.int 318 0),(.ref 843), .none,(.ref 844),(.ref 845),(.ref 846),(.int 1623 0),(.int 829 0),(.str "/claim/cut.py" 1624)])::
  (nat_lit 848,fk (dK 45) "_law_words" .none (.str "law_il0090_01" 1603) (.ref 847))::
  (nat_lit 854,coK [(.str "_law_lists" 1626),(.str "_law_lists" 1627),(.str "/claim/cut.py" 1628),(.int 831 0),(.int 2 0),(.int 0 0),(.int 0 0),(.int 3 0),(.ref 849),(.bool true),(.int 318 0),(.ref 850), .none,(.ref 851),(.ref 852),(.ref 853),(.int 1631 0),(.int 831 0),(.str "/claim/cut.py" 1632)])::
  (nat_lit 855,fk (dK 46) "_law_lists" .none (.str "law_il0090_01" 1603) (.ref 854))::
  (nat_lit 861,coK [(.str "_law_line" 1634),(.str "_law_line" 1635),(.str "/claim/cut.py" 1636),(.int 833 0),(.int 2 0),(.int 0 0),(.int 0 0),(.int 3 0),(.ref 856),(.bool true),(.int 318 0),(.ref 857), .none,(.ref 858),(.ref 859),(.ref 860),(.int 1641 0),(.int 833 0),(.str "/claim/cut.py" 1642)])::
  (nat_lit 862,fk (dK 47) "_law_line" .none (.str "law_il0090_01" 1603) (.ref 861))::
  (nat_lit 868,coK [(.str "_law_header" 1644),(.str "_law_header" 1645),(.str "/claim/cut.py" 1646),(.int 839 0),(.int 2 0),(.int 0 0),(.int 0 0),(.int 3 0),(.ref 863),(.bool true),(.int 318 0),(.ref 864), .none,(.ref 865),(.ref 866),(.ref 867),(.int 1651 0),(.int 839 0),(.str "/claim/cut.py" 1652)])::
  (nat_lit 869,fk (dK 48) "_law_header" .none (.str "law_il0090_01" 1603) (.ref 868))::
  (nat_lit 875,coK [(.str "_law_counted" 1654),(.str "_law_counted" 1655),(.str "/claim/cut.py" 1656),(.int 845 0),(.int 1 0),(.int 0 0),(.int 0 0),(.int 3 0),(.ref 870),(.bool true),(.int 318 0),(.ref 871), .none,(.ref 872),(.ref 873),(.ref 874),(.int 1658 0),(.int 845 0),(.str "/claim/cut.py" 1659)])::
  (nat_lit 876,fk (dK 49) "_law_counted" .none (.str "law_il0090_01" 1603) (.ref 875))::
  (nat_lit 882,coK [(.str "_law_reckoned" 1661),(.str "_law_reckoned" 1662),(.str "/claim/cut.py" 1663),(.int 847 0),(.int 3 0),(.int 0 0),(.int 0 0),(.int 3 0),(.ref 877),(.bool true),(.int 318 0),(.ref 878), .none,(.ref 879),(.ref 880),(.ref 881),(.int 1671 0),(.int 847 0),(.str "/claim/cut.py" 1672)])::
  (nat_lit 883,fk (dK 50) "_law_reckoned" .none (.str "law_il0090_01" 1603) (.ref 882))::
  (nat_lit 889,coK [(.str "_law_chain" 1674),(.str "_law_chain" 1675),(.str "/claim/cut.py" 1676),(.int 852 0),(.int 4 0),(.int 0 0),(.int 0 0),(.int 3 0),(.ref 884),(.bool true),(.int 318 0),(.ref 885), .none,(.ref 886),(.ref 887),(.ref 888),(.int 1683 0),(.int 852 0),(.str "/claim/cut.py" 1684)])::
  (nat_lit 890,fk (dK 51) "_law_chain" .none (.str "law_il0090_01" 1603) (.ref 889))::
  (nat_lit 896,coK [(.str "_law_apart" 1686),(.str "_law_apart" 1687),(.str "/claim/cut.py" 1688),(.int 863 0),(.int 2 0),(.int 0 0),(.int 0 0),(.int 3 0),(.ref 891),(.bool true),(.int 318 0),(.ref 892), .none,(.ref 893),(.ref 894),(.ref 895),(.int 1696 0),(.int 863 0),(.str "/claim/cut.py" 1697)])::
  (nat_lit 897,fk (dK 52) "_law_apart" .none (.str "law_il0090_01" 1603) (.ref 896))::
  (nat_lit 901,coK [(.str "law" 1699),(.str "law" 1700),(.str "/claim/cut.py" 1701),(.int 874 0),(.int 1 0),(.int 0 0),(.int 0 0),(.int 3 0),(.ref 898),(.bool true),(.int 318 0),(.ref 899), .none, .none, .none,(.ref 900),(.int 1702 0),(.int 874 0),(.str "/claim/cut.py" 1703)])::
  (nat_lit 902,fk (dK 53) "law" .none (.str "law_il0090_01" 1603) (.ref 901))::[]
noncomputable def asK:List Addr:=[0,2,3,48,49,55,56,60,61,65,66,70,71,75,76,82,83,87,88,92,93,99,100,104,105,118,119,145,146,148,149,150,155,163,164,167,175,176,179,405,406,409,416,422,423,429,430,436,437,592,598,599,652,653,689,690,705,711,712,718,719,720,748,749,755,756,777,778,784,785,787,788,793,799,800,806,807,808,814,815,821,822,828,829,835,836,840,841,847,848,854,855,861,862,868,869,875,876,882,883,889,890,896,897,901,902]
noncomputable def viewAt (p:Program) (ks:List Nat):Program:={p with main:={p.main with body:=ks.map (stAt p.main.body)}}
noncomputable def qV:Program:=viewAt pw_il0090_01 [0,1,53]
end Mine
end
section
open PySem PySem.W PyProof.Rows
theorem Mine.as_ok:∀P,Mine.asK=(Mine.K P).map (·.1):=fun _=>by kernel_rfl
namespace MineH
theorem h_def:∃d kwd,defOf Mine.qV (rw_il0090_01).row.name=some (d,kwd)∧(rw_il0090_01).row.prog.theDef (rw_il0090_01).row.name=some (d.params,d.body,d.scope)∧kwWritten? d.params.kwonlyargs d.params.kw_defaults=some kwd:=
  ⟨_,_,by rfl,by rfl,by rfl⟩
end MineH
end
section
open PySem PySem.W PyProof.Rows
namespace MineH
noncomputable abbrev pN:Program:=pw_il0090_01
noncomputable abbrev dAt:=Mine.dK
noncomputable abbrev mAt:=Mine.mK
noncomputable def fdAt (st:Stmt) (qual:Str) (gl:Addr) (dflt kwd doc pm:Value) (ann:Option Addr) (code ct:Value) (bl:Addr):FuncData:=match st with
  | .FunctionDef n a b _ _ _ sc _ _ _=>⟨n,qual,a,.stmts b,sc,gl,[],dflt,kwd,doc,pm,ann,code,ct,bl⟩
  | _=>default
noncomputable def fo (st:Stmt) (qual:Str) (dflt pm code:Value):Obj:=⟨.type "function",none,.func (fdAt st qual 3 dflt .none .none pm none code .none 0),⟨[]⟩⟩
noncomputable def fq (st:Stmt) (qual:Str):Obj:=⟨.none,none,.func (fdAt st qual 0 .none .none .none .none none .none .none 0),⟨[]⟩⟩
noncomputable def co (l:List Value):Obj:=⟨.type "code",none,.fields ⟨l⟩,⟨[]⟩⟩
noncomputable def tb (l:List Value):Obj:=⟨.none,none,.fields ⟨l⟩,⟨[]⟩⟩
noncomputable def tp (l:List Value):Obj:=⟨.type "tuple",none,.seq ⟨l⟩ (nat_lit 0),⟨[]⟩⟩
noncomputable def ls (l:List Value):Obj:=⟨.type "list",none,.seq ⟨l⟩ (nat_lit 0),⟨[]⟩⟩
noncomputable def dc (l:List DictEntry) (n:Nat):Obj:=⟨.type "dict",none,.dict ⟨l⟩ n,⟨[]⟩⟩
noncomputable def en (P:Params) (z:Str) (t:Nat) (v:Value):DictEntry:=⟨PyData.keyHash P z,.str z t,v⟩
noncomputable section
noncomputable abbrev S (l:List Nat):Str:=⟨⟨l⟩⟩
noncomputable abbrev R (n:Nat):Value:= .ref n
noncomputable abbrev I (n:Nat):Value:= .int (.ofNat n) 0
noncomputable abbrev J (n t:Nat):Value:= .int (.ofNat n) t
noncomputable abbrev U (z:Str) (t:Nat):Value:= .str z t
noncomputable abbrev N:Value:= .none
noncomputable abbrev T:Value:= .bool true
noncomputable def iz (l:List Nat):List Value:=List.rec (motive:=fun _=>List Value) [] (fun a _ r=> .int (.ofNat a) 0::r) l
noncomputable def it (l:List Nat):Nat→List Value:=List.rec (motive:=fun _=>Nat→List Value) (fun _=>[]) (fun a _ r t=> .int (.ofNat a) t::r (t+1)) l
noncomputable def st (l:List Str):Nat→List Value:=List.rec (motive:=fun _=>Nat→List Value) (fun _=>[]) (fun a _ r t=> .str a t::r (t+1)) l
noncomputable def tr (k:Nat) (l:List (Nat × Nat)):List Value:=List.rec (motive:=fun _=>List Value) [] (fun a _ r=>I a.1::I k::R a.2::r) l
noncomputable def es (P:Params) (l:List (Str × Nat × Value)):List DictEntry:=List.rec (motive:=fun _=>List DictEntry) [] (fun a _ r=>en P a.1 a.2.1 a.2.2::r) l
noncomputable def M (l:List Nat):Obj:=tp (iz l)
noncomputable def L (t:Nat) (l:List Nat):Obj:=ls (it l t)
noncomputable def K (t:Nat) (l:List Str):Obj:=tp (st l t)
noncomputable def D (k:Nat) (l:List (Nat × Nat)):Obj:=tb (tr k l)
noncomputable def X (P:Params) (l:List (Str × Nat × Value)) (n:Nat):Obj:=dc (es P l) n
noncomputable def dq (P:Params) (l:List (Str × Nat × Value)) (n:Nat):Obj:=⟨.none,none,.dict ⟨es P l⟩ n,⟨[]⟩⟩
noncomputable def Y (c:String) (l:List Value):Obj:=⟨.type c,none,.fields ⟨l⟩,⟨[]⟩⟩
noncomputable def F (s:Stmt) (z:Str) (pm:Value) (c:Nat):Obj:=fo s z .none pm (R c)
noncomputable def ck (a b:Str) (t:Nat) (f:Str) (ln n1 n2 n3 n4 r:Nat) (v1 v2 v3 v4 v5:Value) (m:Nat):Obj:=co [U a t,U b (t+1),U f (t+2),I ln,I n1,I n2,I n3,I n4,R r,T,I 318,v1,v2,v3,v4,v5,I m,I ln,U f (m+1)]
noncomputable abbrev e:Nat:=101
noncomputable abbrev r:Nat:=114
noncomputable abbrev t:Nat:=116
noncomputable abbrev i:Nat:=105
noncomputable abbrev o:Nat:=111
noncomputable abbrev n:Nat:=110
noncomputable abbrev s:Nat:=115
noncomputable abbrev a:Nat:=97
noncomputable abbrev l:Nat:=108
noncomputable abbrev c:Nat:=99
noncomputable abbrev d:Nat:=100
noncomputable abbrev u:Nat:=117
noncomputable abbrev p:Nat:=112
noncomputable abbrev m:Nat:=109
noncomputable abbrev g:Nat:=103
noncomputable abbrev h:Nat:=104
noncomputable abbrev b:Nat:=98
noncomputable abbrev y:Nat:=121
noncomputable abbrev f:Nat:=102
noncomputable abbrev w:Nat:=119
noncomputable abbrev k:Nat:=107
noncomputable abbrev x:Nat:=120
noncomputable abbrev q:Nat:=113
noncomputable abbrev z:Nat:=122
noncomputable abbrev v:Nat:=118
noncomputable abbrev j:Nat:=106
noncomputable abbrev E:Nat:=69
noncomputable abbrev O:Nat:=79
noncomputable abbrev B:Nat:=66
noncomputable abbrev A:Nat:=95
noncomputable abbrev H:Nat:=46
noncomputable abbrev Q:Nat:=73
noncomputable abbrev V:Nat:=6
noncomputable abbrev W:Nat:=83
noncomputable abbrev Z:Nat:=0
noncomputable abbrev y0:=SL.s2742458400755230247x6
noncomputable abbrev y1:=SL.s17162191345867700912x4
noncomputable abbrev y2:=SL.s658472552662922059x5
noncomputable abbrev y3:=SL.s14755015743595814543x17
noncomputable abbrev y4:=SL.s11030030927630378310x26
noncomputable abbrev y5:=SL.s8101838861749082086x8
noncomputable abbrev y6:=SL.s4290257624100764138x5
noncomputable abbrev y7:=SL.s12171344214640291687x10
noncomputable abbrev y8:=SL.s4860613602091757760x24
noncomputable abbrev y9:=SL.s10852414792293593619x7
noncomputable abbrev y10:=SL.s5314052453082223887x17
noncomputable abbrev y11:=SL.s7097527257260152453x26
noncomputable abbrev y12:=SL.s10220274742760427390x26
noncomputable abbrev y13:=SL.s6070975301684473832x10
noncomputable abbrev y14:=SL.s6658869562736209489x6
noncomputable abbrev y15:=SL.s6511155373996960695x17
noncomputable abbrev y16:=SL.s12411053484034534018x21
noncomputable abbrev y17:=SL.s16656946322747308186x12
noncomputable abbrev y18:=SL.s4278001404047624695x13
noncomputable abbrev y19:=SL.s5946037652744460706x9
def z0:=S [A,A,n,a,m,e,A,A]
def z2:=S [A,A,d,o,c,A,A]
def z3:=S [A,A,p,a,c,k,a,g,e,A,A]
def z4:=S [A,A,l,o,a,d,e,r,A,A]
def z5:=S [A,A,s,p,e,c,A,A]
def z160:=S [A,A,m,a,i,n,A,A]
def z161:=S [A,s,r,e]
def z162:=S [A,c,o,l,l,e,c,t,i,o,n,s]
def z163:=S [i,m,p,o,r,t,H,l,o,a,d,e,d,H,A,s,r,e]
def z164:=S [c,l,a,s,s,H,A,f,r,o,z,e,n,A,i,m,p,o,r,t,l,i,b,H,B,u,i,l,t,i,n,Q,m,p,o,r,t,e,r]
def z166:=S [c,l,a,s,s,H,A,f,r,o,z,e,n,A,i,m,p,o,r,t,l,i,b,H,77,o,d,u,l,e,W,p,e,c]
def z167:=S [s,y,s,H,m,o,d,u,l,e,s,H,b,o,o,k,e,d,45,e,p,o,c,h]
def z168:=S [i,m,p,o,r,t,H,l,a,t,e,r,45,l,a,i,d,H,A,s,r,e]
def z170:=S [w,a,t,c,h,e,d,H,l,i,b,r,a,r,y,45,o,b,j,e,c,t,s]
def z172:=S [w,a,t,c,h,e,d,H,l,i,b,r,a,r,y,45,d,e,e,p,H,A,s,r,e]
def z173:=S [4,Z,Z,11,4,Z,Z,11,4,Z,Z,3,4,Z,Z,11,8,4,d,i,c,t,2]
def z174:=S [i,m,p,o,r,t,H,l,o,a,d,e,d,H,A,c,o,l,l,e,c,t,i,o,n,s]
def z175:=S [s,y,s,H,m,o,d,u,l,e,s,H,l,a,n,d,e,d,H,A,c,o,l,l,e,c,t,i,o,n,s]
def z176:=S [i,m,p,o,r,t,H,l,a,t,e,r,45,l,a,i,d,H,A,c,o,l,l,e,c,t,i,o,n,s]
def z177:=S [w,a,t,c,h,e,d,H,l,i,b,r,a,r,y,45,d,e,e,p,H,A,c,o,l,l,e,c,t,i,o,n,s]
def z178:=S [4,Z,Z,29,4,Z,Z,29,4,Z,Z,3,4,Z,Z,29,8,4,d,i,c,t,2]
def z179:=S [A,A,a,n,n,o,t,a,t,i,o,n,s,A,A]
def z180:=S [A,A,b,u,i,l,t,i,n,s,A,A]
def z181:=S [A,A,f,i,l,e,A,A]
def z182:=S [47,c,l,a,i,m,47,c,u,t,H,p,y]
def z183:=S [A,A,c,a,c,h,e,d,A,A]
def z184:=S [d,e,q,u,e]
def z185:=S [60,m,o,d,u,l,e,62]
def z198:=S [A,A,m,o,d,u,l,e,A,A]
def z199:=S [A,f,r,o,z,e,n,A,i,m,p,o,r,t,l,i,b]
def z200:=S [A,A,f,i,r,s,t,l,i,n,e,n,o,A,A]
def z202:=S [b,u,i,l,t,45,i,n]
def z210:=S [A,A,s,t,a,t,i,c,A,a,t,t,r,i,b,u,t,e,s,A,A]
def z211:=S [A,A,d,i,c,t,A,A]
def z212:=S [A,A,w,e,a,k,r,e,f,A,A]
def z216:=S [n,a,m,e]
def z219:=S [l,o,a,d,e,r,A,s,t,a,t,e]
def z220:=S [s,u,b,m,o,d,u,l,e,A,s,e,a,r,c,h,A,l,o,c,a,t,i,o,n,s]
def z221:=S [A,u,n,i,n,i,t,i,a,l,i,z,e,d,A,s,u,b,m,o,d,u,l,e,s]
def z222:=S [A,s,e,t,A,f,i,l,e,a,t,t,r]
def z225:=S [A,A,i,n,i,t,A,A]
def z226:=S [A,A,r,e,p,r,A,A]
def z243:=S [i,o]
def z244:=S [A,w,a,l,l]
def z245:=S [A,t,w,i,n,A,r,e,A,55]
def z246:=S [u,n,m,a,t,c,h,e,d]
def z247:=S [72,E,65,68,E,82,A,84,O,75,E,78,A,82,E]
def z248:=S [72,E,65,68,E,82,A,81,85,O,84,E,68,A,86,65,76,85,E,A,82,E]
def z249:=S [72,E,65,68,E,82,A,86,65,76,85,E,A,82,E]
def z250:=S [72,E,65,68,E,82,A,E,W,67,65,80,E,A,82,E]
def z251:=S [s,p,l,i,t,A,h,e,a,d,e,r,A,w,o,r,d,s]
def z252:=S [72,E,65,68,E,82,A,74,O,Q,78,A,84,O,75,E,78,A,82,E]
def z253:=S [72,E,65,68,E,82,A,74,O,Q,78,A,E,W,67,65,80,E,A,82,E]
def z254:=S [j,o,i,n,A,h,e,a,d,e,r,A,w,o,r,d,s]
def z255:=S [A,t,w,i,n,A,r,e,A,49]
def z256:=S [A,w,h,e,n,c,e]
def z257:=S [A,i,n,d,e,x]
def z258:=S [85,n,s,u,p,p,o,r,t,e,d,O,p,e,r,a,t,i,o,n]
def z259:=S [Q,O,B,a,s,e]
def z260:=S [B,u,f,f,e,r,e,d,Q,O,B,a,s,e]
def z261:=S [84,e,x,t,Q,O,B,a,s,e]
def z265:=S [s,t,a,r,t]
def z267:=S [c,p,y,51,49,51,H,h,t,t,p,H,c,o,o,k,i,e,j,a,r]
def z274:=S [t,e,x,t]
def z290:=S [A,A,q,u,a,l,n,a,m,e,A,A]
def z295:=S [Q,O,B,a,s,e,H,A,A,n,e,w,A,A]
def z296:=S [B,y,t,e,s,Q,O]
def z300:=S [c,l,o,s,e,d]
def z301:=S [c,l,o,s,e]
def z302:=S [A,A,e,n,t,e,r,A,A]
def z303:=S [A,A,e,x,i,t,A,A]
def z304:=S [r,e,a,d,a,b,l,e]
def z305:=S [w,r,i,t,a,b,l,e]
def z306:=S [s,e,e,k,a,b,l,e]
def z307:=S [i,s,a,t,t,y]
def z308:=S [f,l,u,s,h]
def z309:=S [f,i,l,e,n,o]
def z310:=S [d,e,t,a,c,h]
def z311:=S [g,e,t,v,a,l,u,e]
def z312:=S [g,e,t,b,u,f,f,e,r]
def z313:=S [t,e,l,l]
def z314:=S [s,e,e,k]
def z315:=S [t,r,u,n,c,a,t,e]
def z316:=S [r,e,a,d]
def z318:=S [r,e,a,d,i,n,t,o]
def z319:=S [r,e,a,d,i,n,t,o,49]
def z320:=S [r,e,a,d,l,i,n,e]
def z321:=S [r,e,a,d,l,i,n,e,s]
def z322:=S [A,A,i,t,e,r,A,A]
def z323:=S [A,A,n,e,x,t,A,A]
def z324:=S [w,r,i,t,e]
def z325:=S [w,r,i,t,e,l,i,n,e,s]
def z326:=S [s,e,l,f]
def z328:=S [B,y,t,e,s,Q,O,H,A,A,i,n,i,t,A,A]
def z329:=S [B,y,t,e,s,Q,O,H,A,A,c,h,e,c,k]
def z334:=S [B,y,t,e,s,Q,O,H,A,A,l,i,n,e]
def z336:=S [B,y,t,e,s,Q,O,H,c,l,o,s,e,d]
def z337:=S [B,y,t,e,s,Q,O,H,c,l,o,s,e]
def z338:=S [B,y,t,e,s,Q,O,H,A,A,e,n,t,e,r,A,A]
def z339:=S [B,y,t,e,s,Q,O,H,A,A,e,x,i,t,A,A]
def z340:=S [B,y,t,e,s,Q,O,H,r,e,a,d,a,b,l,e]
def z341:=S [B,y,t,e,s,Q,O,H,w,r,i,t,a,b,l,e]
def z342:=S [B,y,t,e,s,Q,O,H,s,e,e,k,a,b,l,e]
def z343:=S [B,y,t,e,s,Q,O,H,i,s,a,t,t,y]
def z344:=S [B,y,t,e,s,Q,O,H,f,l,u,s,h]
def z345:=S [B,y,t,e,s,Q,O,H,f,i,l,e,n,o]
def z346:=S [B,y,t,e,s,Q,O,H,d,e,t,a,c,h]
def z347:=S [B,y,t,e,s,Q,O,H,g,e,t,v,a,l,u,e]
def z348:=S [B,y,t,e,s,Q,O,H,g,e,t,b,u,f,f,e,r]
def z349:=S [B,y,t,e,s,Q,O,H,t,e,l,l]
def z352:=S [B,y,t,e,s,Q,O,H,s,e,e,k]
def z353:=S [s,i,z,e]
def z354:=S [B,y,t,e,s,Q,O,H,t,r,u,n,c,a,t,e]
def z355:=S [B,y,t,e,s,Q,O,H,r,e,a,d]
def z356:=S [B,y,t,e,s,Q,O,H,r,e,a,d,49]
def z358:=S [B,y,t,e,s,Q,O,H,r,e,a,d,i,n,t,o]
def z359:=S [B,y,t,e,s,Q,O,H,r,e,a,d,i,n,t,o,49]
def z360:=S [B,y,t,e,s,Q,O,H,r,e,a,d,l,i,n,e]
def z361:=S [B,y,t,e,s,Q,O,H,r,e,a,d,l,i,n,e,s]
def z362:=S [B,y,t,e,s,Q,O,H,A,A,i,t,e,r,A,A]
def z364:=S [B,y,t,e,s,Q,O,H,A,A,n,e,x,t,A,A]
def z366:=S [B,y,t,e,s,Q,O,H,w,r,i,t,e]
def z368:=S [B,y,t,e,s,Q,O,H,w,r,i,t,e,l,i,n,e,s]
def z369:=S [B,y,t,e,s,Q,O,H,A,A,r,e,p,r,A,A]
def z372:=S [c,p,y,51,49,51,H,s,h,l,e,x]
def z373:=S [W,t,r,i,n,g,Q,O]
def z374:=S [A,k,i,n,d]
def z375:=S [A,f,s,p,a,t,h]
def z376:=S [A,c,h,e,c,k,A,a,r,g,A,t,y,p,e,s]
def z377:=S [i,s,a,b,s]
def z378:=S [j,o,i,n]
def z380:=S [d,i,r,n,a,m,e]
def z381:=S [A,W,t,r,i,n,g,Q,O,A,A,t,r,a,n,s,l,a,t,e,d]
def z383:=S [A,W,t,r,i,n,g,Q,O,A,A,c,h,e,c,k,A,d,o,t]
def z385:=S [l,i,n,e,A,b,u,f,f,e,r,i,n,g]
def z386:=S [n,e,w,l,i,n,e,s]
def z387:=S [e,n,c,o,d,i,n,g]
def z388:=S [e,r,r,o,r,s]
def z392:=S [W,t,r,i,n,g,Q,O,H,A,A,i,n,i,t,A,A]
def z394:=S [W,t,r,i,n,g,Q,O,H,A,A,t,r,a,n,s,l,a,t,e,d]
def z396:=S [W,t,r,i,n,g,Q,O,H,A,A,c,h,e,c,k]
def z397:=S [W,t,r,i,n,g,Q,O,H,A,A,c,h,e,c,k,A,d,o,t]
def z401:=S [W,t,r,i,n,g,Q,O,H,A,A,l,i,n,e]
def z402:=S [W,t,r,i,n,g,Q,O,H,c,l,o,s,e,d]
def z403:=S [W,t,r,i,n,g,Q,O,H,l,i,n,e,A,b,u,f,f,e,r,i,n,g]
def z404:=S [W,t,r,i,n,g,Q,O,H,n,e,w,l,i,n,e,s]
def z405:=S [W,t,r,i,n,g,Q,O,H,e,n,c,o,d,i,n,g]
def z406:=S [W,t,r,i,n,g,Q,O,H,e,r,r,o,r,s]
def z407:=S [W,t,r,i,n,g,Q,O,H,c,l,o,s,e]
def z408:=S [W,t,r,i,n,g,Q,O,H,A,A,e,n,t,e,r,A,A]
def z409:=S [W,t,r,i,n,g,Q,O,H,A,A,e,x,i,t,A,A]
def z410:=S [W,t,r,i,n,g,Q,O,H,r,e,a,d,a,b,l,e]
def z411:=S [W,t,r,i,n,g,Q,O,H,w,r,i,t,a,b,l,e]
def z412:=S [W,t,r,i,n,g,Q,O,H,s,e,e,k,a,b,l,e]
def z413:=S [W,t,r,i,n,g,Q,O,H,i,s,a,t,t,y]
def z414:=S [W,t,r,i,n,g,Q,O,H,f,l,u,s,h]
def z415:=S [W,t,r,i,n,g,Q,O,H,f,i,l,e,n,o]
def z416:=S [W,t,r,i,n,g,Q,O,H,d,e,t,a,c,h]
def z417:=S [W,t,r,i,n,g,Q,O,H,g,e,t,v,a,l,u,e]
def z418:=S [W,t,r,i,n,g,Q,O,H,t,e,l,l]
def z419:=S [W,t,r,i,n,g,Q,O,H,s,e,e,k]
def z420:=S [W,t,r,i,n,g,Q,O,H,t,r,u,n,c,a,t,e]
def z421:=S [W,t,r,i,n,g,Q,O,H,r,e,a,d]
def z422:=S [W,t,r,i,n,g,Q,O,H,r,e,a,d,l,i,n,e]
def z424:=S [W,t,r,i,n,g,Q,O,H,r,e,a,d,l,i,n,e,s]
def z425:=S [W,t,r,i,n,g,Q,O,H,A,A,i,t,e,r,A,A]
def z426:=S [W,t,r,i,n,g,Q,O,H,A,A,n,e,x,t,A,A]
def z428:=S [W,t,r,i,n,g,Q,O,H,w,r,i,t,e]
def z429:=S [W,t,r,i,n,g,Q,O,H,w,r,i,t,e,l,i,n,e,s]
def z430:=S [W,t,r,i,n,g,Q,O,H,A,A,r,e,p,r,A,A]
def z434:=S [o,s,H,p,a,t,h]
def z441:=S [l,a,w,A,i,l,48,48,57,48,A,48,49]
def z442:=S [s,h,l,e,x]
def z447:=S [u,n,o,r,d,e,r,a,b,l,e,A,l,i,s,t,A,d,i,f,f,e,r,e,n,c,e]
def z448:=S [t,h,r,e,e,A,w,a,y,A,c,m,p]
def z449:=S [A,l,a,w,A,s,i,g,n]
def z450:=S [A,l,a,w,A,o,r,d,e,r]
def z451:=S [A,l,a,w,A,w,o,r,d,s]
def z452:=S [A,l,a,w,A,l,i,s,t,s]
def z453:=S [A,l,a,w,A,l,i,n,e]
def z454:=S [A,l,a,w,A,h,e,a,d,e,r]
def z455:=S [A,l,a,w,A,c,o,u,n,t,e,d]
def z456:=S [A,l,a,w,A,r,e,c,k,o,n,e,d]
def z457:=S [A,l,a,w,A,c,h,a,i,n]
def z458:=S [A,l,a,w,A,a,p,a,r,t]
def z460:=S [p,u,n,c,t,u,a,t,i,o,n,A,c,h,a,r,s]
def z461:=S [p,u,s,h,A,t,o,k,e,n]
def z462:=S [p,u,s,h,A,s,o,u,r,c,e]
def z463:=S [p,o,p,A,s,o,u,r,c,e]
def z464:=S [g,e,t,A,t,o,k,e,n]
def z465:=S [r,e,a,d,A,t,o,k,e,n]
def z466:=S [s,o,u,r,c,e,h,o,o,k]
def z467:=S [e,r,r,o,r,A,l,e,a,d,e,r]
def z471:=S [s,h,l,e,x,H,A,A,i,n,i,t,A,A]
def z472:=S [s,h,l,e,x,H,p,u,n,c,t,u,a,t,i,o,n,A,c,h,a,r,s]
def z474:=S [s,h,l,e,x,H,p,u,s,h,A,t,o,k,e,n]
def z477:=S [s,h,l,e,x,H,p,u,s,h,A,s,o,u,r,c,e]
def z478:=S [s,h,l,e,x,H,p,o,p,A,s,o,u,r,c,e]
def z481:=S [s,h,l,e,x,H,g,e,t,A,t,o,k,e,n]
def z485:=S [s,h,l,e,x,H,r,e,a,d,A,t,o,k,e,n]
def z486:=S [s,h,l,e,x,H,s,o,u,r,c,e,h,o,o,k]
def z488:=S [s,h,l,e,x,H,e,r,r,o,r,A,l,e,a,d,e,r]
def z489:=S [s,h,l,e,x,H,A,A,i,t,e,r,A,A]
def z491:=S [s,h,l,e,x,H,A,A,n,e,x,t,A,A]
def z514:=S [c,p,y,51,49,51,H,u,n,i,t,t,e,s,t,H,u,t,i,l]
def z517:=S [d,r,e,s,s]
noncomputable def C (a:Str) (t ln n r m:Nat):Obj:=ck a a t z182 ln n 0 0 3 r (R (r+1)) N (R (r+2)) (R (r+3)) (R (r+4)) m
noncomputable def G (a:Str) (t ln n r m:Nat):Obj:=ck a a t z182 ln n 0 0 3 r (R (r+1)) N N N (R (r+2)) m
noncomputable def o0:Obj:=tp []
noncomputable def o1:Obj:=tb []
noncomputable def o2:Obj:=dc [] 0
noncomputable def o3:Obj:=tp [N]
noncomputable def o4:Obj:=Y y4 [.builtin SL.s10062305145149207511x16,.type y1]
noncomputable def o5:Obj:=tp [N,N]
noncomputable def o6(P:Params):Obj:=dq P [(z163,183,T),(z164,185,R 14),(S [w,a,t,c,h,e,d,H,i,m,p,o,r,t],206,R 18),(z166,216,R 22),(z167,245,I 4),(z168,270,T),(S [w,a,t,c,h,e,d,H,l,i,b,r,a,r,y],272,R 27),(z170,0,U (S [12,30]) 0),(z172,273,U z173 0),(z174,280,T),(z175,294,T),(z176,309,T),(z177,311,U z178 0),(S [t,y,p,e,H,A,A,s,u,b,c,l,a,s,s,e,s,A,A,H,O,W,E,r,r,o,r,H,48],735,I 129),(S [t,y,p,e,H,A,A,s,u,b,c,l,a,s,s,e,s,A,A,H,O,W,E,r,r,o,r,H,n],736,I 1)] 15
noncomputable def o7:Obj:=⟨(.type y1),none,(.cls ⟨z260,[(R 149)],[(R 164),(R 149),(.type y0)],163,z260,true,[],[(R 406)],false,none,false⟩),⟨[some (R 155),none,some (U z260 771),some (U z260 779),some N,some T]⟩⟩
noncomputable def o8(P:Params):Obj:=dq P [(z163,183,T),(z164,185,R 14),(S [w,a,t,c,h,e,d,H,i,m,p,o,r,t],206,R 18),(z166,216,R 22),(z167,245,I 4),(z168,270,T),(S [w,a,t,c,h,e,d,H,l,i,b,r,a,r,y],272,R 27),(z170,0,U (S [12,30]) 0),(z172,273,U z173 0),(z174,280,T),(z175,294,T),(z176,309,T),(z177,311,U z178 0)] 13
noncomputable def o9(P:Params):Obj:=X P [(z0,165,U z160 164),(z2,166,N),(z3,167,N),(z4,168,.builtin y11),(z5,169,N),(z179,170,R 6),(z180,171,R 4),(z181,173,U z182 172),(z183,174,N),(z161,275,R 12),(z184,317,.type y10)] 11
noncomputable def o10:Obj:=ls []
noncomputable def o11:Obj:=tp [R 149]
noncomputable def o12:Obj:=⟨(.type y1),none,(.cls ⟨z261,[(R 149)],[(R 176),(R 149),(.type y0)],175,z261,true,[],[(R 653)],false,none,false⟩),⟨[some (R 167),none,some (U z261 789),some (U z261 797),some N,some T]⟩⟩
noncomputable def o13:Obj:=⟨(.type y1),none,(.cls ⟨z261,[(R 149)],[(R 176),(R 149),(.type y0)],175,z261,true,[],[],false,none,false⟩),⟨[some (R 167),none,some (U z261 789),some (U z261 797),some N,some T]⟩⟩
def c0(P:Params)(l':List Obj):List Obj:=X P [(z0,1,U (S [b,u,i,l,t,i,n,s]) 160),(z2,2,.builtin "builtins.__doc__:str#opaque"),(z3,3,.builtin "builtins.__package__:str#opaque"),(z4,4,.builtin "builtins.__loader__:shared#opaque"),(z5,5,.builtin SL.s11665532747177232413x24),(S [A,A,b,u,i,l,d,A,c,l,a,s,s,A,A],6,.builtin SL.s15183661809925369436x15),(S [A,A,i,m,p,o,r,t,A,A],7,.builtin SL.s13915890719876406383x10),(S [a,b,s],8,.builtin SL.s13459172003223722735x3),(S [a,l,l],9,.builtin SL.s10557405761357834076x3),(S [a,n,y],10,.builtin SL.s4233737765568776869x3),(S [a,s,c,i,i],11,.builtin SL.s2508922471967985374x5),(S [b,i,n],12,.builtin SL.s15574269061696679450x3),(S [b,r,e,a,k,p,o,i,n,t],13,.builtin SL.s6016482663378992977x10),(S [c,a,l,l,a,b,l,e],14,.builtin SL.s5596568736180474577x8),(S [c,h,r],15,.builtin SL.s2839554839881490554x3),(S [c,o,m,p,i,l,e],16,.builtin SL.s725004073602090463x7),(S [d,e,l,a,t,t,r],17,.builtin SL.s9436932552931045734x7),(S [d,i,r],18,.builtin SL.s2754603736356183583x3),(S [d,i,v,m,o,d],19,.builtin SL.s15185746759980889043x6),(S [e,v,a,l],20,.builtin SL.s8192189862530294059x4),(S [e,x,e,c],21,.builtin SL.s7038307821325472102x4),(S [f,o,r,m,a,t],22,.builtin SL.s5662562618415449548x6),(S [g,e,t,a,t,t,r],23,.builtin SL.s15281542589158584767x7),(S [g,l,o,b,a,l,s],24,.builtin SL.s17651547275483570877x7),(S [h,a,s,a,t,t,r],25,.builtin SL.s4036449017235975746x7),(S [h,a,s,h],26,.builtin SL.s8879979712987360175x4),(S [h,e,x],27,.builtin SL.s1801250619170735830x3),(S [i,d],28,.builtin SL.s17659931425627118568x2),(S [i,n,p,u,t],29,.builtin SL.s6063217899685152688x5),(S [i,s,i,n,s,t,a,n,c,e],30,.builtin SL.s8008927332132565319x10),(S [i,s,s,u,b,c,l,a,s,s],31,.builtin SL.s3544116645089599534x10),(S [i,t,e,r],32,.builtin SL.s13761710972054866084x4),(S [a,i,t,e,r],33,.builtin SL.s12896375587409280029x5),(S [l,e,n],34,.builtin SL.s13014049009108672802x3),(S [l,o,c,a,l,s],35,.builtin SL.s13935586738268321596x6),(S [m,a,x],36,.builtin SL.s8200498257699607233x3),(S [m,i,n],37,.builtin SL.s14114244577727609259x3),(S [n,e,x,t],38,.builtin SL.s1499430450269397089x4),(S [a,n,e,x,t],39,.builtin SL.s8755793994789770505x5),(S [o,c,t],40,.builtin SL.s15725212667919936108x3),(S [o,r,d],41,.builtin SL.s15791221867095933363x3),(S [p,o,w],42,.builtin SL.s81309575031448614x3),(S [p,r,i,n,t],43,.builtin SL.s8069831620301644142x5),(S [r,e,p,r],44,.builtin SL.s10061844253413749634x4),(S [r,o,u,n,d],45,.builtin SL.s9496514870978017513x5),(S [s,e,t,a,t,t,r],46,.builtin SL.s8899691144933366716x7),(S [s,o,r,t,e,d],47,.builtin SL.s15201008993051130160x6),(S [s,u,m],48,.builtin SL.s741896355592496720x3),(S [v,a,r,s],49,.builtin SL.s17925004256654032244x4),(S [78,o,n,e],50,N),(S [E,l,l,i,p,s,i,s],51,.ellipsis),(S [78,o,t,Q,m,p,l,e,m,e,n,t,e,d],52,.notImplemented),(S [70,a,l,s,e],53,.bool false),(S [84,r,u,e],54,T),(S [b,o,o,l],55,.type SL.s11695548795398191787x4),(S [m,e,m,o,r,y,v,i,e,w],56,.type SL.s4156966113859768872x10),(S [b,y,t,e,a,r,r,a,y],57,.type SL.s9501651726347032510x9),(S [b,y,t,e,s],58,.type SL.s15722918466584999320x5),(S [c,l,a,s,s,m,e,t,h,o,d],59,.type SL.s591115383303110208x11),(S [c,o,m,p,l,e,x],60,.type SL.s15721156781594690315x7),(S [d,i,c,t],61,.type SL.s14018661285674007319x4),(S [e,n,u,m,e,r,a,t,e],62,.type SL.s14340494229221121180x9),(S [f,i,l,t,e,r],63,.type SL.s13429844117177748173x6),(S [f,l,o,a,t],64,.type SL.s16463266125957815391x5),(S [f,r,o,z,e,n,s,e,t],65,.type SL.s4922535414793169389x9),(S [p,r,o,p,e,r,t,y],66,.type y5),(S [i,n,t],67,.type SL.s7066276694103001551x3),(S [l,i,s,t],68,.type SL.s9222952809800978799x4),(S [m,a,p],69,.type SL.s462964344163437139x3),(S [o,b,j,e,c,t],70,.type y0),(S [r,a,n,g,e],71,.type SL.s1438033511350832697x5),(S [r,e,v,e,r,s,e,d],72,.type SL.s14365286008749172514x8),(S [s,e,t],73,.type SL.s3642769012341782148x3),(S [s,l,i,c,e],74,.type SL.s4674234679698826739x5),(S [s,t,a,t,i,c,m,e,t,h,o,d],75,.type y17),(S [s,t,r],76,.type SL.s10796804682411823810x3),(S [s,u,p,e,r],77,.type y6),(S [t,u,p,l,e],78,.type SL.s2766695959194262286x5),(S [t,y,p,e],79,.type y1),(S [z,i,p],80,.type SL.s14339709457334898076x3),(S [A,A,d,e,b,u,g,A,A],81,T),(S [B,a,s,e,E,x,c,e,p,t,i,o,n],82,.type y18),(S [B,a,s,e,E,x,c,e,p,t,i,o,n,71,r,o,u,p],83,.type SL.s6585700554429387442x18),(S [E,x,c,e,p,t,i,o,n],84,.type y19),(S [71,e,n,e,r,a,t,o,r,E,x,i,t],85,.type SL.s7410770068591931388x13),(S [75,e,y,b,o,a,r,d,Q,n,t,e,r,r,u,p,t],86,.type SL.s11817881795495490833x17),(S [W,y,s,t,e,m,E,x,i,t],87,.type SL.s15679963881808890155x10),(S [65,r,i,t,h,m,e,t,i,c,E,r,r,o,r],88,.type SL.s3871700062485845797x15),(S [65,s,s,e,r,t,i,o,n,E,r,r,o,r],89,.type SL.s7689518266570723881x14),(S [65,t,t,r,i,b,u,t,e,E,r,r,o,r],90,.type SL.s9001593270443806431x14),(S [B,u,f,f,e,r,E,r,r,o,r],91,.type SL.s6882542574934516792x11),(S [E,O,70,E,r,r,o,r],92,.type SL.s14403400214490484960x8),(S [Q,m,p,o,r,t,E,r,r,o,r],93,.type SL.s14457978657717015782x11),(S [76,o,o,k,u,p,E,r,r,o,r],94,.type SL.s1753610191782819921x11),(S [77,e,m,o,r,y,E,r,r,o,r],95,.type SL.s14119380538032626715x11),(S [78,a,m,e,E,r,r,o,r],96,.type SL.s11437920000406562045x9),(S [O,W,E,r,r,o,r],97,.type y9),(S [82,e,f,e,r,e,n,c,e,E,r,r,o,r],98,.type SL.s14816307405966870543x14),(S [82,u,n,t,i,m,e,E,r,r,o,r],99,.type SL.s8682627914449686677x12),(S [W,t,o,p,65,s,y,n,c,Q,t,e,r,a,t,i,o,n],100,.type SL.s4428170145600203450x18),(S [W,t,o,p,Q,t,e,r,a,t,i,o,n],101,.type SL.s5991306692159431302x13),(S [W,y,n,t,a,x,E,r,r,o,r],102,.type SL.s16067994140765818257x11),(S [W,y,s,t,e,m,E,r,r,o,r],103,.type SL.s2327743974964600596x11),(S [84,y,p,e,E,r,r,o,r],104,.type SL.s2804747833354056582x9),(S [86,a,l,u,e,E,r,r,o,r],105,.type y13),(S [87,a,r,n,i,n,g],106,.type SL.s14270485950484850486x7),(S [70,l,o,a,t,i,n,g,80,o,i,n,t,E,r,r,o,r],107,.type SL.s12041534306414923332x18),(S [O,v,e,r,f,l,o,w,E,r,r,o,r],108,.type SL.s2531307568338490285x13),(S [90,e,r,o,68,i,v,i,s,i,o,n,E,r,r,o,r],109,.type SL.s631175304937289666x17),(S [B,y,t,e,s,87,a,r,n,i,n,g],110,.type SL.s5144983644357021410x12),(S [68,e,p,r,e,c,a,t,i,o,n,87,a,r,n,i,n,g],111,.type SL.s18039099521571816885x18),(S [E,n,c,o,d,i,n,g,87,a,r,n,i,n,g],112,.type SL.s6011586214260557989x15),(S [70,u,t,u,r,e,87,a,r,n,i,n,g],113,.type SL.s5430567037509283100x13),(S [Q,m,p,o,r,t,87,a,r,n,i,n,g],114,.type SL.s8117915138073963741x13),(S [80,e,n,d,i,n,g,68,e,p,r,e,c,a,t,i,o,n,87,a,r,n,i,n,g],115,.type SL.s3423317712779056401x25),(S [82,e,s,o,u,r,c,e,87,a,r,n,i,n,g],116,.type SL.s2007317383269046180x15),(S [82,u,n,t,i,m,e,87,a,r,n,i,n,g],117,.type SL.s17481586968713580700x14),(S [W,y,n,t,a,x,87,a,r,n,i,n,g],118,.type SL.s2450899226349176912x13),(S [85,n,i,c,o,d,e,87,a,r,n,i,n,g],119,.type SL.s16626165730633575011x14),(S [85,s,e,r,87,a,r,n,i,n,g],120,.type SL.s14288496050688921416x11),(S [B,l,o,c,k,i,n,g,Q,O,E,r,r,o,r],121,.type SL.s5735081916595925998x15),(S [67,h,i,l,d,80,r,o,c,e,s,s,E,r,r,o,r],122,.type SL.s3865607918536308442x17),(S [67,o,n,n,e,c,t,i,o,n,E,r,r,o,r],123,.type SL.s13337502604062700212x15),(S [70,i,l,e,E,x,i,s,t,s,E,r,r,o,r],124,.type SL.s13114017843053701147x15),(S [70,i,l,e,78,o,t,70,o,u,n,d,E,r,r,o,r],125,.type SL.s17467278006356818441x17),(S [Q,n,t,e,r,r,u,p,t,e,d,E,r,r,o,r],126,.type SL.s17722149559621369488x16),(S [Q,s,65,68,i,r,e,c,t,o,r,y,E,r,r,o,r],127,.type SL.s7855274175708717672x17),(S [78,o,t,65,68,i,r,e,c,t,o,r,y,E,r,r,o,r],128,.type SL.s13351283678309829046x18),(S [80,e,r,m,i,s,s,i,o,n,E,r,r,o,r],129,.type SL.s6668348653404991179x15),(S [80,r,o,c,e,s,s,76,o,o,k,u,p,E,r,r,o,r],130,.type SL.s12913350958174193794x18),(S [84,i,m,e,o,u,t,E,r,r,o,r],131,.type SL.s16115879512475548326x12),(S [Q,n,d,e,n,t,a,t,i,o,n,E,r,r,o,r],132,.type SL.s15920661018069861047x16),(S [A,Q,n,c,o,m,p,l,e,t,e,Q,n,p,u,t,E,r,r,o,r],133,.type SL.s10779130036587390575x21),(S [Q,n,d,e,x,E,r,r,o,r],134,.type SL.s7801419657504700863x10),(S [75,e,y,E,r,r,o,r],135,.type SL.s1688129525768580628x8),(S [77,o,d,u,l,e,78,o,t,70,o,u,n,d,E,r,r,o,r],136,.type SL.s1031832959479892071x19),(S [78,o,t,Q,m,p,l,e,m,e,n,t,e,d,E,r,r,o,r],137,.type SL.s8991790508128307865x19),(S [80,y,t,h,o,n,70,i,n,a,l,i,z,a,t,i,o,n,E,r,r,o,r],138,.type SL.s14539662485746970245x23),(S [82,e,c,u,r,s,i,o,n,E,r,r,o,r],139,.type SL.s11643622729373238714x14),(S [85,n,b,o,u,n,d,76,o,c,a,l,E,r,r,o,r],140,.type SL.s3386828779285465597x17),(S [85,n,i,c,o,d,e,E,r,r,o,r],141,.type SL.s13042696260734638735x12),(S [B,r,o,k,e,n,80,i,p,e,E,r,r,o,r],142,.type SL.s18239426817015966623x15),(S [67,o,n,n,e,c,t,i,o,n,65,b,o,r,t,e,d,E,r,r,o,r],143,.type SL.s1270395311379034370x22),(S [67,o,n,n,e,c,t,i,o,n,82,e,f,u,s,e,d,E,r,r,o,r],144,.type SL.s10696252587037064777x22),(S [67,o,n,n,e,c,t,i,o,n,82,e,s,e,t,E,r,r,o,r],145,.type SL.s7852717498200857586x20),(S [84,a,b,E,r,r,o,r],146,.type SL.s6377248116197321094x8),(S [85,n,i,c,o,d,e,68,e,c,o,d,e,E,r,r,o,r],147,.type SL.s3834378056692298002x18),(S [85,n,i,c,o,d,e,E,n,c,o,d,e,E,r,r,o,r],148,.type SL.s17586630440231065808x18),(S [85,n,i,c,o,d,e,84,r,a,n,s,l,a,t,e,E,r,r,o,r],149,.type SL.s15234114252648025395x21),(S [E,x,c,e,p,t,i,o,n,71,r,o,u,p],150,.type SL.s8496462677383758984x14),(S [E,n,v,i,r,o,n,m,e,n,t,E,r,r,o,r],151,.type y9),(S [Q,O,E,r,r,o,r],152,.type y9),(S [o,p,e,n],153,.builtin SL.s16789243406116112673x4),(S [q,u,i,t],154,.builtin SL.s14400166428656793546x20),(S [e,x,i,t],155,.builtin SL.s5857708277339239366x20),(S [c,o,p,y,r,i,g,h,t],156,.builtin "builtins.copyright#opaque"),(S [c,r,e,d,i,t,s],157,.builtin "builtins.credits#opaque"),(S [l,i,c,e,n,s,e],158,.builtin "builtins.license#opaque"),(S [h,e,l,p],159,.builtin SL.s7804999707787243718x20)] 159::X P [(S [b,u,i,l,t,i,n,s],162,R 4),(z160,163,R 5),(z161,244,R 12),(z162,292,R 30)] 4::l'
def c3(P:Params)(l':List Obj):List Obj:=⟨(.type y14),(some 0),.plain,⟨[]⟩⟩::⟨(.type y14),(some 3),.plain,⟨[]⟩⟩::o2::o0::o1::co [U z185 176,U z185 177,U z182 178,I 1,I 0,I 0,I 0,I 0,R 7,.bool false,I 175,R 8,N,N,N,N,I 179,I 1,U z182 180]::⟨(.type y2),none,.plain,⟨[some (R 9),some (R 3),some (R 3),none,some (U z160 164),none,some (R 0)]⟩⟩::X P [(z0,247,U z161 246),(z2,248,N),(z3,250,U (S []) 249),(z4,251,.builtin "off-the-table:_sre.__loader__:shared#opaque"),(z5,252,.builtin "off-the-table:_sre.__spec__:shared#opaque"),(S [c,o,m,p,i,l,e],253,.builtin SL.s492968859115322481x12),(S [t,e,m,p,l,a,t,e],254,.builtin "off-the-table:_sre.template:shared#opaque"),(S [g,e,t,c,o,d,e,s,i,z,e],255,.builtin "off-the-table:_sre.getcodesize:shared#opaque"),(S [a,s,c,i,i,A,i,s,c,a,s,e,d],256,.builtin "off-the-table:_sre.ascii_iscased:shared#opaque"),(S [u,n,i,c,o,d,e,A,i,s,c,a,s,e,d],257,.builtin "off-the-table:_sre.unicode_iscased:shared#opaque"),(S [a,s,c,i,i,A,t,o,l,o,w,e,r],258,.builtin "off-the-table:_sre.ascii_tolower:shared#opaque"),(S [u,n,i,c,o,d,e,A,t,o,l,o,w,e,r],259,.builtin "off-the-table:_sre.unicode_tolower:shared#opaque"),(S [77,65,71,Q,67],261,J 20230612 260),(S [67,O,68,E,W,Q,90,E],263,J 4 262),(S [77,65,88,82,E,80,E,65,84],265,J 4294967295 264),(S [77,65,88,71,82,O,85,80,W],267,J 1073741823 266),(S [c,o,p,y,r,i,g,h,t],269,(U (S [32,W,82,E,32,50,H,50,H,50,32,67,o,p,y,r,i,g,h,t,32,40,c,41,32,49,57,57,55,45,50,48,48,50,32,b,y,32,W,e,c,r,e,t,32,76,a,b,s,32,65,B,32]) 268))] 17::⟨(.type y14),(some 11),.plain,⟨[]⟩⟩::X P [(z198,189,U z199 186),(z200,190,J 971 187),(z2,191,.builtin "_frozen_importlib.BuiltinImporter.__doc__:str#opaque"),(S [A,O,82,Q,71,Q,78],192,U z202 188),(S [f,i,n,d,A,s,p,e,c],193,.builtin "_frozen_importlib.BuiltinImporter.find_spec#opaque"),(S [c,r,e,a,t,e,A,m,o,d,u,l,e],194,.builtin "_frozen_importlib.BuiltinImporter.create_module#opaque"),(S [e,x,e,c,A,m,o,d,u,l,e],195,.builtin "_frozen_importlib.BuiltinImporter.exec_module#opaque"),(S [g,e,t,A,c,o,d,e],196,.builtin "_frozen_importlib.BuiltinImporter.get_code#opaque"),(S [g,e,t,A,s,o,u,r,c,e],197,.builtin "_frozen_importlib.BuiltinImporter.get_source#opaque"),(S [i,s,A,p,a,c,k,a,g,e],198,.builtin "_frozen_importlib.BuiltinImporter.is_package#opaque"),(S [l,o,a,d,A,m,o,d,u,l,e],199,.builtin "_frozen_importlib.BuiltinImporter.load_module#opaque"),(z210,200,R 15),(z211,202,R 16),(z212,204,R 17)] 14::⟨(.type y1),none,(.cls ⟨(S [B,u,i,l,t,i,n,Q,m,p,o,r,t,e,r]),[(.type y0)],[(R 14),(.type y0)],13,S [B,u,i,l,t,i,n,Q,m,p,o,r,t,e,r],true,[],[],false,none,false⟩),⟨[]⟩⟩::o0::Y y3 [U z211 201,R 14,.builtin y15,.builtin y16]::Y y3 [U z212 203,R 14,.builtin y12,N]::⟨.none,none,(.seq ⟨[(I 13),(.str (S [V,189,10,A,A,m,o,d,u,l,e,A,A,V,186,17,A,f,r,o,z,e,n,A,i,m,p,o,r,t,l,i,b,V,190,15,A,A,f,i,r,s,t,l,i,n,e,n,o,A,A,4,187,Z,971,V,191,7,A,A,d,o,c,A,A,9,52,A,f,r,o,z,e,n,A,i,m,p,o,r,t,l,i,b,H,B,u,i,l,t,i,n,Q,m,p,o,r,t,e,r,H,A,A,d,o,c,A,A,58,s,t,r,35,o,p,a,q,u,e,V,192,7,A,O,82,Q,71,Q,78,V,188,8,b,u,i,l,t,45,i,n,V,193,9,f,i,n,d,A,s,p,e,c,9,50,A,f,r,o,z,e,n,A,i,m,p,o,r,t,l,i,b,H,B,u,i,l,t,i,n,Q,m,p,o,r,t,e,r,H,f,i,n,d,A,s,p,e,c,35,o,p,a,q,u,e,V,194,13,c,r,e,a,t,e,A,m,o,d,u,l,e,9,54,A,f,r,o,z,e,n,A,i,m,p,o,r,t,l,i,b,H,B,u,i,l,t,i,n,Q,m,p,o,r,t,e,r,H,c,r,e,a,t,e,A,m,o,d,u,l,e,35,o,p,a,q,u,e,V,195,11,e,x,e,c,A,m,o,d,u,l,e,9,52,A,f,r,o,z,e,n,A,i,m,p,o,r,t,l,i,b,H,B,u,i,l,t,i,n,Q,m,p,o,r,t,e,r,H,e,x,e,c,A,m,o,d,u,l,e,35,o,p,a,q,u,e,V,196,8,g,e,t,A,c,o,d,e,9,49,A,f,r,o,z,e,n,A,i,m,p,o,r,t,l,i,b,H,B,u,i,l,t,i,n,Q,m,p,o,r,t,e,r,H,g,e,t,A,c,o,d,e,35,o,p,a,q,u,e,V,197,10,g,e,t,A,s,o,u,r,c,e,9,51,A,f,r,o,z,e,n,A,i,m,p,o,r,t,l,i,b,H,B,u,i,l,t,i,n,Q,m,p,o,r,t,e,r,H,g,e,t,A,s,o,u,r,c,e,35,o,p,a,q,u,e,V,198,10,i,s,A,p,a,c,k,a,g,e,9,51,A,f,r,o,z,e,n,A,i,m,p,o,r,t,l,i,b,H,B,u,i,l,t,i,n,Q,m,p,o,r,t,e,r,H,i,s,A,p,a,c,k,a,g,e,35,o,p,a,q,u,e,V,199,11,l,o,a,d,A,m,o,d,u,l,e,9,52,A,f,r,o,z,e,n,A,i,m,p,o,r,t,l,i,b,H,B,u,i,l,t,i,n,Q,m,p,o,r,t,e,r,H,l,o,a,d,A,m,o,d,u,l,e,35,o,p,a,q,u,e,V,200,21,A,A,s,t,a,t,i,c,A,a,t,t,r,i,b,u,t,e,s,A,A,4,Z,Z,15,V,202,8,A,A,d,i,c,t,A,A,4,Z,Z,16,V,204,11,A,A,w,e,a,k,r,e,f,A,A,4,Z,Z,17]) 0),T,T,(U (S []) 205),(I 21),(.str (S [V,227,10,A,A,m,o,d,u,l,e,A,A,V,217,17,A,f,r,o,z,e,n,A,i,m,p,o,r,t,l,i,b,V,228,15,A,A,f,i,r,s,t,l,i,n,e,n,o,A,A,4,218,Z,562,V,229,7,A,A,d,o,c,A,A,9,47,A,f,r,o,z,e,n,A,i,m,p,o,r,t,l,i,b,H,77,o,d,u,l,e,W,p,e,c,H,A,A,d,o,c,A,A,58,s,t,r,35,o,p,a,q,u,e,V,230,8,A,A,i,n,i,t,A,A,9,44,A,f,r,o,z,e,n,A,i,m,p,o,r,t,l,i,b,H,77,o,d,u,l,e,W,p,e,c,H,A,A,i,n,i,t,A,A,35,o,p,a,q,u,e,V,231,8,A,A,r,e,p,r,A,A,9,44,A,f,r,o,z,e,n,A,i,m,p,o,r,t,l,i,b,H,77,o,d,u,l,e,W,p,e,c,H,A,A,r,e,p,r,A,A,35,o,p,a,q,u,e,V,232,V,A,A,e,q,A,A,9,42,A,f,r,o,z,e,n,A,i,m,p,o,r,t,l,i,b,H,77,o,d,u,l,e,W,p,e,c,H,A,A,e,q,A,A,35,o,p,a,q,u,e,V,233,V,c,a,c,h,e,d,9,42,A,f,r,o,z,e,n,A,i,m,p,o,r,t,l,i,b,H,77,o,d,u,l,e,W,p,e,c,H,c,a,c,h,e,d,35,o,p,a,q,u,e,V,234,V,p,a,r,e,n,t,9,42,A,f,r,o,z,e,n,A,i,m,p,o,r,t,l,i,b,H,77,o,d,u,l,e,W,p,e,c,H,p,a,r,e,n,t,35,o,p,a,q,u,e,V,235,12,h,a,s,A,l,o,c,a,t,i,o,n,9,48,A,f,r,o,z,e,n,A,i,m,p,o,r,t,l,i,b,H,77,o,d,u,l,e,W,p,e,c,H,h,a,s,A,l,o,c,a,t,i,o,n,35,o,p,a,q,u,e,V,236,21,A,A,s,t,a,t,i,c,A,a,t,t,r,i,b,u,t,e,s,A,A,4,Z,Z,23,V,238,8,A,A,d,i,c,t,A,A,4,Z,Z,24,V,240,11,A,A,w,e,a,k,r,e,f,A,A,4,Z,Z,25,V,241,8,A,A,h,a,s,h,A,A,Z]) 0),T,T,(U (S []) 242)]⟩ 1),⟨[]⟩⟩::o10::X P [(z216,208,U z161 207),(S [l,o,a,d,e,r],209,R 14),(S [o,r,i,g,i,n],210,U z202 184),(z219,211,N),(z220,212,N),(z221,213,R 19),(z222,214,.bool false),(S [A,c,a,c,h,e,d],215,N),(S [A,i,n,i,t,i,a,l,i,z,i,n,g],243,.bool false)] 9::X P [(z198,227,U z199 217),(z200,228,J 562 218),(z2,229,.builtin "_frozen_importlib.ModuleSpec.__doc__:str#opaque"),(z225,230,.builtin "_frozen_importlib.ModuleSpec.__init__#opaque"),(z226,231,.builtin "_frozen_importlib.ModuleSpec.__repr__#opaque"),(S [A,A,e,q,A,A],232,.builtin "_frozen_importlib.ModuleSpec.__eq__#opaque"),(S [c,a,c,h,e,d],233,.builtin "_frozen_importlib.ModuleSpec.cached#opaque"),(S [p,a,r,e,n,t],234,.builtin "_frozen_importlib.ModuleSpec.parent#opaque"),(S [h,a,s,A,l,o,c,a,t,i,o,n],235,.builtin "_frozen_importlib.ModuleSpec.has_location#opaque"),(z210,236,R 23),(z211,238,R 24),(z212,240,R 25),(S [A,A,h,a,s,h,A,A],241,N)] 13::⟨(.type y1),none,(.cls ⟨(S [77,o,d,u,l,e,W,p,e,c]),[(.type y0)],[(R 22),(.type y0)],21,S [77,o,d,u,l,e,W,p,e,c],true,[],[],false,none,false⟩),⟨[]⟩⟩::K 219 [S [A,c,a,c,h,e,d],z222,z221,S [l,o,a,d,e,r],z219,z216,S [o,r,i,g,i,n],z220]::Y y3 [U z211 237,R 22,.builtin y15,.builtin y16]::Y y3 [U z212 239,R 22,.builtin y12,N]::⟨(R 22),(some 20),.plain,⟨[]⟩⟩::⟨.none,none,(.seq ⟨[(I 11),(.str (S [V,247,8,A,A,n,a,m,e,A,A,V,246,4,A,s,r,e,V,248,7,A,A,d,o,c,A,A,Z,V,250,11,A,A,p,a,c,k,a,g,e,A,A,V,249,Z,V,251,10,A,A,l,o,a,d,e,r,A,A,4,Z,Z,14,V,252,8,A,A,s,p,e,c,A,A,4,Z,Z,26,V,253,7,c,o,m,p,i,l,e,9,12,A,s,r,e,H,c,o,m,p,i,l,e,V,254,8,t,e,m,p,l,a,t,e,9,13,A,s,r,e,H,t,e,m,p,l,a,t,e,V,255,11,g,e,t,c,o,d,e,s,i,z,e,9,16,A,s,r,e,H,g,e,t,c,o,d,e,s,i,z,e,V,256,13,a,s,c,i,i,A,i,s,c,a,s,e,d,9,18,A,s,r,e,H,a,s,c,i,i,A,i,s,c,a,s,e,d,V,257,15,u,n,i,c,o,d,e,A,i,s,c,a,s,e,d,9,20,A,s,r,e,H,u,n,i,c,o,d,e,A,i,s,c,a,s,e,d,V,258,13,a,s,c,i,i,A,t,o,l,o,w,e,r,9,18,A,s,r,e,H,a,s,c,i,i,A,t,o,l,o,w,e,r,V,259,15,u,n,i,c,o,d,e,A,t,o,l,o,w,e,r,9,20,A,s,r,e,H,u,n,i,c,o,d,e,A,t,o,l,o,w,e,r,V,261,5,77,65,71,Q,67,4,260,Z,20230612,V,263,8,67,O,68,E,W,Q,90,E,4,262,Z,4,V,265,9,77,65,88,82,E,80,E,65,84,4,264,Z,4294967295,V,267,9,77,65,88,71,82,O,85,80,W,4,266,Z,1073741823,V,269,9,c,o,p,y,r,i,g,h,t,V,268,53,32,W,82,E,32,50,H,50,H,50,32,67,o,p,y,r,i,g,h,t,32,40,c,41,32,49,57,57,55,45,50,48,48,50,32,b,y,32,W,e,c,r,e,t,32,76,a,b,s,32,65,B,32]) 0),T,(.bool false),(U z161 271),(I 29),(.str (S [V,296,8,A,A,n,a,m,e,A,A,V,295,12,A,c,o,l,l,e,c,t,i,o,n,s,V,297,7,A,A,d,o,c,A,A,9,31,A,c,o,l,l,e,c,t,i,o,n,s,H,A,A,d,o,c,A,A,58,s,t,r,35,o,p,a,q,u,e,V,299,11,A,A,p,a,c,k,a,g,e,A,A,V,298,Z,V,300,10,A,A,l,o,a,d,e,r,A,A,4,Z,Z,14,V,301,8,A,A,s,p,e,c,A,A,4,Z,Z,33,V,302,15,A,c,o,u,n,t,A,e,l,e,m,e,n,t,s,9,28,A,c,o,l,l,e,c,t,i,o,n,s,H,A,c,o,u,n,t,A,e,l,e,m,e,n,t,s,V,303,5,d,e,q,u,e,8,17,c,o,l,l,e,c,t,i,o,n,s,H,d,e,q,u,e,V,304,11,d,e,f,a,u,l,t,d,i,c,t,8,23,c,o,l,l,e,c,t,i,o,n,s,H,d,e,f,a,u,l,t,d,i,c,t,V,305,15,A,d,e,q,u,e,A,i,t,e,r,a,t,o,r,8,27,c,o,l,l,e,c,t,i,o,n,s,H,A,d,e,q,u,e,A,i,t,e,r,a,t,o,r,V,306,23,A,d,e,q,u,e,A,r,e,v,e,r,s,e,A,i,t,e,r,a,t,o,r,8,35,c,o,l,l,e,c,t,i,o,n,s,H,A,d,e,q,u,e,A,r,e,v,e,r,s,e,A,i,t,e,r,a,t,o,r,V,307,12,A,t,u,p,l,e,g,e,t,t,e,r,8,24,c,o,l,l,e,c,t,i,o,n,s,H,A,t,u,p,l,e,g,e,t,t,e,r,V,308,11,O,r,d,e,r,e,d,68,i,c,t,8,23,c,o,l,l,e,c,t,i,o,n,s,H,O,r,d,e,r,e,d,68,i,c,t]) 0),T,(.bool false),(U z162 310)]⟩ 1),⟨[]⟩⟩::K 277 [z184]::X P [(z0,296,U z162 295),(z2,297,.builtin "off-the-table:_collections.__doc__:shared#opaque"),(z3,299,U (S []) 298),(z4,300,.builtin "off-the-table:_collections.__loader__:shared#opaque"),(z5,301,.builtin "off-the-table:_collections.__spec__:shared#opaque"),(S [A,c,o,u,n,t,A,e,l,e,m,e,n,t,s],302,.builtin SL.s5957113450721151568x28),(z184,303,.type y10),(S [d,e,f,a,u,l,t,d,i,c,t],304,.type SL.s9278979716766391425x23),(S [A,d,e,q,u,e,A,i,t,e,r,a,t,o,r],305,.builtin "off-the-table:_collections._deque_iterator:shared#opaque"),(S [A,d,e,q,u,e,A,r,e,v,e,r,s,e,A,i,t,e,r,a,t,o,r],306,.builtin "off-the-table:_collections._deque_reverse_iterator:shared#opaque"),(S [A,t,u,p,l,e,g,e,t,t,e,r],307,.type SL.s13209474081997913071x24),(S [O,r,d,e,r,e,d,68,i,c,t],308,.type SL.s8302156878143849030x23)] 12::⟨(.type y14),(some 29),.plain,⟨[]⟩⟩::o10::X P [(z216,283,U z162 282),(S [l,o,a,d,e,r],284,R 14),(S [o,r,i,g,i,n],285,U z202 281),(z219,286,N),(z220,287,N),(z221,288,R 31),(z222,289,.bool false),(S [A,c,a,c,h,e,d],290,N),(S [A,i,n,i,t,i,a,l,i,z,i,n,g],291,.bool false)] 9::⟨(R 22),(some 32),.plain,⟨[]⟩⟩::l'
def c6(l':List Obj):List Obj:=co [U z185 319,U z185 320,U z182 321,I 1,I 0,I 0,I 0,I 0,R 34,.bool false,I 318,R 35,N,N,N,N,I 322,I 1,U z182 323]::⟨(.type y2),none,.plain,⟨[some (R 36),some (R 3),some (R 3),none,some (U z160 164),none,some (R 0)]⟩⟩::l'
def c7(P:Params)(l':List Obj):List Obj:=o0::o1::K 327 [S [k]]::o0::fq (dAt 2) z244::C z244 324 3 1 38 328::F (dAt 2) z244 (U z160 164) 43::L 336 [14,4,0,0,4294967295,6,0,24,13,0,4294967295,13,8,16,61,8,12,16,59,0,1,1]::o2::o3::M [14,4,0,0,4294967295,6,0,24,13,0,4294967295,13,8,16,61,8,12,16,59,0,1,1]::Y y7 [(U (S [94,91,61,92,s,59,93,42]) 334),J 32 359,I 0,N,N,R 48,I 0]::o0::o1::K 364 [S [m,a,t,c,h],z265,S [e,n,d]]::o0::fq (dAt 5) z246::C z246 361 8 1 50 367::F (dAt 5) z246 (U z267 331) 55::L 373 [14,4,0,1,4294967295,6,0,24,9,0,4294967295,13,4,8,12,0,1,17,0,24,19,1,4294967295,13,14,21,9,0,671092736,0,0,0,0,0,0,8,12,0,1,17,1,1]::o2::o5::M [14,4,0,1,4294967295,6,0,24,9,0,4294967295,13,4,8,12,0,1,17,0,24,19,1,4294967295,13,14,21,9,0,671092736,0,0,0,0,0,0,8,12,0,1,17,1,1]::Y y7 [(U (S [94,92,s,42,40,91,94,61,92,s,59,44,93,43,41]) 371),J 32 416,I 1,N,N,R 60,I 0]::L 421 [14,4,0,3,4294967295,6,0,24,9,0,4294967295,13,4,8,12,0,1,16,61,24,9,0,4294967295,13,4,8,12,0,1,16,34,17,0,24,12,0,4294967295,13,7,21,16,34,16,92,0,1,23,19,0,4294967295,16,92,2,24,12,0,4294967295,13,7,21,16,34,16,92,0,1,18,17,1,16,34,1]::o2::o5::M [14,4,0,3,4294967295,6,0,24,9,0,4294967295,13,4,8,12,0,1,16,61,24,9,0,4294967295,13,4,8,12,0,1,16,34,17,0,24,12,0,4294967295,13,7,21,16,34,16,92,0,1,23,19,0,4294967295,16,92,2,24,12,0,4294967295,13,7,21,16,34,16,92,0,1,18,17,1,16,34,1]::Y y7 [(U (S [94,92,s,42,61,92,s,42,92,34,40,91,94,92,34,92,92,93,42,40,63,58,92,92,H,91,94,92,34,92,92,93,42,41,42,41,92,34]) 419),J 32 494,I 1,N,N,R 65,I 0]::L 499 [14,4,0,1,4294967295,6,0,24,9,0,4294967295,13,4,8,12,0,1,16,61,24,9,0,4294967295,13,4,8,12,0,1,17,0,24,14,0,4294967295,13,9,21,8,12,16,59,16,44,0,1,17,1,1]::o2::o5::M [14,4,0,1,4294967295,6,0,24,9,0,4294967295,13,4,8,12,0,1,16,61,24,9,0,4294967295,13,4,8,12,0,1,17,0,24,14,0,4294967295,13,9,21,8,12,16,59,16,44,0,1,17,1,1]::Y y7 [(U (S [94,92,s,42,61,92,s,42,40,91,94,92,s,59,44,93,42,41]) 497),J 32 549,I 1,N,N,R 70,I 0]::L 554 [14,8,1,2,2,1,1,92,0,16,92,17,0,2,17,1,1]::o2::o5::M [14,8,1,2,2,1,1,92,0,16,92,17,0,2,17,1,1]::Y y7 [(U (S [92,92,40,H,41]) 552),J 32 572,I 1,N,N,R 75,I 0]::o0::o1::K 577 [S [h,e,a,d,e,r,A,v,a,l,u,e,s],S [r,e,s,u,l,t],z274,S [o,r,i,g,A,t,e,x,t],S [p,a,i,r,s],S [m],z216,S [v,a,l,u,e],S [n,o,n,A,j,u,n,k],S [n,r,A,j,u,n,k,A,c,h,a,r,s]]::o0::fq (dAt 10) z251::C z251 574 15 1 77 587::F (dAt 10) z251 (U z267 331) 82::L 593 [14,4,0,1,4294967295,24,16,1,4294967295,13,11,9,0,67071226,3355443198,1476395007,0,0,0,0,0,1,1]::o2::o3::M [14,4,0,1,4294967295,24,16,1,4294967295,13,11,9,0,67071226,3355443198,1476395007,0,0,0,0,0,1,1]::Y y7 [(U (S [91,33,35,36,37,38,39,42,43,92,45,H,94,A,96,124,126,48,45,57,65,45,90,a,45,z,93,43]) 591),J 32 617,I 0,N,N,R 87,I 0]::L 622 [14,9,4,1,1,16,34,16,92,0,17,0,13,6,16,34,16,92,0,17,1,1]::o2::o5::M [14,9,4,1,1,16,34,16,92,0,17,0,13,6,16,34,16,92,0,17,1,1]::Y y7 [(U (S [40,91,92,34,92,92,93,41]) 620),J 32 645,I 1,N,N,R 92,I 0]::o0::o1::K 650 [S [l,i,s,t,s],S [h,e,a,d,e,r,s],S [p,a,i,r,s],S [a,t,t,r],S [k],S [v]]::o0::fq (dAt 13) z254::C z254 647 54 1 94 656::F (dAt 13) z254 (U z267 331) 99::L 662 [14,17,4,1,1,21,9,0,604043296,1,0,0,0,0,0,8,4,0,13,14,21,9,0,604043296,1,0,0,0,0,0,8,4,0,1]::o2::o3::M [14,17,4,1,1,21,9,0,604043296,1,0,0,0,0,0,8,4,0,13,14,21,9,0,604043296,1,0,0,0,0,0,8,4,0,1]::Y y7 [(U (S [91,94,92,w,64,37,43,61,58,44,H,47,45,93]) 660),J 256 697,I 0,N,N,R 104,I 0]::o0::o1::K 704 [S [n],S [w,h,a,t]]::o0::fq (dAt 16) z256::C z256 701 70 2 106 706::F (dAt 16) z256 (U z243 699) 111::o0::o1::K 712 [S [n],S [w,h,a,t]]::o0::fq (dAt 17) z257::C z257 709 75 2 113 714::F (dAt 17) z257 (U z243 699) 118::tp [.type y9,.type y13]::o4::X P [(z198,724,U z243 729),(z290,726,U z258 725),(z200,728,J 82 727),(z210,731,R 127)] 4::o0::o1::co [U z258 719,U z258 720,U z182 721,I 82,I 0,I 0,I 0,I 0,R 123,.bool false,I 318,R 124,N,N,N,N,I 722,I 82,U z182 723]::⟨(.type y2),none,.plain,⟨[some (R 125),some (R 3),some (R 122),none,some (U z243 699),none,some (R 0)]⟩⟩::o0::X P [(z198,724,U z243 729),(z200,728,J 82 727),(z210,731,R 127),(z212,733,R 130),(z2,734,N)] 3::⟨(.type y1),none,(.cls ⟨z258,[(.type y9),(.type y13)],[(R 129),(.type y9),(.type y13),(.type y19),(.type y18),(.type y0)],128,z258,true,[],[],false,none,false⟩),⟨[some (R 120),none,some (U z258 717),some (U z258 725),some (.builtin SL.s2438369993680799366x15),some T]⟩⟩::Y y3 [U z212 732,R 129,.builtin y12,N]::Y y6 [R 129,R 129,R 129]::Y y4 [.builtin y8,R 129]::o0::o4::X P [(z198,746,U z243 751),(z290,748,U z259 747),(z200,750,J 84 749),(S [A,A,n,e,w,A,A],761,R 146),(z210,762,R 147)] 5::o0::D 4 [(87,145)]::co [U z259 741,U z259 742,U z182 743,I 84,I 0,I 0,I 0,I 0,R 136,.bool false,I 318,R 137,N,N,N,N,I 744,I 84,U z182 745]::⟨(.type y2),none,.plain,⟨[some (R 138),some (R 3),some (R 135),none,some (U z243 699),none,some (R 0)]⟩⟩::o0::o1::K 756 [S [c,l,s],S [a,r,g,s],S [k,w,a,r,g,s]]::o0::fq (mAt 19 1) z295::ck (S [A,A,n,e,w,A,A]) z295 753 z182 87 1 1 0 15 140 (R 141) N (R 142) (R 143) (R 144) 759::F (mAt 19 1) z295 (U z243 699) 145::o0::X P [(z198,746,U z243 751),(z200,750,J 84 749),(S [A,A,n,e,w,A,A],761,R 150),(z210,762,R 147),(z211,765,R 151),(z212,767,R 152),(z2,768,N)] 4::⟨(.type y1),none,(.cls ⟨z259,[(.type y0)],[(R 149),(.type y0)],148,z259,true,[],[(R 164),(R 176)],false,none,false⟩),⟨[none,none,some (U z259 739),some (U z259 747),some N,some T]⟩⟩::Y y17 [R 146]::Y y3 [U z211 764,R 149,.builtin y15,.builtin y16]::Y y3 [U z212 766,R 149,.builtin y12,N]::Y y6 [R 149,R 149,R 149]::Y y4 [.builtin y8,R 149]::o11::o4::X P [(z198,778,U z243 783),(z290,780,U z260 779),(z200,782,J 91 781),(z210,785,R 162)] 4::o0::o1::co [U z260 773,U z260 774,U z182 775,I 91,I 0,I 0,I 0,I 0,R 158,.bool false,I 318,R 159,N,N,N,N,I 776,I 91,U z182 777]::⟨(.type y2),none,.plain,⟨[some (R 160),some (R 3),some (R 157),none,some (U z243 699),none,some (R 0)]⟩⟩::o0::X P [(z198,778,U z243 783),(z200,782,J 91 781),(z210,785,R 162),(z2,786,N)] 2::l'
def c9(P:Params)(l':List Obj):List Obj:=Y y6 [R 164,R 164,R 164]::Y y4 [.builtin y8,R 164]::o11::o4::X P [(z198,796,U z243 801),(z290,798,U z261 797),(z200,800,J 93 799),(z210,803,R 174)] 4::o0::o1::co [U z261 791,U z261 792,U z182 793,I 93,I 0,I 0,I 0,I 0,R 170,.bool false,I 318,R 171,N,N,N,N,I 794,I 93,U z182 795]::⟨(.type y2),none,.plain,⟨[some (R 172),some (R 3),some (R 169),none,some (U z243 699),none,some (R 0)]⟩⟩::o0::X P [(z198,796,U z243 801),(z200,800,J 93 799),(z210,803,R 174),(z2,804,N)] 2::l'
def c11(l':List Obj):List Obj:=Y y6 [R 176,R 176,R 176]::Y y4 [.builtin y8,R 176]::l'
def c12(P:Params)(l':List Obj):List Obj:=tp [R 164]::o4::X P [(z198,814,U (S [A,i,o]) 819),(z290,816,U z296 815),(z200,818,J 95 817),(z225,828,R 193),(S [A,B,y,t,e,s,Q,O,A,A,c,h,e,c,k],835,R 200),(S [A,B,y,t,e,s,Q,O,A,A,l,i,n,e],846,R 207),(z300,854,R 215),(z301,861,R 222),(z302,868,R 229),(z303,876,R 236),(z304,883,R 243),(z305,890,R 250),(z306,897,R 257),(z307,904,R 264),(z308,911,R 271),(z309,918,R 278),(z310,925,R 285),(z311,932,R 292),(z312,939,R 299),(z313,946,R 306),(z314,956,R 314),(z315,964,R 322),(z316,976,R 330),(S [r,e,a,d,49],986,R 338),(z318,996,R 345),(z319,1004,R 352),(z320,1014,R 360),(z321,1022,R 368),(z322,1029,R 375),(z323,1037,R 382),(z324,1047,R 389),(z325,1055,R 396),(z226,1062,R 403),(z210,1065,R 404)] 34::o0::D 4 [(98,192),(104,199),(108,206),(122,213),(125,221),(128,228),(132,235),(135,242),(139,249),(143,256),(147,263),(151,270),(154,277),(157,284),(160,291),(163,298),(166,305),(170,313),(187,321),(190,329),(204,337),(207,344),(221,351),(224,359),(231,367),(234,374),(237,381),(244,388),(260,395),(263,402)]::co [U z296 809,U z296 810,U z182 811,I 95,I 0,I 0,I 0,I 0,R 182,.bool false,I 318,R 183,N,N,N,N,I 812,I 95,U z182 813]::⟨(.type y2),none,.plain,⟨[some (R 184),some (R 3),some (R 181),none,some (U z243 699),none,some (R 0)]⟩⟩::o3::o0::o1::K 824 [z326,S [i,n,i,t,i,a,l,A,b,y,t,e,s]]::o0::fq (mAt 22 1) z328::ck z225 z328 821 z182 98 2 0 0 3 187 (R 188) N (R 189) (R 190) (R 191) 826::fo (mAt 22 1) z328 (R 186) (U z243 699) (R 192)::o0::o1::K 832 [z326]::o0::fq (mAt 22 2) z329::ck (S [A,A,c,h,e,c,k]) z329 829 z182 104 1 0 0 3 194 (R 195) N (R 196) (R 197) (R 198) 833::F (mAt 22 2) z329 (U z243 699) 199::o0::o1::K 839 [z326,S [l,i,m,i,t],z265,S [s,t,o,p],S [i]]::o0::fq (mAt 22 3) z334::ck (S [A,A,l,i,n,e]) z334 836 z182 108 2 0 0 3 201 (R 202) N (R 203) (R 204) (R 205) 844::F (mAt 22 3) z334 (U z243 699) 206::o0::o1::K 850 [z326]::o0::fq (mAt 22 4) z336::ck z300 z336 847 z182 121 1 0 0 3 208 (R 209) N (R 210) (R 211) (R 212) 851::F (mAt 22 4) z336 (U z243 699) 213::Y y5 [R 214,N,N,N,U z300 854,.bool false]::o0::o1::K 858 [z326]::o0::fq (mAt 22 5) z337::ck z301 z337 855 z182 125 1 0 0 3 216 (R 217) N (R 218) (R 219) (R 220) 859::F (mAt 22 5) z337 (U z243 699) 221::o0::o1::K 865 [z326]::o0::fq (mAt 22 6) z338::ck z302 z338 862 z182 128 1 0 0 3 223 (R 224) N (R 225) (R 226) (R 227) 866::F (mAt 22 6) z338 (U z243 699) 228::o0::o1::K 872 [z326,S [a,r,g,s]]::o0::fq (mAt 22 7) z339::ck z303 z339 869 z182 132 1 0 0 7 230 (R 231) N (R 232) (R 233) (R 234) 874::F (mAt 22 7) z339 (U z243 699) 235::o0::o1::K 880 [z326]::o0::fq (mAt 22 8) z340::ck z304 z340 877 z182 135 1 0 0 3 237 (R 238) N (R 239) (R 240) (R 241) 881::F (mAt 22 8) z340 (U z243 699) 242::o0::o1::K 887 [z326]::o0::fq (mAt 22 9) z341::ck z305 z341 884 z182 139 1 0 0 3 244 (R 245) N (R 246) (R 247) (R 248) 888::F (mAt 22 9) z341 (U z243 699) 249::o0::o1::K 894 [z326]::o0::fq (mAt 22 10) z342::ck z306 z342 891 z182 143 1 0 0 3 251 (R 252) N (R 253) (R 254) (R 255) 895::F (mAt 22 10) z342 (U z243 699) 256::o0::o1::K 901 [z326]::o0::fq (mAt 22 11) z343::ck z307 z343 898 z182 147 1 0 0 3 258 (R 259) N (R 260) (R 261) (R 262) 902::F (mAt 22 11) z343 (U z243 699) 263::o0::o1::K 908 [z326]::o0::fq (mAt 22 12) z344::ck z308 z344 905 z182 151 1 0 0 3 265 (R 266) N (R 267) (R 268) (R 269) 909::F (mAt 22 12) z344 (U z243 699) 270::o0::o1::K 915 [z326]::o0::fq (mAt 22 13) z345::ck z309 z345 912 z182 154 1 0 0 3 272 (R 273) N (R 274) (R 275) (R 276) 916::F (mAt 22 13) z345 (U z243 699) 277::o0::o1::K 922 [z326]::o0::fq (mAt 22 14) z346::ck z310 z346 919 z182 157 1 0 0 3 279 (R 280) N (R 281) (R 282) (R 283) 923::F (mAt 22 14) z346 (U z243 699) 284::o0::o1::K 929 [z326]::o0::fq (mAt 22 15) z347::ck z311 z347 926 z182 160 1 0 0 3 286 (R 287) N (R 288) (R 289) (R 290) 930::F (mAt 22 15) z347 (U z243 699) 291::o0::o1::K 936 [z326]::o0::fq (mAt 22 16) z348::ck z312 z348 933 z182 163 1 0 0 3 293 (R 294) N (R 295) (R 296) (R 297) 937::F (mAt 22 16) z348 (U z243 699) 298::o0::o1::K 943 [z326]::o0::fq (mAt 22 17) z349::ck z313 z349 940 z182 166 1 0 0 3 300 (R 301) N (R 302) (R 303) (R 304) 944::F (mAt 22 17) z349 (U z243 699) 305::tp [J 0 947]::o0::o1::K 951 [z326,S [p,o,s],S [w,h,e,n,c,e]]::o0::fq (mAt 22 18) z352::ck z314 z352 948 z182 170 3 3 0 3 308 (R 309) N (R 310) (R 311) (R 312) 954::fo (mAt 22 18) z352 (R 307) (U z243 699) (R 313)::o3::o0::o1::K 960 [z326,z353]::o0::fq (mAt 22 19) z354::ck z315 z354 957 z182 187 2 2 0 3 316 (R 317) N (R 318) (R 319) (R 320) 962::fo (mAt 22 19) z354 (R 315) (U z243 699) (R 321)::tp [(.int (-1) 966)]::o0::o1::K 970 [z326,z353,z265,S [s,t,o,p]]::o0::fq (mAt 22 20) z355::ck z316 z355 967 z182 190 2 2 0 3 324 (R 325) N (R 326) (R 327) (R 328) 974::fo (mAt 22 20) z355 (R 323) (U z243 699) (R 329)::tp [(.int (-1) 978)]::o0::o1::K 982 [z326,z353]::o0::fq (mAt 22 21) z356::ck (S [r,e,a,d,49]) z356 979 z182 204 2 2 0 3 332 (R 333) N (R 334) (R 335) (R 336) 984::fo (mAt 22 21) z356 (R 331) (U z243 699) (R 337)::o0::o1::K 990 [z326,S [b,u,f,f,e,r],z265,S [n]]::o0::fq (mAt 22 22) z358::ck z318 z358 987 z182 207 2 2 0 3 339 (R 340) N (R 341) (R 342) (R 343) 994::F (mAt 22 22) z358 (U z243 699) 344::o0::o1::K 1000 [z326,S [b,u,f,f,e,r]]::o0::fq (mAt 22 23) z359::ck z319 z359 997 z182 221 2 2 0 3 346 (R 347) N (R 348) (R 349) (R 350) 1002::F (mAt 22 23) z359 (U z243 699) 351::tp [(.int (-1) 1006)]::o0::o1::K 1010 [z326,z353]::o0::fq (mAt 22 24) z360::ck z320 z360 1007 z182 224 2 2 0 3 354 (R 355) N (R 356) (R 357) (R 358) 1012::fo (mAt 22 24) z360 (R 353) (U z243 699) (R 359)::o3::o0::o1::K 1018 [z326,z353]::o0::fq (mAt 22 25) z361::ck z321 z361 1015 z182 231 2 2 0 3 362 (R 363) N (R 364) (R 365) (R 366) 1020::fo (mAt 22 25) z361 (R 361) (U z243 699) (R 367)::o0::o1::K 1026 [z326]::o0::fq (mAt 22 26) z362::ck z322 z362 1023 z182 234 1 0 0 3 369 (R 370) N (R 371) (R 372) (R 373) 1027::F (mAt 22 26) z362 (U z243 699) 374::o0::o1::K 1033 [z326,S [l,i,n,e]]::o0::fq (mAt 22 27) z364::ck z323 z364 1030 z182 237 1 0 0 3 376 (R 377) N (R 378) (R 379) (R 380) 1035::F (mAt 22 27) z364 (U z243 699) 381::o0::o1::K 1041 [z326,S [b],S [n],z265]::o0::fq (mAt 22 28) z366::ck z324 z366 1038 z182 244 2 2 0 3 383 (R 384) N (R 385) (R 386) (R 387) 1045::F (mAt 22 28) z366 (U z243 699) 388::o0::o1::K 1051 [z326,S [l,i,n,e,s]]::o0::fq (mAt 22 29) z368::ck z325 z368 1048 z182 260 2 2 0 3 390 (R 391) N (R 392) (R 393) (R 394) 1053::F (mAt 22 29) z368 (U z243 699) 395::o0::o1::K 1059 [z326]::o0::fq (mAt 22 30) z369::ck z226 z369 1056 z182 263 1 0 0 3 397 (R 398) N (R 399) (R 400) (R 401) 1060::F (mAt 22 30) z369 (U z243 699) 402::K 1063 [S [A,A,b,u,f],S [A,A,p,o,s]]::X P [(z198,814,U (S [A,i,o]) 819),(z200,818,J 95 817),(z225,828,R 193),(S [A,B,y,t,e,s,Q,O,A,A,c,h,e,c,k],835,R 200),(S [A,B,y,t,e,s,Q,O,A,A,l,i,n,e],846,R 207),(z300,854,R 215),(z301,861,R 222),(z302,868,R 229),(z303,876,R 236),(z304,883,R 243),(z305,890,R 250),(z306,897,R 257),(z307,904,R 264),(z308,911,R 271),(z309,918,R 278),(z310,925,R 285),(z311,932,R 292),(z312,939,R 299),(z313,946,R 306),(z314,956,R 314),(z315,964,R 322),(z316,976,R 330),(S [r,e,a,d,49],986,R 338),(z318,996,R 345),(z319,1004,R 352),(z320,1014,R 360),(z321,1022,R 368),(z322,1029,R 375),(z323,1037,R 382),(z324,1047,R 389),(z325,1055,R 396),(z226,1062,R 403),(z210,1065,R 404),(z2,1066,N)] 2::⟨(.type y1),none,(.cls ⟨z296,[(R 164)],[(R 406),(R 164),(R 149),(.type y0)],405,z296,true,[],[],false,none,false⟩),⟨[some (R 179),none,some (U z296 807),some (U z296 815),some N,some T]⟩⟩::Y y6 [R 406,R 406,R 406]::Y y4 [.builtin y8,R 406]::l'
def c13(P:Params)(l':List Obj):List Obj:=tp [R 176]::o4::X P [(z198,1076,U (S [A,i,o]) 1081),(z290,1078,U z373 1077),(z200,1080,J 265 1079),(z225,1093,R 423),(z381,1102,R 430),(S [A,W,t,r,i,n,g,Q,O,A,A,c,h,e,c,k],1109,R 437),(z383,1116,R 444),(S [A,W,t,r,i,n,g,Q,O,A,A,l,i,n,e],1131,R 451),(z300,1139,R 459),(z385,1147,R 467),(z386,1155,R 475),(z387,1163,R 483),(z388,1171,R 491),(z301,1178,R 498),(z302,1185,R 505),(z303,1193,R 512),(z304,1200,R 519),(z305,1207,R 526),(z306,1214,R 533),(z307,1221,R 540),(z308,1228,R 547),(z309,1235,R 554),(z310,1242,R 561),(z311,1249,R 568),(z313,1256,R 575),(z314,1266,R 583),(z315,1274,R 591),(z316,1286,R 599),(z320,1296,R 607),(z321,1306,R 615),(z322,1313,R 622),(z323,1321,R 629),(z324,1333,R 636),(z325,1341,R 643),(z226,1348,R 650),(z210,1352,R 651)] 36::o0::D 4 [(268,422),(281,429),(289,436),(293,443),(297,450),(330,457),(334,465),(338,473),(342,481),(346,489),(349,497),(352,504),(356,511),(359,518),(363,525),(367,532),(371,539),(375,546),(378,553),(381,560),(384,567),(387,574),(391,582),(408,590),(411,598),(425,606),(432,614),(435,621),(439,628),(446,635),(465,642),(468,649)]::co [U z373 1071,U z373 1072,U z182 1073,I 265,I 0,I 0,I 0,I 0,R 412,.bool false,I 318,R 413,N,N,N,N,I 1074,I 265,U z182 1075]::⟨(.type y2),none,.plain,⟨[some (R 414),some (R 3),some (R 411),none,some (U z243 699),none,some (R 0)]⟩⟩::K 1083 [S [],S [10]]::o0::o1::K 1088 [z326,S [i,n,i,t,i,a,l,A,v,a,l,u,e],S [n,e,w,l,i,n,e]]::o0::fq (mAt 23 1) z392::ck z225 z392 1085 z182 268 3 0 0 3 417 (R 418) N (R 419) (R 420) (R 421) 1091::fo (mAt 23 1) z392 (R 416) (U z243 699) (R 422)::o0::o1::K 1097 [z326,S [s],S [n,e,w,l,i,n,e]]::o0::fq (mAt 23 2) z394::ck (S [A,A,t,r,a,n,s,l,a,t,e,d]) z394 1094 z182 281 2 0 0 3 424 (R 425) N (R 426) (R 427) (R 428) 1100::F (mAt 23 2) z394 (U z243 699) 429::o0::o1::K 1106 [z326]::o0::fq (mAt 23 3) z396::ck (S [A,A,c,h,e,c,k]) z396 1103 z182 289 1 0 0 3 431 (R 432) N (R 433) (R 434) (R 435) 1107::F (mAt 23 3) z396 (U z243 699) 436::o0::o1::K 1113 [z326]::o0::fq (mAt 23 4) z397::ck (S [A,A,c,h,e,c,k,A,d,o,t]) z397 1110 z182 293 1 0 0 3 438 (R 439) N (R 440) (R 441) (R 442) 1114::F (mAt 23 4) z397 (U z243 699) 443::o0::o1::K 1120 [z326,S [l,i,m,i,t],z265,S [s,t,o,p],S [c,u,t],S [n,e,w,l,i,n,e],S [i],S [j],S [e,n,d]]::o0::fq (mAt 23 5) z401::ck (S [A,A,l,i,n,e]) z401 1117 z182 297 2 0 0 3 445 (R 446) N (R 447) (R 448) (R 449) 1129::F (mAt 23 5) z401 (U z243 699) 450::o0::o1::K 1135 [z326]::o0::fq (mAt 23 6) z402::ck z300 z402 1132 z182 329 1 0 0 3 452 (R 453) N (R 454) (R 455) (R 456) 1136::F (mAt 23 6) z402 (U z243 699) 457::Y y5 [R 458,N,N,N,U z300 1139,.bool false]::o0::o1::K 1143 [z326]::o0::fq (mAt 23 7) z403::ck z385 z403 1140 z182 333 1 0 0 3 460 (R 461) N (R 462) (R 463) (R 464) 1144::F (mAt 23 7) z403 (U z243 699) 465::Y y5 [R 466,N,N,N,U z385 1147,.bool false]::o0::o1::K 1151 [z326]::o0::fq (mAt 23 8) z404::ck z386 z404 1148 z182 337 1 0 0 3 468 (R 469) N (R 470) (R 471) (R 472) 1152::F (mAt 23 8) z404 (U z243 699) 473::Y y5 [R 474,N,N,N,U z386 1155,.bool false]::o0::o1::K 1159 [z326]::o0::fq (mAt 23 9) z405::ck z387 z405 1156 z182 341 1 0 0 3 476 (R 477) N (R 478) (R 479) (R 480) 1160::F (mAt 23 9) z405 (U z243 699) 481::Y y5 [R 482,N,N,N,U z387 1163,.bool false]::o0::o1::K 1167 [z326]::o0::fq (mAt 23 10) z406::ck z388 z406 1164 z182 345 1 0 0 3 484 (R 485) N (R 486) (R 487) (R 488) 1168::F (mAt 23 10) z406 (U z243 699) 489::Y y5 [R 490,N,N,N,U z388 1171,.bool false]::o0::o1::K 1175 [z326]::o0::fq (mAt 23 11) z407::ck z301 z407 1172 z182 349 1 0 0 3 492 (R 493) N (R 494) (R 495) (R 496) 1176::F (mAt 23 11) z407 (U z243 699) 497::o0::o1::K 1182 [z326]::o0::fq (mAt 23 12) z408::ck z302 z408 1179 z182 352 1 0 0 3 499 (R 500) N (R 501) (R 502) (R 503) 1183::F (mAt 23 12) z408 (U z243 699) 504::o0::o1::K 1189 [z326,S [a,r,g,s]]::o0::fq (mAt 23 13) z409::ck z303 z409 1186 z182 356 1 0 0 7 506 (R 507) N (R 508) (R 509) (R 510) 1191::F (mAt 23 13) z409 (U z243 699) 511::o0::o1::K 1197 [z326]::o0::fq (mAt 23 14) z410::ck z304 z410 1194 z182 359 1 0 0 3 513 (R 514) N (R 515) (R 516) (R 517) 1198::F (mAt 23 14) z410 (U z243 699) 518::o0::o1::K 1204 [z326]::o0::fq (mAt 23 15) z411::ck z305 z411 1201 z182 363 1 0 0 3 520 (R 521) N (R 522) (R 523) (R 524) 1205::F (mAt 23 15) z411 (U z243 699) 525::o0::o1::K 1211 [z326]::o0::fq (mAt 23 16) z412::ck z306 z412 1208 z182 367 1 0 0 3 527 (R 528) N (R 529) (R 530) (R 531) 1212::F (mAt 23 16) z412 (U z243 699) 532::o0::o1::K 1218 [z326]::o0::fq (mAt 23 17) z413::ck z307 z413 1215 z182 371 1 0 0 3 534 (R 535) N (R 536) (R 537) (R 538) 1219::F (mAt 23 17) z413 (U z243 699) 539::o0::o1::K 1225 [z326]::o0::fq (mAt 23 18) z414::ck z308 z414 1222 z182 375 1 0 0 3 541 (R 542) N (R 543) (R 544) (R 545) 1226::F (mAt 23 18) z414 (U z243 699) 546::o0::o1::K 1232 [z326]::o0::fq (mAt 23 19) z415::ck z309 z415 1229 z182 378 1 0 0 3 548 (R 549) N (R 550) (R 551) (R 552) 1233::F (mAt 23 19) z415 (U z243 699) 553::o0::o1::K 1239 [z326]::o0::fq (mAt 23 20) z416::ck z310 z416 1236 z182 381 1 0 0 3 555 (R 556) N (R 557) (R 558) (R 559) 1240::F (mAt 23 20) z416 (U z243 699) 560::o0::o1::K 1246 [z326]::o0::fq (mAt 23 21) z417::ck z311 z417 1243 z182 384 1 0 0 3 562 (R 563) N (R 564) (R 565) (R 566) 1247::F (mAt 23 21) z417 (U z243 699) 567::o0::o1::K 1253 [z326]::o0::fq (mAt 23 22) z418::ck z313 z418 1250 z182 387 1 0 0 3 569 (R 570) N (R 571) (R 572) (R 573) 1254::F (mAt 23 22) z418 (U z243 699) 574::tp [J 0 1257]::o0::o1::K 1261 [z326,S [p,o,s],S [w,h,e,n,c,e]]::o0::fq (mAt 23 23) z419::ck z314 z419 1258 z182 391 3 3 0 3 577 (R 578) N (R 579) (R 580) (R 581) 1264::fo (mAt 23 23) z419 (R 576) (U z243 699) (R 582)::o3::o0::o1::K 1270 [z326,S [p,o,s]]::o0::fq (mAt 23 24) z420::ck z315 z420 1267 z182 408 2 2 0 3 585 (R 586) N (R 587) (R 588) (R 589) 1272::fo (mAt 23 24) z420 (R 584) (U z243 699) (R 590)::tp [(.int (-1) 1276)]::o0::o1::K 1280 [z326,z353,z265,S [s,t,o,p]]::o0::fq (mAt 23 25) z421::ck z316 z421 1277 z182 411 2 2 0 3 593 (R 594) N (R 595) (R 596) (R 597) 1284::fo (mAt 23 25) z421 (R 592) (U z243 699) (R 598)::tp [(.int (-1) 1288)]::o0::o1::K 1292 [z326,z353]::o0::fq (mAt 23 26) z422::ck z320 z422 1289 z182 425 2 2 0 3 601 (R 602) N (R 603) (R 604) (R 605) 1294::fo (mAt 23 26) z422 (R 600) (U z243 699) (R 606)::tp [(.int (-1) 1298)]::o0::o1::K 1302 [z326,S [h,i,n,t]]::o0::fq (mAt 23 27) z424::ck z321 z424 1299 z182 432 2 2 0 3 609 (R 610) N (R 611) (R 612) (R 613) 1304::fo (mAt 23 27) z424 (R 608) (U z243 699) (R 614)::o0::o1::K 1310 [z326]::o0::fq (mAt 23 28) z425::ck z322 z425 1307 z182 435 1 0 0 3 616 (R 617) N (R 618) (R 619) (R 620) 1311::F (mAt 23 28) z425 (U z243 699) 621::o0::o1::K 1317 [z326,S [l,i,n,e]]::o0::fq (mAt 23 29) z426::ck z323 z426 1314 z182 439 1 0 0 3 623 (R 624) N (R 625) (R 626) (R 627) 1319::F (mAt 23 29) z426 (U z243 699) 628::o0::o1::K 1325 [z326,S [s],S [n],S [m],z265,S [b,u,f]]::o0::fq (mAt 23 30) z428::ck z324 z428 1322 z182 446 2 2 0 3 630 (R 631) N (R 632) (R 633) (R 634) 1331::F (mAt 23 30) z428 (U z243 699) 635::o0::o1::K 1337 [z326,S [l,i,n,e,s]]::o0::fq (mAt 23 31) z429::ck z325 z429 1334 z182 465 2 2 0 3 637 (R 638) N (R 639) (R 640) (R 641) 1339::F (mAt 23 31) z429 (U z243 699) 642::o0::o1::K 1345 [z326]::o0::fq (mAt 23 32) z430::ck z226 z430 1342 z182 468 1 0 0 3 644 (R 645) N (R 646) (R 647) (R 648) 1346::F (mAt 23 32) z430 (U z243 699) 649::K 1349 [S [A,A,b,u,f],S [A,A,n,e,w,l,i,n,e],S [A,A,p,o,s]]::X P [(z198,1076,U (S [A,i,o]) 1081),(z200,1080,J 265 1079),(z225,1093,R 423),(z381,1102,R 430),(S [A,W,t,r,i,n,g,Q,O,A,A,c,h,e,c,k],1109,R 437),(z383,1116,R 444),(S [A,W,t,r,i,n,g,Q,O,A,A,l,i,n,e],1131,R 451),(z300,1139,R 459),(z385,1147,R 467),(z386,1155,R 475),(z387,1163,R 483),(z388,1171,R 491),(z301,1178,R 498),(z302,1185,R 505),(z303,1193,R 512),(z304,1200,R 519),(z305,1207,R 526),(z306,1214,R 533),(z307,1221,R 540),(z308,1228,R 547),(z309,1235,R 554),(z310,1242,R 561),(z311,1249,R 568),(z313,1256,R 575),(z314,1266,R 583),(z315,1274,R 591),(z316,1286,R 599),(z320,1296,R 607),(z321,1306,R 615),(z322,1313,R 622),(z323,1321,R 629),(z324,1333,R 636),(z325,1341,R 643),(z226,1348,R 650),(z210,1352,R 651),(z2,1353,N)] 2::⟨(.type y1),none,(.cls ⟨z373,[(R 176)],[(R 653),(R 176),(R 149),(.type y0)],652,z373,true,[],[],false,none,false⟩),⟨[some (R 409),none,some (U z373 1069),some (U z373 1077),some N,some T]⟩⟩::Y y6 [R 653,R 653,R 653]::Y y4 [.builtin y8,R 653]::o0::o1::K 1361 [z216,S [x],S [t]]::o0::fq (dAt 25) z374::C z374 1358 471 2 656 1364::F (dAt 25) z374 (U z434 1356) 661::o0::o1::K 1370 [z216,S [x],S [k]]::o0::fq (dAt 26) z375::C z375 1367 492 2 663 1373::F (dAt 26) z375 (U z434 1356) 668::o0::o1::K 1379 [S [f,u,n,c,n,a,m,e],S [a,r,g,s],S [s],S [k]]::o0::fq (dAt 27) z376::ck z376 z376 1376 z182 497 1 0 0 7 670 (R 671) N (R 672) (R 673) (R 674) 1383::F (dAt 27) z376 (U z434 1356) 675::o0::o1::K 1389 [S [s]]::o0::fq (dAt 28) z377::C z377 1386 502 1 677 1390::F (dAt 28) z377 (U z434 1356) 682::o0::o1::K 1396 [S [a],S [p],S [b],S [s,e,p],S [p,a,t,h]]::o0::fq (dAt 29) z378::ck z378 z378 1393 z182 505 1 0 0 7 684 (R 685) N (R 686) (R 687) (R 688) 1401::F (dAt 29) z378 (U z434 1356) 689::o0::o1::K 1408 [S [p],S [s,e,p],S [i],S [h,e,a,d]]::o0::fq (dAt 31) z380::C z380 1405 526 1 691 1412::F (dAt 31) z380 (U z434 1356) 696::l'
def c14(P:Params)(l':List Obj):List Obj:=o0::o4::X P [(z198,1424,U z372 1415),(z290,1426,U z442 1425),(z200,1428,J 535 1427),(z225,1440,R 712),(z460,1448,R 720),(z461,1456,R 727),(z462,1465,R 735),(z463,1472,R 742),(z464,1484,R 749),(z465,1495,R 756),(z466,1503,R 763),(z467,1512,R 771),(z322,1519,R 778),(z323,1527,R 785),(z210,1548,R 786)] 15::o0::D 4 [(537,711),(579,718),(582,726),(585,734),(598,741),(605,748),(632,755),(769,762),(776,770),(779,777),(782,784)]::co [U z442 1419,U z442 1420,U z182 1421,I 535,I 0,I 0,I 0,I 0,R 701,.bool false,I 318,R 702,N,N,N,N,I 1422,I 535,U z182 1423]::⟨(.type y2),none,.plain,⟨[some (R 703),some (R 3),some (R 700),none,some (U z372 1415),none,some (R 0)]⟩⟩::tp [N,N,.bool false,.bool false]::o0::o1::K 1432 [z326,S [i,n,s,t,r,e,a,m],S [i,n,f,i,l,e],S [p,o,s,i,x],z460,S [t]]::o0::fq (mAt 33 0) z471::ck z225 z471 1429 z182 537 5 0 0 3 706 (R 707) N (R 708) (R 709) (R 710) 1438::fo (mAt 33 0) z471 (R 705) (U z372 1415) (R 711)::o0::o1::K 1444 [z326]::o0::fq (mAt 33 1) z472::ck z460 z472 1441 z182 578 1 0 0 3 713 (R 714) N (R 715) (R 716) (R 717) 1445::F (mAt 33 1) z472 (U z372 1415) 718::Y y5 [R 719,N,N,N,U z460 1448,.bool false]::o0::o1::K 1452 [z326,S [t,o,k]]::o0::fq (mAt 33 2) z474::ck z461 z474 1449 z182 582 2 0 0 3 721 (R 722) N (R 723) (R 724) (R 725) 1454::F (mAt 33 2) z474 (U z372 1415) 726::o3::o0::o1::K 1460 [z326,S [n,e,w,s,t,r,e,a,m],S [n,e,w,f,i,l,e]]::o0::fq (mAt 33 3) z477::ck z462 z477 1457 z182 585 3 0 0 3 729 (R 730) N (R 731) (R 732) (R 733) 1463::fo (mAt 33 3) z477 (R 728) (U z372 1415) (R 734)::o0::o1::K 1469 [z326]::o0::fq (mAt 33 4) z478::ck z463 z478 1466 z182 598 1 0 0 3 736 (R 737) N (R 738) (R 739) (R 740) 1470::F (mAt 33 4) z478 (U z372 1415) 741::o0::o1::K 1476 [z326,S [t,o,k],S [r,a,w],S [s,p,e,c],S [n,e,w,f,i,l,e],S [n,e,w,s,t,r,e,a,m]]::o0::fq (mAt 33 5) z481::ck z464 z481 1473 z182 605 1 0 0 3 743 (R 744) N (R 745) (R 746) (R 747) 1482::F (mAt 33 5) z481 (U z372 1415) 748::o0::o1::K 1488 [z326,S [q,u,o,t,e,d],S [e,s,c,a,p,e,d,s,t,a,t,e],S [n,e,x,t,c,h,a,r],S [r,e,s,u,l,t]]::o0::fq (mAt 33 6) z485::ck z465 z485 1485 z182 632 1 0 0 3 750 (R 751) N (R 752) (R 753) (R 754) 1493::F (mAt 33 6) z485 (U z372 1415) 755::o0::o1::K 1499 [z326,S [n,e,w,f,i,l,e]]::o0::fq (mAt 33 7) z486::ck z466 z486 1496 z182 769 2 0 0 3 757 (R 758) N (R 759) (R 760) (R 761) 1501::F (mAt 33 7) z486 (U z372 1415) 762::o5::o0::o1::K 1507 [z326,S [i,n,f,i,l,e],S [l,i,n,e,n,o]]::o0::fq (mAt 33 8) z488::ck z467 z488 1504 z182 776 3 0 0 3 765 (R 766) N (R 767) (R 768) (R 769) 1510::fo (mAt 33 8) z488 (R 764) (U z372 1415) (R 770)::o0::o1::K 1516 [z326]::o0::fq (mAt 33 9) z489::ck z322 z489 1513 z182 779 1 0 0 3 772 (R 773) N (R 774) (R 775) (R 776) 1517::F (mAt 33 9) z489 (U z372 1415) 777::o0::o1::K 1523 [z326,S [t,o,k,e,n]]::o0::fq (mAt 33 10) z491::ck z323 z491 1520 z182 782 1 0 0 3 779 (R 780) N (R 781) (R 782) (R 783) 1525::F (mAt 33 10) z491 (U z372 1415) 784::K 1528 [S [A,p,u,n,c,t,u,a,t,i,o,n,A,c,h,a,r,s],S [A,p,u,s,h,b,a,c,k,A,c,h,a,r,s],S [c,o,m,m,e,n,t,e,r,s],S [d,e,b,u,g],S [e,o,f],S [e,s,c,a,p,e],S [e,s,c,a,p,e,d,q,u,o,t,e,s],S [f,i,l,e,s,t,a,c,k],S [i,n,f,i,l,e],S [i,n,s,t,r,e,a,m],S [l,i,n,e,n,o],S [p,o,s,i,x],S [p,u,s,h,b,a,c,k],S [q,u,o,t,e,s],S [s,o,u,r,c,e],S [s,t,a,t,e],S [t,o,k,e,n],S [w,h,i,t,e,s,p,a,c,e],S [w,h,i,t,e,s,p,a,c,e,A,s,p,l,i,t],S [w,o,r,d,c,h,a,r,s]]::X P [(z198,1424,U z372 1415),(z200,1428,J 535 1427),(z225,1440,R 712),(z460,1448,R 720),(z461,1456,R 727),(z462,1465,R 735),(z463,1472,R 742),(z464,1484,R 749),(z465,1495,R 756),(z466,1503,R 763),(z467,1512,R 771),(z322,1519,R 778),(z323,1527,R 785),(z210,1548,R 786),(z211,1550,R 789),(z212,1552,R 790),(z2,1553,N)] 4::⟨(.type y1),none,(.cls ⟨z442,[(.type y0)],[(R 788),(.type y0)],787,z442,true,[],[],false,none,false⟩),⟨[none,none,some (U z442 1417),some (U z442 1425),some (.builtin SL.s11443829558043349243x14),some T]⟩⟩::Y y3 [U z211 1549,R 788,.builtin y15,.builtin y16]::Y y3 [U z212 1551,R 788,.builtin y12,N]::Y y6 [R 788,R 788,R 788]::Y y4 [.builtin y8,R 788]::tp [.bool false,T]::o0::o1::K 1559 [S [s],S [c,o,m,m,e,n,t,s],S [p,o,s,i,x],S [l,e,x]]::o0::fq (dAt 34) (S [s,p,l,i,t])::C (S [s,p,l,i,t]) 1556 787 3 794 1563::fo (dAt 34) (S [s,p,l,i,t]) (R 793) (U z372 1415) (R 799)::o0::o1::K 1569 [S [s,p,l,i,t,A,c,o,m,m,a,n,d]]::o0::fq (dAt 35) z378::C z378 1566 795 1 801 1570::F (dAt 35) z378 (U z372 1415) 806::Y y4 [.builtin SL.s9858327723941210770x17,R 105]::o0::o1::K 1579 [S [s]]::o0::fq (dAt 38) (S [q,u,o,t,e])::C (S [q,u,o,t,e]) 1576 799 1 809 1580::F (dAt 38) (S [q,u,o,t,e]) (U z372 1415) 814::o0::o1::K 1588 [S [e,x,p,e,c,t,e,d],S [a,c,t,u,a,l],S [m,i,s,s,i,n,g],S [i,t,e,m]]::o0::fq (dAt 40) z447::C z447 1585 806 2 816 1592::F (dAt 40) z447 (U z514 1583) 821::o0::o1::K 1598 [S [x],S [y]]::o0::fq (dAt 41) z448::C z448 1595 815 2 823 1600::F (dAt 41) z448 (U z514 1583) 828::o0::o1::K 1608 [S [n,u,m,b,e,r]]::o0::fq (dAt 43) z449::C z449 1605 818 1 830 1609::F (dAt 43) z449 (U z441 1603) 835::o0::o1::fq (dAt 44) z450::G z450 1612 820 1 837 1615::F (dAt 44) z450 (U z441 1603) 840::o0::o1::K 1621 [z517,z274]::o0::fq (dAt 45) z451::C z451 1618 829 2 842 1623::F (dAt 45) z451 (U z441 1603) 847::o0::o1::K 1629 [z517,z274]::o0::fq (dAt 46) z452::C z452 1626 831 2 849 1631::F (dAt 46) z452 (U z441 1603) 854::o0::o1::K 1637 [z517,z274,S [w,o,r,d,s],S [l,i,n,e]]::o0::fq (dAt 47) z453::C z453 1634 833 2 856 1641::F (dAt 47) z453 (U z441 1603) 861::o0::o1::K 1647 [z517,z274,S [l,i,s,t,s],S [h,e,a,d,e,r]]::o0::fq (dAt 48) z454::C z454 1644 839 2 863 1651::F (dAt 48) z454 (U z441 1603) 868::o0::o1::K 1657 [z274]::o0::fq (dAt 49) z455::C z455 1654 845 1 870 1658::F (dAt 49) z455 (U z441 1603) 875::o0::o1::K 1664 [S [k,i,n,d],z517,S [c,o,u,n,t,s],S [s,i,n,g,l,e],S [d,o,u,b,l,e],S [b,a,c,k],z353]::o0::fq (dAt 50) z456::C z456 1661 847 3 877 1671::F (dAt 50) z456 (U z441 1603) 882::o0::o1::K 1677 [z274,S [o,r,d,e,r],S [k,i,n,d,s],S [d,r,e,s,s,e,s],S [c,o,u,n,t,s],S [p,l,a,c,e]]::o0::fq (dAt 51) z457::C z457 1674 852 4 884 1683::F (dAt 51) z457 (U z441 1603) 889::o0::o1::K 1689 [S [o,n,e],S [o,t,h,e,r],S [m,o,r,e],S [s,i,g,n,s],S [r,e,s,t],S [t,o,l,d],S [w,a,y]]::o0::fq (dAt 52) z458::C z458 1686 863 2 891 1696::F (dAt 52) z458 (U z441 1603) 896::o0::o1::fq (dAt 53) (S [l,a,w])::G (S [l,a,w]) 1699 874 1 898 1702::F (dAt 53) (S [l,a,w]) (U z441 1603) 901::l'
noncomputable def od (l:List Obj):Bool→List Obj:=List.rec (motive:=fun _=>Bool→List Obj) (fun _=>[]) (fun a _ r b=>cond b (a::r false) (r true)) l
noncomputable def bt (n:Nat):List Obj→BT:=Nat.rec (motive:=fun _=>List Obj→BT) (fun _=> .nil) (fun _ r l=>List.casesOn (motive:=fun _=>BT) l .nil fun a l=> .node a (r (od l true)) (r (od l false))) n
def t_0(P:Params):BT:=bt 11 (c0 P (o8 P::o9 P::c3 P ([])))
def t_a(P:Params):BT:=bt 11 (c0 P (o8 P::o9 P::c3 P (o0::o1::c6 ([]))))
def t_1(P:Params):BT:=bt 11 (c0 P (o6 P::X P [(z0,165,U z243 699),(z2,166,N),(z3,167,N),(z4,168,.builtin y11),(z5,169,N),(z179,170,R 6),(z180,171,R 4),(z181,173,U z182 172),(z183,174,N),(z161,275,R 12),(z184,317,.type y10),(z244,330,R 44),(z245,360,R 49),(z246,369,R 56),(z247,417,R 61),(z248,495,R 66),(z249,550,R 71),(z250,573,R 76),(z251,589,R 83),(z252,618,R 88),(z253,646,R 93),(z254,658,R 100),(z255,698,R 105),(z256,708,R 112),(z257,716,R 119),(z258,738,R 129),(z259,770,R 149),(z260,788,R 164),(z261,806,R 176)] 29::c3 P (o0::D 0 [(3,43),(8,55),(15,82),(54,99),(70,111),(75,118),(82,125),(84,138),(91,160),(93,172)]::c6 (c7 P (⟨(.type y1),none,(.cls ⟨z260,[(R 149)],[(R 164),(R 149),(.type y0)],163,z260,true,[],[],false,none,false⟩),⟨[some (R 155),none,some (U z260 771),some (U z260 779),some N,some T]⟩⟩::c9 P (o13::c11 ([])))))))
def t_2(P:Params):BT:=bt 11 (c0 P (o6 P::X P [(z0,165,U z243 699),(z2,166,N),(z3,167,N),(z4,168,.builtin y11),(z5,169,N),(z179,170,R 6),(z180,171,R 4),(z181,173,U z182 172),(z183,174,N),(z161,275,R 12),(z184,317,.type y10),(z244,330,R 44),(z245,360,R 49),(z246,369,R 56),(z247,417,R 61),(z248,495,R 66),(z249,550,R 71),(z250,573,R 76),(z251,589,R 83),(z252,618,R 88),(z253,646,R 93),(z254,658,R 100),(z255,698,R 105),(z256,708,R 112),(z257,716,R 119),(z258,738,R 129),(z259,770,R 149),(z260,788,R 164),(z261,806,R 176),(z296,1068,R 406)] 30::c3 P (o0::D 0 [(3,43),(8,55),(15,82),(54,99),(70,111),(75,118),(82,125),(84,138),(91,160),(93,172),(95,184)]::c6 (c7 P (o7::c9 P (o13::c11 (c12 P ([]))))))))
def t_3(P:Params):BT:=bt 11 (c0 P (o6 P::X P [(z0,165,U z372 1415),(z2,166,N),(z3,167,N),(z4,168,.builtin y11),(z5,169,N),(z179,170,R 6),(z180,171,R 4),(z181,173,U z182 172),(z183,174,N),(z161,275,R 12),(z184,317,.type y10),(z244,330,R 44),(z245,360,R 49),(z246,369,R 56),(z247,417,R 61),(z248,495,R 66),(z249,550,R 71),(z250,573,R 76),(z251,589,R 83),(z252,618,R 88),(z253,646,R 93),(z254,658,R 100),(z255,698,R 105),(z256,708,R 112),(z257,716,R 119),(z258,738,R 129),(z259,770,R 149),(z260,788,R 164),(z261,806,R 176),(z296,1068,R 406),(z373,1355,R 653),(z374,1366,R 662),(z375,1375,R 669),(z376,1385,R 676),(z377,1392,R 683),(z378,1403,R 690),(S [j,o,i,n,A,p,a,t,h],1404,R 690),(z380,1414,R 697)] 38::c3 P (o0::D 0 [(3,43),(8,55),(15,82),(54,99),(70,111),(75,118),(82,125),(84,138),(91,160),(93,172),(95,184),(265,414),(471,661),(492,668),(497,675),(502,682),(505,689),(526,696)]::c6 (c7 P (o7::c9 P (o12::c11 (c12 P (c13 P ([])))))))))
def t_4(P:Params):BT:=bt 11 (c0 P (o6 P::X P [(z0,165,U z441 1603),(z2,166,N),(z3,167,N),(z4,168,.builtin y11),(z5,169,N),(z179,170,R 6),(z180,171,R 4),(z181,173,U z182 172),(z183,174,N),(z161,275,R 12),(z184,317,.type y10),(z244,330,R 44),(z245,360,R 49),(z246,369,R 56),(z247,417,R 61),(z248,495,R 66),(z249,550,R 71),(z250,573,R 76),(z251,589,R 83),(z252,618,R 88),(z253,646,R 93),(z254,658,R 100),(z255,698,R 105),(z256,708,R 112),(z257,716,R 119),(z258,738,R 129),(z259,770,R 149),(z260,788,R 164),(z261,806,R 176),(z296,1068,R 406),(z373,1355,R 653),(z374,1366,R 662),(z375,1375,R 669),(z376,1385,R 676),(z377,1392,R 683),(z378,1403,R 807),(S [j,o,i,n,A,p,a,t,h],1404,R 690),(z380,1414,R 697),(z442,1555,R 788),(S [s,p,l,i,t],1565,R 800),(S [j,o,i,n,A,s,h,l,e,x],1573,R 807),(S [A,f,i,n,d,A,u,n,s,a,f,e],1575,R 808),(S [q,u,o,t,e],1582,R 815),(z447,1594,R 822),(z448,1602,R 829),(z449,1611,R 836),(z450,1617,R 841),(z451,1625,R 848),(z452,1633,R 855),(z453,1643,R 862),(z454,1653,R 869),(z455,1660,R 876),(z456,1673,R 883),(z457,1685,R 890),(z458,1698,R 897),(S [l,a,w],1704,R 902)] 56::c3 P (o0::D 0 [(3,43),(8,55),(15,82),(54,99),(70,111),(75,118),(82,125),(84,138),(91,160),(93,172),(95,184),(265,414),(471,661),(492,668),(497,675),(502,682),(505,689),(526,696),(535,703),(787,799),(795,806),(799,814),(806,821),(815,828),(818,835),(820,840),(829,847),(831,854),(833,861),(839,868),(845,875),(847,882),(852,889),(863,896),(874,901)]::c6 (c7 P (o7::c9 P (o12::c11 (c12 P (c13 P (c14 P ([]))))))))))
abbrev t_f:=t_4
noncomputable def stA (p:Program) (k n:Nat):List Stmt:=((behindTheImports p).drop k).take n
noncomputable def envE (p:Program):Env:={scope:=p.main.scope,locals:=mainNs,globals:=mainNs,cells:=[],code:= .ref 36,frame:=some 37}
noncomputable def cE (p:Program):Code:= .body (behindTheImports p) (envE p)
noncomputable def sh (t:BT) (n k:Nat) (os:OsState):SharedT:=⟨t,n,{},#[],{},k,os⟩
end
theorem g_1 (w:World):(fun os=>segRunT treeTable pw_il0090_01 w 34 (some (.ref 6)) 1 1777 (sh (t_a w.params) 38 324 os) (piecesOf (stA pw_il0090_01 0 20) (envE pw_il0090_01) (cE pw_il0090_01) ⟨0,0,0,0⟩ [topFrame ⟨0,0,0,0⟩]))=fun os=>some (.next,sh (t_1 w.params) 179 807 os,cE pw_il0090_01,⟨93,0,94,21⟩):=by
  unfold piecesOf
  rw [PySem.W.Fast.te10110043849684766642,PySem.W.Fast.te14364793385576792824,PySem.W.Fast.te12563942051412417395]
  kernel_rfl
theorem g_2 (w:World):(fun os=>segRunT treeTable pw_il0090_01 w 34 (some (.ref 6)) 1 1278 (sh (t_1 w.params) 179 807 os) (piecesOf (stA pw_il0090_01 20 1) (envE pw_il0090_01) (cE pw_il0090_01) ⟨93,0,94,21⟩ [topFrame ⟨0,0,0,0⟩]))=fun os=>some (.next,sh (t_2 w.params) 409 1069 os,cE pw_il0090_01,⟨95,0,264,17⟩):=by
  unfold piecesOf
  rw [PySem.W.Fast.te10110043849684766642,PySem.W.Fast.te14364793385576792824,PySem.W.Fast.te12563942051412417395]
  kernel_rfl
theorem g_3 (w:World):(fun os=>segRunT treeTable pw_il0090_01 w 34 (some (.ref 6)) 1 1794 (sh (t_2 w.params) 409 1069 os) (piecesOf (stA pw_il0090_01 21 10) (envE pw_il0090_01) (cE pw_il0090_01) ⟨95,0,264,17⟩ [topFrame ⟨0,0,0,0⟩]))=fun os=>some (.next,sh (t_3 w.params) 698 1417 os,cE pw_il0090_01,⟨534,0,534,8⟩):=by
  unfold piecesOf
  rw [PySem.W.Fast.te10110043849684766642,PySem.W.Fast.te14364793385576792824,PySem.W.Fast.te12563942051412417395]
  kernel_rfl
theorem g_4 (w:World):(fun os=>segRunT treeTable pw_il0090_01 w 34 (some (.ref 6)) 1 1179 (sh (t_3 w.params) 698 1417 os) (piecesOf (stA pw_il0090_01 31 21) (envE pw_il0090_01) (cE pw_il0090_01) ⟨534,0,534,8⟩ [topFrame ⟨0,0,0,0⟩]))=fun os=>some (.next,sh (t_4 w.params) 903 1705 os,cE pw_il0090_01,⟨874,0,882,75⟩):=by
  unfold piecesOf
  rw [PySem.W.Fast.te10110043849684766642,PySem.W.Fast.te14364793385576792824,PySem.W.Fast.te12563942051412417395]
  kernel_rfl
end MineH
end
section
open PySem PySem.W PyProof.Rows
namespace MineH
theorem h_pre (w:World) (os:OsState):topGo treeTable pw_il0090_01 w 34 (some (.ref 6)) 12 ⟨absHeap (t_0 w.params) 34 {},#[],{},318,os⟩ (topStub pw_il0090_01)=some (⟨absHeap (t_a w.params) 38 {},#[],{},324,os⟩,⟨denote treeTable (cE pw_il0090_01),cE pw_il0090_01,⟨0,0,0,0⟩,[topFrame ⟨0,0,0,0⟩]⟩):=by
  unfold topStub
  rw [PySem.W.Fast.te15667345088766844465,PySem.W.Fast.te14364793385576792824,PySem.W.Fast.te17154629097778926822,PySem.W.Fast.te12822647523644345616,PySem.W.Fast.te11892475500146522536]
  kernel_rfl
theorem h_block (w:World) (os:OsState):segRunT treeTable pw_il0090_01 w 34 (some (.ref 6)) 1 1 (sh (t_a w.params) 38 324 os) (blockOf (behindTheImports pw_il0090_01) (envE pw_il0090_01) (cE pw_il0090_01) ⟨0,0,0,0⟩ [topFrame ⟨0,0,0,0⟩])=some (.next,sh (t_a w.params) 38 324 os,cE pw_il0090_01,⟨0,0,0,0⟩):=by
  unfold blockOf
  rw [PySem.W.Fast.te10110043849684766642,PySem.W.Fast.te14364793385576792824,PySem.W.Fast.te1066825118222455980]
  kernel_rfl
theorem h_fin (w:World) (os:OsState):topRun treeTable pw_il0090_01 w 34 (some (.ref 6)) 2 ⟨absHeap (t_4 w.params) 903 {},#[],{},1705,os⟩ ⟨doneF .next,cE pw_il0090_01,⟨874,0,882,75⟩,[topFrame ⟨0,0,0,0⟩]⟩=some ⟨absHeap (t_f w.params) 903 {},#[],{},1705,os⟩:=by
  rw [PySem.W.Fast.te14082659384304107361,PySem.W.Fast.te14364793385576792824]
  kernel_rfl
theorem h_size (w:World):(((absHeap (t_0 w.params) 34 {}:Heap)).isNs mainGlobals && (#[]:Array GenState).size==0,(absHeap (t_0 w.params) 34 {}:Heap).objs.size,(absHeap (t_0 w.params) 34 {}:Heap).nsMap mainGlobals "__annotations__")=(true,34,some (.ref 6)):=by
  kernel_rfl
theorem h_open (w:World):(fencedOpening treeTable pw_il0090_01 w 12174).map (fun s=>(s.heap,s.gens,s.drawn,s.toks))=some (absHeap (t_0 w.params) 34 {},#[],{},318):=by
  unfold fencedOpening
  rw [PySem.W.Fast.te14364793385576792824,PySem.W.Fast.te1435165496053646825]
  kernel_rfl
end MineH
end
section
open PySem PySem.W PyProof.Rows
namespace MineH
theorem h_list:behindTheImports pw_il0090_01=stA pw_il0090_01 0 20++(stA pw_il0090_01 20 1++(stA pw_il0090_01 21 10++(stA pw_il0090_01 31 21++[]))):=by kernel_rfl
theorem h_run (w:World) (os:OsState):topRun treeTable pw_il0090_01 w 34 (some (.ref 6)) (12+(1+(1777+(1278+(1794+(1179+2)))))) ⟨absHeap (t_0 w.params) 34 {},#[],{},318,os⟩ (topStub pw_il0090_01)=some ⟨absHeap (t_f w.params) 903 {},#[],{},1705,os⟩:=by
  refine go_top (h_pre w os) (piece_block (b:=behindTheImports pw_il0090_01) (env:=envE pw_il0090_01) (segRun_of (h_block w os)) ?_)
  have key:∀l,behindTheImports pw_il0090_01=l→∀{N r},topRun treeTable pw_il0090_01 w 34 (some (.ref 6)) N (sh (t_a w.params) 38 324 os).abs (restOf l (envE pw_il0090_01) (cE pw_il0090_01) ⟨0,0,0,0⟩ [topFrame ⟨0,0,0,0⟩])=some r→
      topRun treeTable pw_il0090_01 w 34 (some (.ref 6)) N (sh (t_a w.params) 38 324 os).abs (restOf (behindTheImports pw_il0090_01) (envE pw_il0090_01) (cE pw_il0090_01) ⟨0,0,0,0⟩ [topFrame ⟨0,0,0,0⟩])=some r:=fun l e N r h=>by rw [e];exact h
  exact key _ h_list (piece_app (segRun_of (congrFun (g_1 w) os)) (piece_app (segRun_of (congrFun (g_2 w) os)) (piece_app (segRun_of (congrFun (g_3 w) os)) (piece_app (segRun_of (congrFun (g_4 w) os)) (piece_nil (h_fin w os))))))
end MineH
end
section
open PySem PySem.W PyProof.Rows
namespace MineH
noncomputable def looseN:List Str:=[.ofString "_wall", .ofString "_twin_re_7", .ofString "unmatched", .ofString "HEADER_TOKEN_RE", .ofString "HEADER_QUOTED_VALUE_RE", .ofString "HEADER_VALUE_RE", .ofString "HEADER_ESCAPE_RE", .ofString "split_header_words", .ofString "HEADER_JOIN_TOKEN_RE", .ofString "HEADER_JOIN_ESCAPE_RE", .ofString "join_header_words", .ofString "_twin_re_1", .ofString "_whence", .ofString "_index", .ofString "UnsupportedOperation", .ofString "IOBase", .ofString "BufferedIOBase", .ofString "TextIOBase", .ofString "BytesIO", .ofString "StringIO", .ofString "_kind", .ofString "_fspath", .ofString "_check_arg_types", .ofString "isabs", .ofString "join", .ofString "join_path", .ofString "dirname", .ofString "shlex", .ofString "split", .ofString "join_shlex", .ofString "_find_unsafe", .ofString "quote", .ofString "unorderable_list_difference", .ofString "three_way_cmp", .ofString "_law_sign", .ofString "_law_order", .ofString "_law_words", .ofString "_law_lists", .ofString "_law_line", .ofString "_law_header", .ofString "_law_counted", .ofString "_law_reckoned", .ofString "_law_chain", .ofString "_law_apart"]
noncomputable abbrev lawH:Hook:=kmHook Mine.K Mine.asK Mine.as_ok [802,95,78]
noncomputable def lookX (s:Shared):Bool:=xlAt Mine.qV [] s && recOk (RowW.records (rw_il0090_01).row.toRowW) s
theorem l_1 (w:World) (os:OsState):(staticsOk (importedModules (pw_il0090_01).main.body) (absHeap (t_0 w.params) 34 {}) (absHeap (t_f w.params) 903 {}) && namesBound pw_il0090_01 (absHeap (t_f w.params) 903 {}) && gensDone ⟨absHeap (t_f w.params) 903 {},#[],{},1705,os⟩ && laidKept (absHeap (t_0 w.params) 34 {}) (absHeap (t_f w.params) 903 {}))=true:=by
  kernel_rfl
theorem l_2 (w:World) (os:OsState):openSeen Mine.qV looseN (importedModules (pw_il0090_01).main.body) lookX true ⟨absHeap (t_f w.params) 903 {},#[],{},1705,os⟩=openGood Mine.qV looseN:=by
  kernel_rfl
theorem l_3 (w:World) (os:OsState):Hook.obs lawH ⟨absHeap (t_f w.params) 903 {},#[],{},1705,os⟩=Hook.val lawH w:=by
  kernel_rfl
end MineH
end
section
open PySem PySem.W PyProof.Rows
namespace MineH
theorem pair3 {α β γ:Type} {a a':α} {b b':β} {c c':γ} (x:a=a') (y:b=b') (z:c=c'):(a,b,c)=(a',b',c'):=by rw [x,y,z]
theorem h_looks (w:World):(fun os:OsState=>((staticsOk (importedModules (pw_il0090_01).main.body) (absHeap (t_0 w.params) 34 {}) (absHeap (t_f w.params) 903 {}) && namesBound pw_il0090_01 (absHeap (t_f w.params) 903 {}) && gensDone ⟨absHeap (t_f w.params) 903 {},#[],{},1705,os⟩ && laidKept (absHeap (t_0 w.params) 34 {}) (absHeap (t_f w.params) 903 {})),
    openSeen Mine.qV looseN (importedModules (pw_il0090_01).main.body) lookX true ⟨absHeap (t_f w.params) 903 {},#[],{},1705,os⟩,Hook.obs lawH ⟨absHeap (t_f w.params) 903 {},#[],{},1705,os⟩))=fun _=>(true,openGood Mine.qV looseN,Hook.val lawH w):=
  funext fun os=>pair3 (l_1 w os) (l_2 w os) (l_3 w os)
theorem h_left:LeftO pw_il0090_01 Mine.qV looseN lookX (Hook.obs lawH) (Hook.val lawH) 12174:=
  @LeftO.of_pieces pw_il0090_01 Mine.qV looseN lookX _ (Hook.obs lawH) (Hook.val lawH) 12174 true (fun P=>absHeap (t_0 P) 34 {}) (fun P=>absHeap (t_f P) 903 {}) #[] #[] {} {} 318 1705 34 (some (.ref 6)) (12+(1+(1777+(1278+(1794+(1179+2)))))) h_open h_size h_run (by decide+kernel) h_looks
end MineH
end
section
open PySem PySem.W PyProof.Rows
namespace MineH
theorem h_well:rw_il0090_01.wellSaid=true:=by
  unfold OpenLaw.wellSaid OpenRow.wellSaid OpenRow.partSaid looksOpen
  repeat' (with_reducible refine look_both ?_ ?_)
  · as_aux_lemma=>((try rw [PySem.W.Fast.te11788848310118352699]);decide+kernel)
  · as_aux_lemma=>((try rw [PySem.W.Fast.te9807087744658564304,PySem.W.Fast.te12862048085361865435]);decide+kernel)
  · as_aux_lemma=>((try rw [PySem.W.Fast.te8377067652309620493]);decide+kernel)
  · as_aux_lemma=>((try rw [PySem.W.R.allR_eq,PySem.W.Fast.te18344453789297297638,PySem.W.Fast.te3471404346716756564,PySem.W.Fast.sDec_eq,PySem.W.Fast.te14412699480532031325]);decide+kernel)
  · as_aux_lemma=>((try rw [PySem.W.Fast.te8326940854005059898,PySem.W.R.allR_eq,PySem.W.Fast.te5923862056798008813,PySem.W.Fast.te3471404346716756564,PySem.W.Fast.sDec_eq,PySem.W.Fast.te17691160309236699985,PySem.W.R.filterR_eq,PySem.W.Fast.te13343964577679436407]);decide+kernel)
  · as_aux_lemma=>((try rw [PySem.W.Fast.te17119622794617984870,PySem.W.Fast.te17868728402115742887]);decide+kernel)
  · as_aux_lemma=>(decide+kernel)
  · as_aux_lemma=>(decide+kernel)
  · as_aux_lemma=>((try rw [PySem.W.R.allR_eq,PySem.W.Fast.te9706382859710513879]);decide+kernel)
  · as_aux_lemma=>((try rw [PySem.W.R.allR_eq,PySem.W.Fast.te3471404346716756564,PySem.W.Fast.sDec_eq,PySem.W.Fast.te18344453789297297638,PySem.W.S.strDecS_eq,PySem.W.Fast.te2357444279172408678]);decide+kernel)
  · as_aux_lemma=>((try rw [PySem.W.R.mapR_eq,PySem.W.Fast.sDec_eq]);decide+kernel)
  · as_aux_lemma=>((try rw [PySem.W.R.allR_eq,PySem.W.Fast.te4857012375875476094,PySem.W.Fast.named_eq,PySem.W.Fast.te3471404346716756564,PySem.W.Fast.sDec_eq,PySem.W.Fast.te18344453789297297638]);decide+kernel)
  · as_aux_lemma=>((try rw [PySem.W.Fast.te13582783067957832011]);decide+kernel)
  · as_aux_lemma=>((try rw [PySem.W.Fast.te5318747976498570220]);decide+kernel)
  · as_aux_lemma=>((try rw [PySem.W.Fast.te5318747976498570220]);decide+kernel)
  · as_aux_lemma=>((try rw [PySem.W.R.allR_eq,PySem.W.Fast.te5318747976498570220]);decide+kernel)
  · as_aux_lemma=>((try rw [PySem.W.R.allR_eq,PySem.W.Fast.te4579403493507170074,PySem.W.R.anyR_eq,PySem.W.Fast.te4274047373036748609]);decide+kernel)
  · as_aux_lemma=>((try rw [PySem.W.R.allR_eq]);decide+kernel)
  · as_aux_lemma=>(decide+kernel)
  · as_aux_lemma=>((try rw [PySem.W.Fast.te3471404346716756564,PySem.W.Fast.sDec_eq,PySem.W.Fast.te18344453789297297638]);decide+kernel)
  · as_aux_lemma=>((try rw [PySem.W.Fast.te3471404346716756564,PySem.W.Fast.sDec_eq,PySem.W.Fast.te12749700546528644094]);decide+kernel)
  · as_aux_lemma=>(decide+kernel)
  · as_aux_lemma=>((try rw [PySem.W.R.allR_eq,PySem.W.Fast.te10501279942588096481]);decide+kernel)
  · as_aux_lemma=>((try rw [PySem.W.Fast.te8179353310426384613]);decide+kernel)
  · as_aux_lemma=>(decide+kernel)
  · as_aux_lemma=>(decide+kernel)
  · as_aux_lemma=>((try rw [PySem.W.Fast.te8326940854005059898,PySem.W.Fast.te797321630700447069,PySem.W.Fast.te9572597257264208301]);decide+kernel)
  · as_aux_lemma=>((try rw [PySem.W.Fast.te9558739934217749035]);decide+kernel)
  · as_aux_lemma=>((try rw [PySem.W.Fast.te16286561074155671207]);decide+kernel)
  · as_aux_lemma=>((try rw [PySem.W.R.allR_eq,PySem.W.Fast.sDec_eq]);decide+kernel)
  · as_aux_lemma=>((try rw [PySem.W.R.allR_eq,PySem.W.Fast.te797321630700447069,PySem.W.Fast.named_eq,PySem.W.Fast.sDec_eq,PySem.W.Fast.te6984425678791042302]);decide+kernel)
  · as_aux_lemma=>((try rw [PySem.W.R.allR_eq,PySem.W.Fast.te17095254045102204799,PySem.W.Fast.te12879404354523853263,PySem.W.Fast.te6984425678791042302]);decide+kernel)
  · as_aux_lemma=>((try rw [PySem.W.R.allR_eq,PySem.W.Fast.te17095254045102204799,PySem.W.Fast.te12879404354523853263,PySem.W.Fast.te6984425678791042302,PySem.W.Fast.te482687673346738481,PySem.W.Fast.sDec_eq]);decide+kernel)
  · as_aux_lemma=>((try rw [PySem.W.Fast.te17119622794617984870,PySem.W.Fast.te3471404346716756564,PySem.W.Fast.sDec_eq,PySem.W.Fast.te9572597257264208301]);decide+kernel)
  · as_aux_lemma=>((try rw [PySem.W.Fast.te3471404346716756564,PySem.W.Fast.sDec_eq,PySem.W.Fast.te10792542408131684335]);decide+kernel)
  · as_aux_lemma=>((try rw [PySem.W.Fast.te7723801398212525404,PySem.W.Fast.sDec_eq,PySem.W.Fast.te10792542408131684335]);decide+kernel)
  · as_aux_lemma=>((try rw [PySem.W.R.allR_eq,PySem.W.Fast.te10792542408131684335,PySem.W.Fast.named_eq]);decide+kernel)
  · as_aux_lemma=>((try rw [PySem.W.Fast.te17119622794617984870,PySem.W.Fast.te3471404346716756564,PySem.W.Fast.sDec_eq,PySem.W.Fast.te10792542408131684335]);decide+kernel)
  · as_aux_lemma=>((try rw [PySem.W.Fast.te17119622794617984870,PySem.W.Fast.sDec_eq]);decide+kernel)
theorem h_said' (h:rw_il0090_01.row.wellSaid=true→rw_il0090_01.row.Holds):rw_il0090_01.Holds:=holds_law h_well h
theorem h_wit:rw_il0090_01.row.toRowW.promised:=by w_witness2
theorem h_bare:rw_il0090_01.row.prog.bare:=⟨rfl,rfl,rfl,rfl,rfl,by decide+kernel⟩
theorem h_ok:(chainsOk Mine.qV && opensWell rw_il0090_01.row.prog && (frees rw_il0090_01.row.toRowW && rw_il0090_01.row.within.isEmpty))=true:=by decide+kernel
theorem h_wr:(!rw_il0090_01.row.writes||rw_il0090_01.row.records.isEmpty)=true:=by rfl
end MineH
end
section
namespace Mine.Re
open PySem PySem.Sre PySem.Sre.M
noncomputable def it:Nat→M→M
  | 0,m=>m
  | n+1,m=>it n m.step
theorem step_done {m:M} (h:m.outcome.isSome=true):m.step=m:=by
  unfold M.step;rw [if_pos h]
theorem it_done {m:M} (h:m.outcome.isSome=true):∀n,it n m=m:=by
  intro u0
  induction u0 with
  | zero=>
    exact rfl
  | succ n ih=>
    rw [it,step_done h,ih]
theorem runFor_it:∀n (m:M),m.runFor n=it n m:=by
  intro u0
  induction u0 with
  | zero=>
    intro m
    exact rfl
  | succ n ih=>
    intro m
    unfold M.runFor
    by_cases h:m.outcome.isSome=true
    · rw [if_pos h,it_done h]
    · rw [if_neg h,ih];rfl
theorem it_add (a b:Nat) (m:M):it (a+b) m=it b (it a m):=by
  induction a generalizing m with
  | zero=>rw [Nat.zero_add];rfl
  | succ a ih=>rw [Nat.succ_add];exact ih m.step
noncomputable def Ends (P:M→Prop) (b:Nat) (m:M):Prop:=∃n,n≤b∧(it n m).outcome.isSome=true∧P (it n m)
theorem Ends.step {P:M→Prop} {b:Nat} {m:M} (h:Ends P b m.step):Ends P (b+1) m:=by
  obtain ⟨n,hn,ho,hp⟩:=h
  exact ⟨n+1,Nat.succ_le_succ hn,ho,hp⟩
theorem Ends.mono {P:M→Prop} {b b':Nat} {m:M} (h:Ends P b m) (hb:b≤b'):Ends P b' m:=by
  obtain ⟨n,hn,r⟩:=h
  exact ⟨n,Nat.le_trans hn hb,r⟩
theorem Ends.eq {P:M→Prop} {b:Nat} {m m':M} (e:m.step=m') (h:Ends P b m'):Ends P (b+1) m:=by
  subst e;exact h.step
theorem Ends.now {P:M→Prop} {b:Nat} {m:M} (ho:m.outcome.isSome=true) (hp:P m):Ends P b m:=⟨0,Nat.zero_le _,ho,hp⟩
structure Hit (S H:Nat) (mk:Array (Option Nat)) (lm li:Int) (m:M):Prop where
  out:m.outcome=some .matched
  start:m.start=S
  handed:m.handed=H
  marks:m.marks=mk
  lastmark:m.lastmark=lm
  lastindex:m.lastindex=li
noncomputable def Miss (m:M):Prop:=m.outcome=some .failed
noncomputable def passes (f:Sre.Frame):Bool:=match f.wait with
  | .nextStart| .giveBack| .closeLoop| .maxMore| .maxTail=>true
  | _=>false
theorem unwind:∀(fs:List Sre.Frame) (m:M),m.frames=fs→m.answer=some true→m.outcome=none→fs.all passes=true→
    Ends (Hit m.start m.handed m.marks m.lastmark m.lastindex) (fs.length+1) m:=by
  intro u0
  induction u0 with
  | nil=>
    intro m hf ha ho _
    refine Ends.eq (m':={m with outcome:=some .matched}) ?_ (Ends.now rfl ⟨rfl,rfl,rfl,rfl,rfl,rfl⟩)
    unfold M.step;rw [ho,ha,hf];rfl
  | cons f fs ih=>
    intro m hf ha ho hall
    simp only [List.all_cons,Bool.and_eq_true] at hall
    have e:m.step=resume {m with answer:=none,frames:=fs,weight:=m.weight - (1+f.kept.marks.size),pc:=f.pc,pos:=f.pos,outermost:=f.outermost} f true:=by
      unfold M.step;rw [ho,ha,hf];rfl
    obtain ⟨h1,_⟩:=hall
    obtain ⟨w,fpc,fpos,fo,fc,fk,fl,fb⟩:=f
    cases w<;>first|(exact absurd (show (false=true) from h1) Bool.false_ne_true)|skip
    all_goals
      refine Ends.step ?_
      rw [e]
      exact ih _ rfl rfl ho (by assumption)
end Mine.Re
end
section
local macro_rules | `(tactic|omega)=> `(tactic|first|decide|lia)
section
namespace Mine.Re
open PySem PySem.Sre PySem.Sre.M
noncomputable def exW:{F:M→Nat→M // ∀m,m.exec=F m (m.word 0)}:=by
  refine' ⟨_,fun m=>_⟩
  rotate_left
  · unfold M.exec
    generalize m.word 0=k
    exact rfl
noncomputable def acW:{F:Array Nat→Nat→Nat→Seen→Nat→Except String (Bool × Seen) // ∀C i c sn,accepts C i c sn=F C i c sn (C.getD i 0)}:=by
  refine' ⟨_,fun C i c sn=>_⟩
  rotate_left
  · unfold accepts
    generalize C.getD i 0=k
    exact rfl
noncomputable def iwW:{F:Array Nat→Nat→Nat→Nat // ∀C i,itemWidth C i=F C i (C.getD i 0)}:=by
  refine' ⟨_,fun C i=>_⟩
  rotate_left
  · unfold itemWidth
    generalize C.getD i 0=k
    exact rfl
theorem ex_is (m:M) {k:Nat} (h:m.word 0=k):m.exec=exW.1 m k:=h▸exW.2 m
theorem ac_is {C:Array Nat} {i c:Nat} {sn:Seen} {k:Nat} (h:C.getD i 0=k):accepts C i c sn=acW.1 C i c sn k:=h▸acW.2 C i c sn
theorem iw_is {C:Array Nat} {i:Nat} {k:Nat} (h:C.getD i 0=k):itemWidth C i=iwW.1 C i k:=h▸iwW.2 C i
theorem Ends.neg {P:M→Prop} {b:Nat} {c:Prop} [Decidable c] {x y:M} (hc:¬c) (h:Ends P b y):Ends P b (ite c x y):=(if_neg hc).symm▸h
theorem Ends.pos {P:M→Prop} {b:Nat} {c:Prop} [Decidable c] {x y:M} (hc:c) (h:Ends P b x):Ends P b (ite c x y):=(if_pos hc).symm▸h
noncomputable def S (C t:Array Nat) (lim ls:Nat) (wh mu o:Bool) (pc pos st hd:Nat) (mk:Array (Option Nat)) (lm li:Int) (lp:Array Loop) (inn:Option Nat) (fs:List Sre.Frame) (wt:Nat) (sn:Seen):M:=
  {code:=C,text:=t,lim:=lim,start:=st,lastStart:=ls,wholeText:=wh,mustAdvance:=mu,pc:=pc,pos:=pos,handed:=hd,outermost:=o,marks:=mk,lastmark:=lm,lastindex:=li,loops:=lp,inner:=inn,frames:=fs,weight:=wt,answer:=none,seen:=sn,outcome:=none}
noncomputable def An (C t:Array Nat) (lim ls:Nat) (wh mu:Bool) (y:Bool) (pc pos st hd:Nat) (o:Bool) (mk:Array (Option Nat)) (lm li:Int) (lp:Array Loop) (inn:Option Nat) (fs:List Sre.Frame) (wt:Nat) (sn:Seen):M:=
  {code:=C,text:=t,lim:=lim,start:=st,lastStart:=ls,wholeText:=wh,mustAdvance:=mu,pc:=pc,pos:=pos,handed:=hd,outermost:=o,marks:=mk,lastmark:=lm,lastindex:=li,loops:=lp,inner:=inn,frames:=fs,weight:=wt,answer:=some y,seen:=sn,outcome:=none}
section
variable {C t:Array Nat} {lim ls:Nat} {wh mu:Bool} {pc pos st hd:Nat} {o:Bool} {mk:Array (Option Nat)} {lm li:Int} {lp:Array Loop} {inn:Option Nat} {fs:List Sre.Frame} {wt:Nat} {sn:Seen} {P:M→Prop} {b:Nat}
theorem step_S (hpc:pc<C.size):(S C t lim ls wh mu o pc pos st hd mk lm li lp inn fs wt sn).step=(S C t lim ls wh mu o pc pos st hd mk lm li lp inn fs wt sn).exec:=if_pos hpc
theorem go {k:Nat} (hpc:pc<C.size) (h0:C.getD pc 0=k) (h:Ends P b (exW.1 (S C t lim ls wh mu o pc pos st hd mk lm li lp inn fs wt sn) k)):Ends P (b+1) (S C t lim ls wh mu o pc pos st hd mk lm li lp inn fs wt sn):=
  Ends.eq ((step_S hpc).trans (ex_is _ h0)) h
theorem r_at (hpc:pc<C.size) (h0:C.getD pc 0=6) (h1:C.getD (pc+1) 0=0) (hp:pos=0)
    (h:∀sn,Ends P b (S C t lim ls wh mu o (pc+2) pos st hd mk lm li lp inn fs wt sn)):Ends P (b+1) (S C t lim ls wh mu o pc pos st hd mk lm li lp inn fs wt sn):=by
  refine go hpc h0 ?_
  conv=>arg 3;whnf
  dsimp only [M.word,S]
  rw [h1]
  subst hp
  exact h _
theorem r_at_no (hpc:pc<C.size) (h0:C.getD pc 0=6) (h1:C.getD (pc+1) 0=0) (hp:pos≠0)
    (h:∀sn,Ends P b (An C t lim ls wh mu false pc pos st hd o mk lm li lp inn fs wt sn)):Ends P (b+1) (S C t lim ls wh mu o pc pos st hd mk lm li lp inn fs wt sn):=by
  refine go hpc h0 ?_
  conv=>arg 3;whnf
  dsimp only [M.word,S]
  rw [h1]
  obtain ⟨p,rfl⟩:=Nat.exists_eq_succ_of_ne_zero hp
  exact h _
theorem r_lit {c:Nat} (hpc:pc<C.size) (h0:C.getD pc 0=16) (h1:C.getD (pc+1) 0=c) (hl:pos<lim) (hc:t.getD pos 0=c)
    (h:∀sn,Ends P b (S C t lim ls wh mu o (pc+2) (pos+1) st hd mk lm li lp inn fs wt sn)):Ends P (b+1) (S C t lim ls wh mu o pc pos st hd mk lm li lp inn fs wt sn):=by
  refine go hpc h0 (Ends.neg (Nat.not_le.mpr hl) ?_)
  dsimp only [S]
  rw [iw_is h0,(ac_is h0).trans (congrArg (fun z=>Except.ok (z,_)) (beq_iff_eq.mpr (hc.trans h1.symm)))]
  exact h _
theorem r_lit_no {c:Nat} (hpc:pc<C.size) (h0:C.getD pc 0=16) (h1:C.getD (pc+1) 0=c) (hc:pos<lim→t.getD pos 0≠c)
    (h:∀sn,Ends P b (An C t lim ls wh mu false pc pos st hd o mk lm li lp inn fs wt sn)):Ends P (b+1) (S C t lim ls wh mu o pc pos st hd mk lm li lp inn fs wt sn):=by
  refine go hpc h0 ?_
  by_cases hl:pos<lim
  · refine Ends.neg (Nat.not_le.mpr hl) ?_
    dsimp only [S]
    rw [(ac_is h0).trans (congrArg (fun z=>Except.ok (z,_)) (beq_eq_false_iff_ne.mpr fun e=>hc hl (e.trans h1)))]
    exact h _
  · exact Ends.pos (Nat.not_lt.mp hl) (h _)
theorem r_mark {i:Nat} {mk':Array (Option Nat)} {lm' li':Int} (hpc:pc<C.size) (h0:C.getD pc 0=17) (h1:C.getD (pc+1) 0=i)
    (hi:(i:Int)≤lm+1) (hmk:mk'=mk.setIfInBounds i (some pos)) (hlm:lm'=max lm i) (hli:li'=if i % 2==1 then ((i / 2+1:Nat):Int) else li)
    (h:∀sn,Ends P b (S C t lim ls wh mu o (pc+2) pos st hd mk' lm' li' lp inn fs wt sn)):Ends P (b+1) (S C t lim ls wh mu o pc pos st hd mk lm li lp inn fs wt sn):=by
  refine go hpc h0 ?_
  subst h1 hmk hlm hli
  conv=>arg 3;whnf
  show Ends P b {S C t lim ls wh mu o (pc+2) pos st hd ((if (C.getD (pc+1) 0:Int)≤lm+1 then mk else _).setIfInBounds _ _) _ _ lp inn fs wt _ with outcome:=none}
  rw [if_pos hi]
  exact h _
theorem r_in {c:Nat} {wd:Nat} (hpc:pc<C.size) (h0:C.getD pc 0=13) (hw:C.getD (pc+1) 0=wd) (hl:pos<lim) (hc:t.getD pos 0=c) (ha:∀sn,∃sn',accepts C pc c sn= .ok (true,sn'))
    (h:∀sn,Ends P b (S C t lim ls wh mu o (pc+(1+wd)) (pos+1) st hd mk lm li lp inn fs wt sn)):Ends P (b+1) (S C t lim ls wh mu o pc pos st hd mk lm li lp inn fs wt sn):=by
  refine go hpc h0 (Ends.neg (Nat.not_le.mpr hl) ?_)
  obtain ⟨sn',e⟩:=ha (sn.add 13)
  subst hc hw
  dsimp only [S]
  rw [iw_is h0,e]
  exact h _
theorem r_any (hpc:pc<C.size) (h0:C.getD pc 0=2) (hl:pos<lim) (hc:t.getD pos 0≠10)
    (h:∀sn,Ends P b (S C t lim ls wh mu o (pc+1) (pos+1) st hd mk lm li lp inn fs wt sn)):Ends P (b+1) (S C t lim ls wh mu o pc pos st hd mk lm li lp inn fs wt sn):=by
  refine go hpc h0 (Ends.neg (Nat.not_le.mpr hl) ?_)
  dsimp only [S]
  rw [iw_is h0,(ac_is h0).trans (congrArg (fun z=>Except.ok (z,_)) (bne_iff_ne.mpr hc))]
  exact h _
noncomputable def RunIs (C t:Array Nat) (i n p:Nat) (k:Nat):Prop:=∀found sn,∃sn',run C t i n p found sn= .ok (found+k,sn')
theorem RunIs.zero {i p:Nat}:RunIs C t i 0 p 0:=fun _ sn=>⟨sn,rfl⟩
theorem RunIs.stop {i n p:Nat} (h:∀sn,∃sn',accepts C i (t.getD p 0) sn= .ok (false,sn')):RunIs C t i (n+1) p 0:=fun found sn=>by
  obtain ⟨sn',e⟩:=h sn
  refine ⟨sn',?_⟩
  show (accepts C i (t.getD p 0) sn>>=_)=_
  rw [e];rfl
theorem RunIs.more {i n p k:Nat} (h:∀sn,∃sn',accepts C i (t.getD p 0) sn= .ok (true,sn')) (r:RunIs C t i n (p+1) k):RunIs C t i (n+1) p (k+1):=fun found sn=>by
  obtain ⟨sn',e⟩:=h sn
  obtain ⟨sn'',e'⟩:=r (found+1) sn'
  refine ⟨sn'',?_⟩
  show (accepts C i (t.getD p 0) sn>>=_)=_
  rw [e,show found+(k+1)=found+1+k by omega]
  exact e'
theorem room_ok {least n pos lim:Nat} (hpl:pos≤lim) (hn:least≤n) (hn2:n≤lim - pos):¬((least:Int)>(lim:Int) - (pos:Int)):=by omega
theorem room_eq {pos lim:Nat}:((lim:Int) - (pos:Int)).toNat=lim - pos:=Int.toNat_sub lim pos
theorem r_rep {n least most skip:Nat} {kp:Sre.Kept} (hpc:pc<C.size) (h0:C.getD pc 0=24) (h1:C.getD (pc+1) 0=skip) (h2:C.getD (pc+2) 0=least) (h3:C.getD (pc+3) 0=most) (hpl:pos≤lim)
    (hr:RunIs C t (pc+4) (min most (lim - pos)) pos n) (hn:least≤n) (hn2:n≤lim - pos)
    (hk:kp={lastmark:=lm,lastindex:=li,whole:=inn.isSome,marks:=if inn.isSome then mk.extract 0 (lm+1).toNat else #[]}) (hw:wt+1+kp.marks.size≤16777216)
    (h:∀sn,Ends P b (S C t lim ls wh mu o (pc+1+skip) (pos+n) st (pos+n) mk lm li lp inn ({wait:= .giveBack,pc:=pc,pos:=pos+n,outermost:=o,count:=n,kept:=kp}::fs) (wt+1+kp.marks.size) sn)):
    Ends P (b+1) (S C t lim ls wh mu o pc pos st hd mk lm li lp inn fs wt sn):=by
  refine go hpc h0 ?_
  obtain ⟨sn',e⟩:=hr 0 ((sn.add 24).add (C.getD (pc+4) 0))
  rw [Nat.zero_add] at e
  subst h1 h2 h3 hk
  refine Ends.neg (room_ok hpl hn hn2) ?_
  conv=>arg 3;whnf
  dsimp only [S,M.word]
  rw [room_eq]
  rw (config:={transparency:= .default}) [e]
  exact Ends.neg (Nat.not_lt.mpr hn) (Ends.neg (Nat.not_lt.mpr hw) (h _))
theorem r_rep_no {n least most:Nat} (hpc:pc<C.size) (h0:C.getD pc 0=24) (h2:C.getD (pc+2) 0=least) (h3:C.getD (pc+3) 0=most) (hpl:pos≤lim)
    (hr:RunIs C t (pc+4) (min most (lim - pos)) pos n) (hn:n<least)
    (h:∀sn,Ends P b (An C t lim ls wh mu false pc pos st hd o mk lm li lp inn fs wt sn)):
    Ends P (b+1) (S C t lim ls wh mu o pc pos st hd mk lm li lp inn fs wt sn):=by
  refine go hpc h0 ?_
  obtain ⟨sn',e⟩:=hr 0 ((sn.add 24).add (C.getD (pc+4) 0))
  rw [Nat.zero_add] at e
  subst h2 h3
  by_cases hroom:((C.getD (pc+2) 0:Nat):Int)>(lim:Int) - (pos:Int)
  · exact Ends.pos hroom (h _)
  · refine Ends.neg hroom ?_
    conv=>arg 3;whnf
    rw [room_eq]
    rw (config:={transparency:= .default}) [e]
    exact Ends.pos hn (h _)
theorem r_succ (hpc:pc<C.size) (h0:C.getD pc 0=1) (h1:o=true→wh=true→pos=lim) (h2:o=true→mu=true→pos≠st)
    (h:∀sn,Ends P b (An C t lim ls wh mu true pc pos st pos o mk lm li lp inn fs wt sn)):Ends P (b+1) (S C t lim ls wh mu o pc pos st hd mk lm li lp inn fs wt sn):=by
  refine go hpc h0 (Ends.neg ?_ (h _))
  show ¬(o && ((wh && pos !=lim)||(mu && pos==st)))=true
  cases o<;>cases wh<;>cases mu<;>simp_all
theorem r_succ_no (hpc:pc<C.size) (h0:C.getD pc 0=1) (h9:o=true) (h1:wh=true) (hl:pos≠lim)
    (h:∀sn,Ends P b (An C t lim ls wh mu false pc pos st hd o mk lm li lp inn fs wt sn)):Ends P (b+1) (S C t lim ls wh mu o pc pos st hd mk lm li lp inn fs wt sn):=by
  refine go hpc h0 (Ends.pos ?_ (h _))
  show (o && ((wh && pos !=lim)||(mu && pos==st)))=true
  rw [h9,h1,bne_iff_ne.mpr hl]
  rfl
noncomputable abbrev nxF (pc s:Nat) (o:Bool):Sre.Frame:={wait:= .nextStart,pc:=pc,pos:=s,outermost:=o}
noncomputable abbrev noFirst (C:Array Nat):Bool:=!((match ops[C.getD 0 0]? with|some .INFO=>true|_=>false) && C.getD 2 0==4)
theorem r_from {first:Bool} {s:Nat} (hf:noFirst C=true) (hw:wt+1≤16777216)
    (h:Ends P b (S C t lim ls wh mu first pc s s s mk (-1) (-1) lp inn (nxF pc s first::fs) (wt+1) sn)):
    Ends P b ((S C t lim ls wh mu o pc pos st hd mk lm li lp inn fs wt sn).attemptFrom s first):=by
  exact Ends.pos hf (Ends.neg (Nat.not_lt.mpr hw) h)
theorem quiet:¬((none:Option PySem.Sre.Outcome).isSome=true):=nofun
theorem r_next {pc' s:Nat} {o':Bool} (hf:noFirst C=true) (hw:wt≤16777216) (hs:s<ls)
    (h:Ends P b (S C t lim ls wh false false pc' (s+1) (s+1) (s+1) mk (-1) (-1) lp inn (nxF pc' (s+1) false::fs) (wt - 1+1) sn)):
    Ends P (b+1) (An C t lim ls wh mu false pc pos st hd o mk lm li lp inn (nxF pc' s o'::fs) wt sn):=by
  refine Ends.step (Ends.neg quiet (Ends.pos hs ?_))
  exact r_from (C:=C) (t:=t) (lim:=lim) (ls:=ls) (wh:=wh) (mu:=false) (pc:=pc') (pos:=s) (st:=st) (hd:=hd) (o:=o') (mk:=mk) (lm:=lm) (li:=li) (lp:=lp) (inn:=inn) (fs:=fs) (wt:=wt - 1) hf (by omega) h
theorem r_last {pc' s:Nat} {o':Bool} (hs:¬s<ls)
    (h:Ends P b (An C t lim ls wh mu false pc' s st hd o' mk lm li lp inn fs (wt - 1) sn)):
    Ends P (b+1) (An C t lim ls wh mu false pc pos st hd o mk lm li lp inn (nxF pc' s o'::fs) wt sn):=by
  exact Ends.step (Ends.neg quiet (Ends.neg hs h))
theorem r_failed:Ends Miss 1 (An C t lim ls wh mu false pc pos st hd o mk lm li lp inn [] wt sn):=by
  refine Ends.step (b:=0) (Ends.now ?_ ?_)<;>rfl
theorem r_hit (hall:fs.all passes=true):Ends (Hit st hd mk lm li) (fs.length+1) (An C t lim ls wh mu true pc pos st hd o mk lm li lp inn fs wt sn):=
  unwind fs _ rfl rfl rfl hall
theorem miss_tail {pc':Nat} (hf:noFirst C=true) (hpc:pc'<C.size) (h0:C.getD pc' 0=6) (h1:C.getD (pc'+1) 0=0):
    ∀(n s:Nat),ls - s=n→∀{mu o o':Bool} {pc pos st hd:Nat} {lm li:Int} {wt:Nat} {sn:Seen},wt≤16777215→Ends Miss (2*n+2) (An C t lim ls wh mu false pc pos st hd o mk lm li lp inn [nxF pc' s o'] wt sn):=by
  intro u0
  induction u0 with
  | zero=>
    intro s hn _ _ _ _ _ _ _ _ _ _ _ _
    exact r_last (Nat.not_lt.mpr (Nat.le_of_sub_eq_zero hn)) r_failed
  | succ n ih=>
    intro s hn _ _ _ _ _ _ _ _ _ _ _ hw
    refine Ends.mono (r_next (b:=(2*n+2)+1) hf (Nat.le_succ_of_le hw) (Nat.lt_of_sub_eq_succ hn) ?_) (Nat.le_refl _)
    refine r_at_no hpc h0 h1 (Nat.succ_ne_zero _) fun sn=>?_
    exact ih (s+1) (by rw [Nat.sub_add_eq,hn];rfl) (Nat.succ_le_succ (Nat.sub_le_sub_right hw 1))
theorem one_less {n least:Nat} (hn:n=least):(n:Int) - 1<(least:Int):=by omega
theorem one_more {n least:Nat} (hn:least≤n):¬(((n+1:Nat):Int) - 1<(least:Int)):=by omega
theorem less_one {n:Nat}:((n+1:Nat):Int) - 1=(n:Int):=by omega
theorem back_wt {wt k:Nat} (h:1+k≤wt):wt - (1+k)+1+k=wt:=by rw [Nat.add_assoc,Nat.sub_add_cancel h]
theorem r_give_no {pc' pos':Nat} {o':Bool} {n least:Nat} {kp:Sre.Kept} (h2:C.getD (pc'+2) 0=least) (hn:n=least) (hk:kp.whole=false)
    (h:Ends P b (An C t lim ls wh mu false pc' pos' st hd o' mk kp.lastmark kp.lastindex lp inn fs (wt - (1+kp.marks.size)) sn)):
    Ends P (b+1) (An C t lim ls wh mu false pc pos st hd o mk lm li lp inn ({wait:= .giveBack,pc:=pc',pos:=pos',outermost:=o',count:=(n:Int),kept:=kp}::fs) wt sn):=by
  obtain ⟨_,_,w,ms⟩:=kp
  subst hk h2
  exact Ends.step (Ends.neg quiet (Ends.pos (one_less hn) h))
theorem r_give {pc' pos':Nat} {o':Bool} {n least skip:Nat} {kp:Sre.Kept} (h2:C.getD (pc'+2) 0=least) (h1:C.getD (pc'+1) 0=skip) (hn:least≤n) (hk:kp.whole=false) (hw:wt≤16777216) (hw1:1+kp.marks.size≤wt)
    (h:Ends P b (S C t lim ls wh mu o' (pc'+1+skip) (pos' - 1) st (pos' - 1) mk kp.lastmark kp.lastindex lp inn ({wait:= .giveBack,pc:=pc',pos:=pos' - 1,outermost:=o',count:=(n:Int),kept:=kp}::fs) wt sn)):
    Ends P (b+1) (An C t lim ls wh mu false pc pos st hd o mk lm li lp inn ({wait:= .giveBack,pc:=pc',pos:=pos',outermost:=o',count:=((n+1:Nat):Int),kept:=kp}::fs) wt sn):=by
  obtain ⟨_,_,w,ms⟩:=kp
  subst hk h2 h1
  rw [←less_one (n:=n),←back_wt hw1] at h
  exact Ends.step (Ends.neg quiet (Ends.neg (one_more hn) (Ends.neg (Nat.not_lt.mpr ((back_wt hw1).symm▸hw)) h)))
end
end Mine.Re
end
section
namespace Mine.Re
open PySem PySem.Sre PySem.Sre.M
noncomputable abbrev alph:List Nat:=[39,34,92,32,97,55,61,59,44,36,35,40,37,33,64,233,107,110,109,120,45,121]
noncomputable def okv:Except String (Bool × Seen)→Option Bool
  | .ok (b,_)=>some b
  | .error _=>none
theorem of_okv {x:Except String (Bool × Seen)} {b:Bool} (h:okv x=some b):∃sn',x= .ok (b,sn'):=by
  match x,h with
  | .ok (_,sn),h=>exact ⟨sn,by cases h;rfl⟩
noncomputable def cTok:Array Nat:=#[14,4,0,1,4294967295,6,0,24,9,0,4294967295,13,4,8,12,0,1,17,0,24,19,1,4294967295,13,14,21,9,0,671092736,0,0,0,0,0,0,8,12,0,1,17,1,1]
noncomputable def cQuo:Array Nat:=#[14,4,0,3,4294967295,6,0,24,9,0,4294967295,13,4,8,12,0,1,16,61,24,9,0,4294967295,13,4,8,12,0,1,16,34,17,0,24,12,0,4294967295,13,7,21,16,34,16,92,0,1,23,19,0,4294967295,16,92,2,24,12,0,4294967295,13,7,21,16,34,16,92,0,1,18,17,1,16,34,1]
noncomputable def cVal:Array Nat:=#[14,4,0,1,4294967295,6,0,24,9,0,4294967295,13,4,8,12,0,1,16,61,24,9,0,4294967295,13,4,8,12,0,1,17,0,24,14,0,4294967295,13,9,21,8,12,16,59,16,44,0,1,17,1,1]
noncomputable def cEsc:Array Nat:=#[14,8,1,2,2,1,1,92,0,16,92,17,0,2,17,1,1]
noncomputable def cJunk:Array Nat:=#[14,4,0,0,4294967295,6,0,24,13,0,4294967295,13,8,16,61,8,12,16,59,0,1,1]
noncomputable def cFull:Array Nat:=#[14,4,0,1,4294967295,24,16,1,4294967295,13,11,9,0,67071226,3355443198,1476395007,0,0,0,0,0,1,1]
noncomputable def cJesc:Array Nat:=#[14,9,4,1,1,16,34,16,92,0,17,0,13,6,16,34,16,92,0,17,1,1]
noncomputable def cUns:Array Nat:=#[14,17,4,1,1,21,9,0,604043296,1,0,0,0,0,0,8,4,0,13,14,21,9,0,604043296,1,0,0,0,0,0,8,4,0,1]
theorem sp_no {c:Nat} (hc:c∈[107,110,109,59,44,61,34]) (sn:Seen):∃sn',accepts cTok 11 c sn= .ok (false,sn'):=by
  refine of_okv ?_
  simp only [List.mem_cons,List.not_mem_nil,or_false] at hc
  rcases hc with rfl|rfl|rfl|rfl|rfl|rfl|rfl<;>kernel_rfl
theorem sp_noQ {c:Nat} (hc:c∈[107,110,109,59,44,61,34]) (sn:Seen):∃sn',accepts cQuo 11 c sn= .ok (false,sn'):=by
  refine of_okv ?_
  simp only [List.mem_cons,List.not_mem_nil,or_false] at hc
  rcases hc with rfl|rfl|rfl|rfl|rfl|rfl|rfl<;>kernel_rfl
theorem sp_noQ2 {c:Nat} (hc:c∈[107,110,109,59,44,61,34]) (sn:Seen):∃sn',accepts cQuo 23 c sn= .ok (false,sn'):=by
  refine of_okv ?_
  simp only [List.mem_cons,List.not_mem_nil,or_false] at hc
  rcases hc with rfl|rfl|rfl|rfl|rfl|rfl|rfl<;>kernel_rfl
theorem sp_noV {c:Nat} (hc:c∈[107,110,109,59,44,61,34]) (sn:Seen):∃sn',accepts cVal 11 c sn= .ok (false,sn'):=by
  refine of_okv ?_
  simp only [List.mem_cons,List.not_mem_nil,or_false] at hc
  rcases hc with rfl|rfl|rfl|rfl|rfl|rfl|rfl<;>kernel_rfl
theorem nm_yes {c:Nat} (hc:c∈[107,110,109]) (sn:Seen):∃sn',accepts cTok 23 c sn= .ok (true,sn'):=by
  refine of_okv ?_
  simp only [List.mem_cons,List.not_mem_nil,or_false] at hc
  rcases hc with rfl|rfl|rfl<;>kernel_rfl
theorem nm_no {c:Nat} (hc:c∈[61,59,44]) (sn:Seen):∃sn',accepts cTok 23 c sn= .ok (false,sn'):=by
  refine of_okv ?_
  simp only [List.mem_cons,List.not_mem_nil,or_false] at hc
  rcases hc with rfl|rfl|rfl<;>kernel_rfl
section
variable {C t:Array Nat} {g pos lim:Nat} {mu:Bool} {P:M→Prop} {b:Nat}
theorem search_of {ls:Nat} (h1:pos≤lim) (h2:(header C).1≤lim - pos) (h3:ls=if (header C).1>1 && !((header C).2 !=0 && C.getD 2 0 &&& 5 !=0) then max pos (lim - ((header C).1 - 1)) else lim)
    (h:∀sn,Ends P b ((S C t lim ls false mu true (header C).2 pos pos pos (Array.replicate (2*g) none) (-1) (-1) #[] none [] 0 sn).attemptFrom pos true)):
    Ends P b (forSearch C t g pos lim mu):=by
  unfold forSearch
  dsimp only
  rw [if_neg (by omega)]
  subst h3
  exact h _
theorem search_short (h:lim<pos∨lim - pos<(header C).1):Ends Miss 1 (forSearch C t g pos lim mu):=by
  unfold forSearch
  dsimp only
  rw [if_pos (by omega)]
  refine Ends.step (b:=0) (Ends.now ?_ ?_)<;>rfl
theorem full_of (h2:(header C).1≤lim - pos)
    (h:∀sn,Ends P b (S C t lim 0 true mu true (header C).2 pos pos pos (Array.replicate (2*g) none) (-1) (-1) #[] none [] 0 sn)):
    Ends P b (forMatch C t g pos lim true mu):=by
  unfold forMatch
  dsimp only
  rw [if_neg (by simp;omega)]
  exact h _
end
section
variable {t:Array Nat} {lim:Nat}
theorem sub_two {a u r l p:Nat} (hp:p=a) (h:l=a+(2+(u+(1+r)))):l - (p+1+1)=u+(1+r):=by
  rw [h,hp,Nat.add_assoc,Nat.add_sub_add_left,Nat.add_sub_cancel_left]
theorem le_min_run {u r x:Nat} (h:x=u+(1+r)) (hu:u≤16777216):u+1≤min 4294967295 x:=
  Nat.le_min.mpr ⟨Nat.le_trans (Nat.succ_le_succ hu) (by decide),h▸Nat.add_le_add_left (Nat.le_add_right 1 r) u⟩
theorem sub_of {a b l p:Nat} (hp:p=a) (h:l=a+b):l - p=b:=by rw [h,hp,Nat.add_sub_cancel_left]
theorem sub_of1 {a b l p:Nat} (hp:p=a) (h:l=a+b):l+1 - p=b+1:=by rw [h,hp,Nat.add_assoc,Nat.add_sub_cancel_left]
theorem min_succ {a l p:Nat} (h:p<l) (ha:a=4294967295):∃k,min a (l - p)=k+1:=⟨min a (l - p) - 1,(Nat.sub_add_cancel (Nat.le_min.mpr ⟨by rw [ha];decide,Nat.sub_pos_of_lt h⟩)).symm⟩
theorem tok_hit (hl:2≤lim) (hc:t.getD 0 0∈[107,110,109]) (hd:t.getD 1 0∈[61,59,44]):Ends (Hit 0 1 #[some 0,some 1] 1 1) 20 (forSearch cTok t 1 0 lim false):=by
  refine search_of (ls:=lim) (by omega) (by show 1≤lim - 0;omega) rfl fun sn=>?_
  refine r_from rfl (by omega) ?_
  refine Ends.mono (b:=11) ?_ (by omega)
  refine r_at (by decide) rfl rfl rfl fun sn=>?_
  obtain ⟨k,hk⟩:=min_succ (a:=4294967295) (l:=lim) (p:=0) (by omega) rfl
  refine r_rep (n:=0) (least:=0) (most:=4294967295) (skip:=9) (kp:={lastmark:= -1,lastindex:= -1,whole:=false,marks:=#[]}) (by decide) rfl rfl rfl rfl (by omega) ?_ (by omega) (by omega) rfl (by simp) fun sn=>?_
  · rw [hk];exact .stop (sp_no (by revert hc;generalize t.getD 0 0=c;intro hc;simp only [List.mem_cons,List.not_mem_nil,or_false] at hc ⊢;omega))
  refine r_mark (i:=0) (mk':=#[some 0,none]) (lm':=0) (li':= -1) (by decide) rfl rfl (by omega) rfl rfl rfl fun sn=>?_
  refine r_rep (n:=1) (least:=1) (most:=4294967295) (skip:=19) (kp:={lastmark:=0,lastindex:= -1,whole:=false,marks:=#[]}) (by decide) rfl rfl rfl rfl (by omega) ?_ (by omega) (by omega) rfl (by decide) fun sn=>?_
  · show RunIs cTok t 23 (min 4294967295 (lim - 0)) 0 1
    rw [show min 4294967295 (lim - 0)=(min 4294967295 (lim - 0) - 2)+1+1 from (Nat.sub_add_cancel (m:=2) (Nat.le_min.mpr ⟨by decide,hl⟩)).symm]
    exact .more (nm_yes hc) (.stop (nm_no hd))
  refine r_mark (i:=1) (mk':=#[some 0,some 1]) (lm':=1) (li':=1) (by decide) rfl rfl (by omega) rfl rfl rfl fun sn=>?_
  refine r_succ (by decide) rfl (by intro _ h;cases h) (by intro _ h;cases h) fun sn=>?_
  exact Ends.mono (r_hit (by rfl)) (by decide)
theorem tok_miss (hl:1≤lim) (hc:t.getD 0 0∈[59,44]):Ends Miss (2*lim+10) (forSearch cTok t 1 0 lim false):=by
  refine search_of (ls:=lim) (by omega) (by show 1≤lim - 0;omega) rfl fun sn=>?_
  refine r_from rfl (by omega) ?_
  refine Ends.mono (b:=(2*lim+2)+1+1+1+1+1) ?_ (by omega)
  refine r_at (by decide) rfl rfl rfl fun sn=>?_
  obtain ⟨k,hk⟩:=min_succ (a:=4294967295) (l:=lim) (p:=0) (by omega) rfl
  refine r_rep (n:=0) (least:=0) (most:=4294967295) (skip:=9) (kp:={lastmark:= -1,lastindex:= -1,whole:=false,marks:=#[]}) (by decide) rfl rfl rfl rfl (by omega) ?_ (by omega) (by omega) rfl (by simp) fun sn=>?_
  · rw [hk];exact .stop (sp_no (by revert hc;generalize t.getD 0 0=c;intro hc;simp only [List.mem_cons,List.not_mem_nil,or_false] at hc ⊢;omega))
  refine r_mark (i:=0) (mk':=#[some 0,none]) (lm':=0) (li':= -1) (by decide) rfl rfl (by omega) rfl rfl rfl fun sn=>?_
  refine r_rep_no (n:=0) (least:=1) (most:=4294967295) (by decide) rfl rfl rfl (by omega) ?_ (by omega) fun sn=>?_
  · show RunIs cTok t 23 (min 4294967295 (lim - 0)) 0 0
    rw [hk];exact .stop (nm_no (by revert hc;generalize t.getD 0 0=c;intro hc;simp only [List.mem_cons,List.not_mem_nil,or_false] at hc ⊢;omega))
  refine r_give_no (n:=0) rfl rfl rfl ?_
  exact miss_tail rfl (by decide) rfl rfl lim 0 rfl (by simp)
theorem quo_miss (hl:3≤lim) (hc:t.getD 0 0=59):Ends Miss (2*lim+10) (forSearch cQuo t 1 0 lim false):=by
  refine search_of (ls:=max 0 (lim - 2)) (by omega) (by show 3≤lim - 0;omega) rfl fun sn=>?_
  refine r_from rfl (by omega) ?_
  refine Ends.mono (b:=(2*(lim - 2)+2)+1+1+1+1) ?_ (by omega)
  refine r_at (by decide) rfl rfl rfl fun sn=>?_
  obtain ⟨k,hk⟩:=min_succ (a:=4294967295) (l:=lim) (p:=0) (by omega) rfl
  refine r_rep (n:=0) (least:=0) (most:=4294967295) (skip:=9) (kp:={lastmark:= -1,lastindex:= -1,whole:=false,marks:=#[]}) (by decide) rfl rfl rfl rfl (by omega) ?_ (by omega) (by omega) rfl (by simp) fun sn=>?_
  · rw [hk];exact .stop (sp_noQ (by rw [hc];decide))
  refine r_lit_no (c:=61) (by decide) rfl rfl (by intro _;show t.getD 0 0≠61;rw [hc];decide) fun sn=>?_
  refine r_give_no (n:=0) rfl rfl rfl ?_
  exact miss_tail rfl (by decide) rfl rfl (lim - 2) 0 (by omega) (by simp)
theorem val_miss (hl:1≤lim) (hc:t.getD 0 0=59):Ends Miss (2*lim+10) (forSearch cVal t 1 0 lim false):=by
  refine search_of (ls:=lim) (by omega) (by show 1≤lim - 0;omega) rfl fun sn=>?_
  refine r_from rfl (by omega) ?_
  refine Ends.mono (b:=(2*lim+2)+1+1+1+1) ?_ (by omega)
  refine r_at (by decide) rfl rfl rfl fun sn=>?_
  obtain ⟨k,hk⟩:=min_succ (a:=4294967295) (l:=lim) (p:=0) (by omega) rfl
  refine r_rep (n:=0) (least:=0) (most:=4294967295) (skip:=9) (kp:={lastmark:= -1,lastindex:= -1,whole:=false,marks:=#[]}) (by decide) rfl rfl rfl rfl (by omega) ?_ (by omega) (by omega) rfl (by simp) fun sn=>?_
  · rw [hk];exact .stop (sp_noV (by rw [hc];decide))
  refine r_lit_no (c:=61) (by decide) rfl rfl (by intro _;show t.getD 0 0≠61;rw [hc];decide) fun sn=>?_
  refine r_give_no (n:=0) rfl rfl rfl ?_
  exact miss_tail rfl (by decide) rfl rfl lim 0 (by omega) (by simp)
end
end Mine.Re
end
section
namespace Mine
noncomputable def Es:List Nat→List Nat
  | []=>[]
  | c::t=>(if c=34∨c=92 then [92,c] else [c])++Es t
noncomputable abbrev Plain (u:List Nat):Prop:=∀c∈u,c≠34∧c≠92
noncomputable abbrev Headed (l:List Nat):Prop:=l=[]∨∃c l',l=c::l'∧(c=34∨c=92)
theorem plain_cut:∀l:List Nat,∃u l',l=u++l'∧Plain u∧Headed l'∧Es l=u++Es l':=by
  intro u0
  induction u0 with
  | nil=>
    exact ⟨[],[],rfl,(fun _ h=>nomatch h), .inl rfl,rfl⟩
  | cons c t ih=>
    by_cases hc:c=34∨c=92
    · exact ⟨[],c::t,rfl,(fun _ h=>nomatch h), .inr ⟨c,t,rfl,hc⟩,rfl⟩
    · obtain ⟨u,l',e,hp,hh,he⟩:=ih
      refine ⟨c::u,l',by rw [e];rfl,?_,hh,?_⟩
      · intro x hx
        rcases List.mem_cons.mp hx with rfl|hx
        · exact ⟨fun h=>hc (.inl h),fun h=>hc (.inr h)⟩
        · exact hp x hx
      · simp only [Es,if_neg hc,he];rfl
theorem first_cut (f:Nat→Bool):∀l:List Nat,(∃c∈l,f c=true)→∃u c r,l=u++c::r∧(∀x∈u,f x=false)∧f c=true:=by
  intro u0
  induction u0 with
  | nil=>
    intro h
    obtain ⟨_,h,_⟩:=h;cases h
  | cons c t ih=>
    intro h
    by_cases hc:f c=true
    · exact ⟨[],c,t,rfl,(fun _ h=>nomatch h),hc⟩
    · obtain ⟨x,hx,hf⟩:=h
      rcases List.mem_cons.mp hx with rfl|hx
      · exact absurd hf hc
      · obtain ⟨u,d,r,e,hu,hd⟩:=ih ⟨x,hx,hf⟩
        refine ⟨c::u,d,r,by rw [e];rfl,?_,hd⟩
        intro y hy
        rcases List.mem_cons.mp hy with rfl|hy
        · simpa using hc
        · exact hu y hy
end Mine
namespace Mine.Re
open PySem PySem.Sre PySem.Sre.M
theorem getD_mid {pre r:List Nat} {c p:Nat} (hp:p=pre.length):(pre++c::r).toArray.getD p 0=c:=by
  subst hp;simp [Array.getD]
theorem run_pref {C:Array Nat} {i:Nat} {d:Nat} {rest:List Nat} (hd:∀sn,∃sn',accepts C i d sn= .ok (false,sn')):
    ∀(u pre:List Nat) (n:Nat) {t:Array Nat} {p:Nat},u.length+1≤n→(∀c∈u,∀sn,∃sn',accepts C i c sn= .ok (true,sn'))→t=(pre++(u++d::rest)).toArray→p=pre.length→RunIs C t i n p u.length:=by
  intro u0
  induction u0 with
  | nil=>
    intro pre n t p hn _ ht hp
    obtain ⟨n,rfl⟩:∃k,n=k+1:=⟨n - 1,by simp at hn;omega⟩
    refine .stop ?_
    rw [ht,List.nil_append,getD_mid hp];exact hd
  | cons c u ih=>
    intro pre n t p hn hu ht hp
    obtain ⟨n,rfl⟩:∃k,n=k+1:=⟨n - 1,by simp at hn;omega⟩
    refine .more ?_ (ih (pre++[c]) n (by simp at hn;omega) (fun x hx=>hu x (.tail _ hx)) (by rw [ht];simp) (by rw [hp];simp))
    rw [ht,show (pre++(c::u++d::rest))=pre++c::(u++d::rest) from rfl,getD_mid hp]
    exact hu c (.head _)
section
variable {C t:Array Nat} {lim ls:Nat} {wh mu:Bool} {pc pos st hd:Nat} {o:Bool} {mk:Array (Option Nat)} {lm li:Int} {lp:Array Loop} {inn:Option Nat} {fs:List Sre.Frame} {wt:Nat} {sn:Seen} {P:M→Prop} {b:Nat}
theorem r_repeat {skip:Nat} (hpc:pc<C.size) (h0:C.getD pc 0=23) (h1:C.getD (pc+1) 0=skip) (hw:wt+1≤16777216)
    (h:∀sn,Ends P b (S C t lim ls wh mu o (pc+1+skip) pos st pos mk lm li #[{pc:=pc,outer:=none}] (some 0) ({wait:= .closeLoop,pc:=pc,pos:=pos,outermost:=o,loop:=0}::fs) (wt+1) sn)):
    Ends P (b+1) (S C t lim ls wh mu o pc pos st hd mk lm li #[] none fs wt sn):=by
  refine go hpc h0 ?_
  subst h1
  exact Ends.neg (Nat.not_lt.mpr hw) (h _)
theorem r_until {lpc:Nat} {cnt:Int} {bg:Option Nat} {kp:Sre.Kept} (hpc:pc<C.size) (h0:C.getD pc 0=18) (h2:C.getD (lpc+2) 0=0) (h3:C.getD (lpc+3) 0=4294967295) (hc: -1≤cnt) (hb:bg≠some pos)
    (hk:kp={lastmark:=lm,lastindex:=li,whole:=true,marks:=mk.extract 0 (lm+1).toNat}) (hw:wt+1+kp.marks.size≤16777216)
    (h:∀sn,Ends P b (S C t lim ls wh mu o (lpc+4) pos st pos mk lm li #[{pc:=lpc,count:=cnt+1,began:=some pos,outer:=none}] (some 0) ({wait:= .maxMore,pc:=pc+1,pos:=pos,outermost:=o,loop:=0,count:=cnt+1,kept:=kp,began:=bg}::fs) (wt+1+kp.marks.size) sn)):
    Ends P (b+1) (S C t lim ls wh mu o pc pos st hd mk lm li #[{pc:=lpc,count:=cnt,began:=bg,outer:=none}] (some 0) fs wt sn):=by
  refine go hpc h0 ?_
  subst hk
  refine Ends.neg (c:=cnt+1<((C.getD (lpc+2) 0:Nat):Int)) (by rw [h2];omega) (Ends.neg Bool.false_ne_true (Ends.pos ?_ (Ends.neg (Nat.not_lt.mpr hw) (h _))))
  show ((decide (cnt+1<((C.getD (lpc+3) 0:Nat):Int))||C.getD (lpc+3) 0==maxRepeat) && bg !=some pos)=true
  rw [bne_iff_ne.mpr hb,h3,Bool.and_true]
  exact Bool.or_true _
theorem r_more_no {lpc pc' pos':Nat} {cnt:Int} {bg bg':Option Nat} {c2:Int} {kp:Sre.Kept} {mk':Array (Option Nat)} (hk:kp.whole=true) (hmk:mk'=kp.marks++mk.extract kp.marks.size mk.size) (hw:wt≤16777215)
    (h:∀sn,Ends P b (S C t lim ls wh mu o pc' pos' st pos' mk' kp.lastmark kp.lastindex #[{pc:=lpc,count:=cnt - 1,began:=bg,outer:=none}] none
      ({wait:= .maxTail,pc:=pc',pos:=pos',outermost:=o,loop:=0,count:=cnt,kept:={lastmark:=kp.lastmark,lastindex:=kp.lastindex,whole:=false,marks:=#[]}}::fs) (wt - (1+kp.marks.size)+1) sn)):
    Ends P (b+1) (An C t lim ls wh mu false pc pos st hd o mk lm li #[{pc:=lpc,count:=c2,began:=bg',outer:=none}] (some 0) ({wait:= .maxMore,pc:=pc',pos:=pos',outermost:=o,loop:=0,count:=cnt,kept:=kp,began:=bg}::fs) wt sn):=by
  obtain ⟨_,_,w,ms⟩:=kp
  subst hk hmk
  exact Ends.step (Ends.neg quiet (Ends.neg (Nat.not_lt.mpr (Nat.le_trans (Nat.add_le_add_right (Nat.sub_le _ _) 1) (Nat.succ_le_succ hw))) (h _)))
end
theorem inq_yes {c:Nat} (hc:c≠34∧c≠92) {i:Nat} (hi:i=37∨i=57) (sn:Seen):∃sn',accepts cQuo i c sn= .ok (true,sn'):=by
  refine of_okv ?_
  rcases hi with rfl|rfl
  · exact (congrArg okv (if_neg (mt beq_iff_eq.mp hc.1))).trans (congrArg okv (if_neg (mt beq_iff_eq.mp hc.2)))
  · exact (congrArg okv (if_neg (mt beq_iff_eq.mp hc.1))).trans (congrArg okv (if_neg (mt beq_iff_eq.mp hc.2)))
theorem inq_no {c:Nat} (hc:c=34∨c=92) {i:Nat} (hi:i=37∨i=57) (sn:Seen):∃sn',accepts cQuo i c sn= .ok (false,sn'):=by
  refine of_okv ?_
  rcases hi with rfl|rfl<;>rcases hc with rfl|rfl<;>kernel_rfl
theorem es_head {l rest:List Nat} (h:Headed l):∃d r,Es l++34::rest=d::r∧(d=34∨d=92):=by
  rcases h with rfl|⟨c,l',rfl,hc⟩
  · exact ⟨34,rest,rfl, .inl rfl⟩
  · exact ⟨92,c::(Es l'++34::rest),by simp [Es,hc], .inr rfl⟩
theorem quo_loop:∀(n:Nat) (l:List Nat),l.length≤n→Headed l→(∀c∈l,c≠10)→∀(pre rest:List Nat) {t:Array Nat} {lim ls p st hd p0:Nat} {cnt:Int} {bg:Option Nat} {fs:List Sre.Frame} {wt:Nat} {sn:Seen},
    t=(pre++(Es l++34::rest)).toArray→lim=t.size→p=pre.length→(∀x,bg=some x→x<p)→ -1≤cnt→fs.all passes=true→wt+4*l.length+10≤16777216→
    Ends (Hit st (p+(Es l).length+1) #[some p0,some (p+(Es l).length)] 1 1) (8*l.length+fs.length+12) (S cQuo t lim ls false false true 66 p st hd #[some p0,none] 0 (-1) #[{pc:=46,count:=cnt,began:=bg,outer:=none}] (some 0) fs wt sn):=by
  intro n
  induction n with
  | zero=>
    intro l hn hh hc pre rest t lim ls p st hd p0 cnt bg fs wt sn ht hl hp hb hcn hfs hw
    obtain rfl:l=[]:=List.eq_nil_of_length_eq_zero (by omega)
    have hs:lim=pre.length+(1+rest.length):=by rw [hl,ht];simp [Es];omega
    have hg:t.getD p 0=34:=by rw [ht];exact getD_mid hp
    refine r_until (kp:={lastmark:=0,lastindex:= -1,whole:=true,marks:=#[some p0]}) (by decide) rfl rfl rfl hcn (fun e=>absurd (hb _ e) (by omega)) rfl (by simp;omega) fun sn=>?_
    refine r_lit_no (c:=92) (by decide) rfl rfl (by intro _;rw [hg];decide) fun sn=>?_
    refine r_more_no (mk':=#[some p0,none]) rfl rfl (by simp;omega) fun sn=>?_
    refine r_mark (i:=1) (mk':=#[some p0,some p]) (lm':=1) (li':=1) (by decide) rfl rfl (by simp) rfl rfl rfl fun sn=>?_
    refine r_lit (c:=34) (by decide) rfl rfl (by omega) hg fun sn=>?_
    refine r_succ (by decide) rfl (by intro _ h;cases h) (by intro _ h;cases h) fun sn=>?_
    exact Ends.mono (r_hit (by simpa [passes] using hfs)) (by simp)
  | succ n ih=>
    intro l hn hh hc pre rest t lim ls p st hd p0 cnt bg fs wt sn ht hl hp hb hcn hfs hw
    rcases hh with rfl|⟨c,l',rfl,hcc⟩
    · exact ih [] (by simp) (.inl rfl) (fun _ h=>nomatch h) pre rest ht hl hp hb hcn hfs hw
    · obtain ⟨u,l2,el,hu,hh2,ee⟩:=plain_cut l'
      obtain ⟨d,r,ed,hd'⟩:=es_head (rest:=rest) hh2
      have et:t=(pre++92::c::(u++d::r)).toArray:=by rw [ht];simp only [Es,if_pos hcc,ee,←ed,List.append_assoc];rfl
      have hg0:t.getD p 0=92:=by rw [et];exact getD_mid hp
      have hg1:t.getD (p+1) 0=c:=by
        rw [et,show pre++92::c::(u++d::r)=(pre++[92])++c::(u++d::r) by simp]
        exact getD_mid (by simp [hp])
      have hs:lim=pre.length+(2+(u.length+(1+r.length))):=by rw [hl,et];simp;omega
      have hl2:l'.length=u.length+l2.length:=by rw [el];simp
      have hwl:(c::l').length=l'.length+1:=rfl
      have hes:(Es (c::l')).length=2+(u.length+(Es l2).length):=by simp only [Es,if_pos hcc,ee];simp;omega
      have hne10:c≠10:=hc c (.head _)
      refine Ends.mono (b:=(8*l2.length+(fs.length+2)+12)+1+1+1+1) ?_ (by simp only [List.length_cons];omega)
      refine r_until (kp:={lastmark:=0,lastindex:= -1,whole:=true,marks:=#[some p0]}) (by decide) rfl rfl rfl hcn (fun e=>absurd (hb _ e) (by omega)) rfl (by simp;omega) fun sn=>?_
      refine r_lit (c:=92) (by decide) rfl rfl (by omega) hg0 fun sn=>?_
      refine r_any (by decide) rfl (by omega) (by rw [hg1];exact hne10) fun sn=>?_
      refine r_rep (n:=u.length) (least:=0) (most:=4294967295) (skip:=12) (kp:={lastmark:=0,lastindex:= -1,whole:=true,marks:=#[some p0]}) (by decide) rfl rfl rfl rfl (by omega) ?_ (Nat.zero_le _) (sub_two hp hs▸Nat.le_add_right _ _) rfl (by simp;omega) fun sn=>?_
      · refine run_pref (d:=d) (rest:=r) (inq_no hd' (.inr rfl)) u (pre++[92,c]) _ (le_min_run (sub_two hp hs) (by omega)) (fun x hx=>inq_yes (hu x hx) (.inr rfl)) (by rw [et];simp) (by simp [hp])
      rw [show p+(Es (c::l')).length+1=(p+1+1+u.length)+(Es l2).length+1 by omega,show p+(Es (c::l')).length=(p+1+1+u.length)+(Es l2).length by omega]
      refine Ends.mono (ih l2 (by simp at hn;omega) hh2 (fun x hx=>hc x (.tail _ (by rw [el];exact List.mem_append_right _ hx))) (pre++92::c::u) rest (by rw [et,←ed];simp) hl (by simp [hp];omega) (by intro x hx;cases hx;omega) (by omega) (by simp [passes,hfs]) (by simp;omega)) ?_
      simp
theorem quo_hit {l rest:List Nat} {t:Array Nat} (hn:∀c∈l,c≠10) (hz:l.length≤20000) (ht:t=(61::34::(Es l++34::rest)).toArray):
    Ends (Hit 0 (2+(Es l).length+1) #[some 2,some (2+(Es l).length)] 1 1) 1000000 (forSearch cQuo t 1 0 t.size false):=by
  obtain ⟨u,l2,el,hu,hh2,ee⟩:=plain_cut l
  obtain ⟨d,r,ed,hd'⟩:=es_head (rest:=rest) hh2
  have et:t=(61::34::(u++d::r)).toArray:=by rw [ht,ee,List.append_assoc,ed]
  have hs:t.size=2+(u.length+(1+r.length)):=by rw [et];simp;omega
  have hl2:l.length=u.length+l2.length:=by rw [el];simp
  have hes:(Es l).length=u.length+(Es l2).length:=by rw [ee];simp
  have hg0:t.getD 0 0=61:=by rw [et];exact getD_mid (pre:=[]) rfl
  have hg1:t.getD 1 0=34:=by rw [et];exact getD_mid (pre:=[61]) rfl
  generalize hlim:t.size=lim at*
  have hs':lim=0+(2+(u.length+(1+r.length))):=hs.trans (Nat.zero_add _).symm
  refine search_of (ls:=max 0 (lim - 2)) (by omega) (by show 3≤lim - 0;omega) rfl fun sn=>?_
  refine r_from rfl (by omega) ?_
  refine Ends.mono (b:=(8*l2.length+5+12)+1+1+1+1+1+1+1+1) ?_ (by omega)
  refine r_at (by decide) rfl rfl rfl fun sn=>?_
  obtain ⟨k,hk⟩:=min_succ (a:=4294967295) (l:=lim) (p:=0) (by omega) rfl
  obtain ⟨k1,hk1⟩:=min_succ (a:=4294967295) (l:=lim) (p:=1) (by omega) rfl
  refine r_rep (n:=0) (least:=0) (most:=4294967295) (skip:=9) (kp:={lastmark:= -1,lastindex:= -1,whole:=false,marks:=#[]}) (by decide) rfl rfl rfl rfl (by omega) ?_ (by omega) (by omega) rfl (by simp) fun sn=>?_
  · rw [hk];exact .stop (sp_noQ (by rw [hg0];decide))
  refine r_lit (c:=61) (by decide) rfl rfl (by omega) hg0 fun sn=>?_
  refine r_rep (n:=0) (least:=0) (most:=4294967295) (skip:=9) (kp:={lastmark:= -1,lastindex:= -1,whole:=false,marks:=#[]}) (by decide) rfl rfl rfl rfl (by omega) ?_ (by omega) (by omega) rfl (by simp) fun sn=>?_
  · show RunIs cQuo t 23 (min 4294967295 (lim - 1)) 1 0
    rw [hk1];exact .stop (sp_noQ2 (by rw [hg1];decide))
  refine r_lit (c:=34) (by decide) rfl rfl (by omega) hg1 fun sn=>?_
  refine r_mark (i:=0) (mk':=#[some 2,none]) (lm':=0) (li':= -1) (by decide) rfl rfl (by omega) rfl rfl rfl fun sn=>?_
  refine r_rep (n:=u.length) (least:=0) (most:=4294967295) (skip:=12) (kp:={lastmark:=0,lastindex:= -1,whole:=false,marks:=#[]}) (by decide) rfl rfl rfl rfl (by omega) ?_ (Nat.zero_le _) (sub_two (p:=0) rfl hs'▸Nat.le_add_right _ _) rfl (by simp) fun sn=>?_
  · exact run_pref (d:=d) (rest:=r) (inq_no hd' (.inl rfl)) u [61,34] _ (le_min_run (sub_two (p:=0) rfl hs') (by omega)) (fun x hx=>inq_yes (hu x hx) (.inl rfl)) et rfl
  refine r_repeat (skip:=19) (by decide) rfl rfl (by simp) fun sn=>?_
  rw [hes,show 2+(u.length+(Es l2).length)+1=(2+u.length)+(Es l2).length+1 by omega,show 2+(u.length+(Es l2).length)=(2+u.length)+(Es l2).length by omega]
  refine Ends.mono (quo_loop l2.length l2 (Nat.le_refl _) hh2 (fun x hx=>hn x (by rw [el];exact List.mem_append_right _ hx)) (61::34::u) rest (by rw [et,←ed];simp) hlim.symm (by simp;omega) (by intro x hx;cases hx) (by omega) (by rfl) (by simp;omega)) ?_
  simp
end Mine.Re
end
section
namespace Mine.Re
open PySem PySem.Sre PySem.Sre.M
theorem getD_out {l:List Nat} {p:Nat} (h:l.length≤p):l.toArray.getD p 0=0:=by
  simp [Array.getD,Nat.not_lt.mpr h]
theorem esc_go {c:Nat} {rest:List Nat} (hc:c≠10):∀(u pre:List Nat) {t:Array Nat} {lim p:Nat} {o:Bool} {wt:Nat} {sn:Seen},
    t=(pre++(u++92::c::rest)).toArray→lim=t.size→p=pre.length→(∀x∈u,x≠92)→wt≤1→
    Ends (Hit (p+u.length) (p+u.length+2) #[some (p+u.length+1),some (p+u.length+2)] 1 1) (3*u.length+10) (S cEsc t lim lim false false o 9 p p p #[none,none] (-1) (-1) #[] none [nxF 9 p o] wt sn):=by
  intro u
  induction u with
  | nil=>
    intro pre t lim p o wt sn ht hl hp _ hw
    have hs:lim=pre.length+(2+rest.length):=by rw [hl,ht];simp;omega
    have g0:t.getD p 0=92:=by rw [ht];exact getD_mid hp
    have g1:t.getD (p+1) 0=c:=by
      rw [ht,show pre++([]++92::c::rest)=(pre++[92])++c::rest by simp];exact getD_mid (by simp [hp])
    refine Ends.mono (b:=9) ?_ (by simp)
    refine r_lit (c:=92) (by decide) rfl rfl (by omega) g0 fun sn=>?_
    refine r_mark (i:=0) (mk':=#[some (p+1),none]) (lm':=0) (li':= -1) (by decide) rfl rfl (by omega) rfl rfl rfl fun sn=>?_
    refine r_any (by decide) rfl (by omega) (by rw [g1];exact hc) fun sn=>?_
    refine r_mark (i:=1) (mk':=#[some (p+1),some (p+2)]) (lm':=1) (li':=1) (by decide) rfl rfl (by simp) rfl rfl rfl fun sn=>?_
    refine r_succ (by decide) rfl (by intro _ h;cases h) (by intro _ h;cases h) fun sn=>?_
    exact Ends.mono (r_hit (by rfl)) (by simp)
  | cons x u ih=>
    intro pre t lim p o wt sn ht hl hp hu hw
    have hs:lim=pre.length+(1+(u.length+(2+rest.length))):=by rw [hl,ht];simp;omega
    have g0:t.getD p 0=x:=by rw [ht];exact getD_mid hp
    refine Ends.mono (b:=(3*u.length+10)+1+1) ?_ (by simp;omega)
    refine r_lit_no (c:=92) (by decide) rfl rfl (by intro _;rw [g0];exact hu x (.head _)) fun sn=>?_
    refine r_next rfl (by omega) (by omega) ?_
    have:=ih (pre++[x]) (t:=t) (lim:=lim) (p:=p+1) (o:=false) (wt:=wt - 1+1) (sn:=sn) (by rw [ht];simp) hl (by simp [hp]) (fun y hy=>hu y (.tail _ hy)) (by omega)
    simp only [List.length_cons]
    rw [show p+(u.length+1)+2=p+1+u.length+2 by omega,show p+(u.length+1)+1=p+1+u.length+1 by omega,show p+(u.length+1)=p+1+u.length by omega]
    exact this
theorem esc_hit {c p:Nat} {u pre rest:List Nat} {t:Array Nat} (hc:c≠10) (ht:t=(pre++(u++92::c::rest)).toArray) (hp:p=pre.length) (hu:∀x∈u,x≠92):
    Ends (Hit (p+u.length) (p+u.length+2) #[some (p+u.length+1),some (p+u.length+2)] 1 1) (3*u.length+10) (forSearch cEsc t 1 p t.size false):=by
  have hs:t.size=pre.length+(u.length+(2+rest.length)):=by rw [ht];simp;omega
  refine search_of (ls:=t.size) (by omega) (by show 2≤t.size - p;rw [sub_of hp hs];omega) rfl fun sn=>?_
  refine r_from rfl (by omega) ?_
  exact esc_go hc u pre ht rfl hp hu (by omega)
theorem esc_none:∀(u pre:List Nat) {t:Array Nat} {lim p:Nat} {o:Bool} {wt:Nat} {sn:Seen},
    t=(pre++u).toArray→lim=t.size→p=pre.length→(∀x∈u,x≠92)→wt≤1→
    Ends Miss (2*u.length+3) (S cEsc t lim lim false false o 9 p p p #[none,none] (-1) (-1) #[] none [nxF 9 p o] wt sn):=by
  intro u
  induction u with
  | nil=>
    intro pre t lim p o wt sn ht hl hp _ hw
    have hs:lim=p:=by rw [hl,ht,hp];simp
    refine r_lit_no (c:=92) (by decide) rfl rfl (by omega) fun sn=>?_
    exact r_last (by omega) r_failed
  | cons x u ih=>
    intro pre t lim p o wt sn ht hl hp hu hw
    have hs:lim=pre.length+(1+u.length):=by rw [hl,ht];simp;omega
    have g0:t.getD p 0=x:=by rw [ht];exact getD_mid hp
    refine Ends.mono (b:=(2*u.length+3)+1+1) ?_ (by simp;omega)
    refine r_lit_no (c:=92) (by decide) rfl rfl (by intro _;rw [g0];exact hu x (.head _)) fun sn=>?_
    refine r_next rfl (by omega) (by omega) ?_
    exact ih (pre++[x]) (t:=t) (lim:=lim) (p:=p+1) (o:=false) (wt:=wt - 1+1) (sn:=sn) (by rw [ht];simp) hl (by simp [hp]) (fun y hy=>hu y (.tail _ hy)) (by omega)
theorem esc_miss {p:Nat} {u pre:List Nat} {t:Array Nat} (ht:t=(pre++u).toArray) (hp:p=pre.length) (hu:∀x∈u,x≠92):Ends Miss (2*u.length+10) (forSearch cEsc t 1 p t.size false):=by
  have hs:t.size=pre.length+u.length:=by rw [ht];simp
  by_cases h2:2≤u.length
  · refine search_of (ls:=t.size) (by omega) (by show 2≤t.size - p;rw [sub_of hp hs];omega) rfl fun sn=>?_
    refine r_from rfl (by omega) ?_
    exact Ends.mono (esc_none u pre ht rfl hp hu (by omega)) (by omega)
  · exact Ends.mono (search_short (.inr (by show t.size - p<2;rw [sub_of hp hs];omega))) (by omega)
theorem admit_go {m:M} {c:Nat} {rest:List Nat} {f:Nat→Bool} {G:Nat→Prop} (hin:∀x,G x→∀sn,∃sn',inSet m.code x m.code.size 5 true sn= .ok (f x,sn')) (hc:f c=true):∀(u pre:List Nat) {n s:Nat} {sn:Seen},
    m.text=(pre++(u++c::rest)).toArray→m.lim=m.text.size→s=pre.length→(∀x∈u,f x=false)→G c→(∀x∈u,G x)→u.length+1≤n→∃sn',admitted m n s sn= .ok (some (s+u.length),sn'):=by
  intro u
  induction u with
  | nil=>
    intro pre n s sn ht hl hs _ gc _ hn
    obtain ⟨n,rfl⟩:∃k,n=k+1:=⟨n - 1,by simp at hn;omega⟩
    have hz:m.lim=pre.length+(1+rest.length):=by rw [hl,ht];simp;omega
    have g0:m.text.getD s 0=c:=by rw [ht];exact getD_mid hs
    obtain ⟨sn',e⟩:=hin c gc sn
    refine ⟨sn',?_⟩
    unfold admitted
    rw [if_neg (by omega),g0,e,hc];rfl
  | cons x u ih=>
    intro pre n s sn ht hl hs hu gc gu hn
    obtain ⟨n,rfl⟩:∃k,n=k+1:=⟨n - 1,by simp at hn;omega⟩
    have hz:m.lim=pre.length+(1+(u.length+(1+rest.length))):=by rw [hl,ht];simp;omega
    have g0:m.text.getD s 0=x:=by rw [ht];exact getD_mid hs
    obtain ⟨sn',e⟩:=hin x (gu x (.head _)) sn
    rw [hu x (.head _)] at e
    obtain ⟨sn2,e2⟩:=ih (n:=n) (s:=s+1) (sn:=sn') (pre++[x]) (by rw [ht];simp) hl (by simp [hs]) (fun y hy=>hu y (.tail _ hy)) gc (fun y hy=>gu y (.tail _ hy)) (by simp at hn;omega)
    refine ⟨sn2,?_⟩
    unfold admitted
    rw [if_neg (by omega),g0,e]
    simp only
    rw [e2,List.length_cons,show s+(u.length+1)=s+1+u.length by omega]
theorem admit_none {m:M} {f:Nat→Bool} (hin:∀x,f x=false→∀sn,∃sn',inSet m.code x m.code.size 5 true sn= .ok (f x,sn')):∀(u pre:List Nat) {n s:Nat} {sn:Seen},
    m.text=(pre++u).toArray→m.lim=m.text.size→s=pre.length→(∀x∈u,f x=false)→∃sn',admitted m n s sn= .ok (none,sn')
  | _,_,0,_,sn,_,_,_,_=>⟨sn,rfl⟩
  | [],pre,n+1,s,sn,ht,hl,hs,_=>by
    have hz:m.lim=pre.length:=by rw [hl,ht];simp
    refine ⟨sn,?_⟩
    unfold admitted
    rw [if_pos (by omega)]
  | x::u,pre,n+1,s,sn,ht,hl,hs,hu=>by
    have hz:m.lim=pre.length+(1+u.length):=by rw [hl,ht];simp;omega
    have g0:m.text.getD s 0=x:=by rw [ht];exact getD_mid hs
    obtain ⟨sn',e⟩:=hin x (hu x (.head _)) sn
    rw [hu x (.head _)] at e
    obtain ⟨sn2,e2⟩:=admit_none (n:=n) (s:=s+1) (sn:=sn') hin u (pre++[x]) (by rw [ht];simp) hl (by simp [hs]) (fun y hy=>hu y (.tail _ hy))
    refine ⟨sn2,?_⟩
    unfold admitted
    rw [if_neg (by omega),g0,e]
    exact e2
section
variable {C t:Array Nat} {lim ls:Nat} {wh mu:Bool} {pc pos st hd:Nat} {o:Bool} {mk:Array (Option Nat)} {lm li:Int} {lp:Array Loop} {inn:Option Nat} {fs:List Sre.Frame} {wt:Nat} {sn:Seen} {P:M→Prop} {b:Nat}
theorem r_fromC {s s':Nat} (hf:noFirst C=false) (hw:wt+1≤16777216) (ha:∃sn',admitted (S C t lim ls wh mu o pc pos st hd mk lm li lp inn fs wt sn) (lim+1 - s) s sn= .ok (some s',sn'))
    (h:∀sn,Ends P b (S C t lim ls wh false true pc s' s' s' mk (-1) (-1) lp inn (nxF pc s' true::fs) (wt+1) sn)):
    Ends P b ((S C t lim ls wh mu o pc pos st hd mk lm li lp inn fs wt sn).attemptFrom s true):=by
  obtain ⟨sn',ha⟩:=ha
  refine Ends.neg (fun h=>Bool.false_ne_true (hf.symm.trans h)) ?_
  rw (config:={transparency:= .default}) [ha]
  exact Ends.neg (Nat.not_lt.mpr hw) (h _)
theorem r_fromN {s:Nat} (hf:noFirst C=false) (ha:∃sn',admitted (S C t lim ls wh mu o pc pos st hd mk lm li lp inn fs wt sn) (lim+1 - s) s sn= .ok (none,sn'))
    (h:∀sn,Ends P b (An C t lim ls wh mu false pc pos st hd o mk lm li lp inn fs wt sn)):
    Ends P b ((S C t lim ls wh mu o pc pos st hd mk lm li lp inn fs wt sn).attemptFrom s true):=by
  obtain ⟨sn',ha⟩:=ha
  refine Ends.neg (fun h=>Bool.false_ne_true (hf.symm.trans h)) ?_
  rw (config:={transparency:= .default}) [ha]
  exact h _
end
noncomputable abbrev spec (x:Nat):Bool:=x==34||x==92
theorem spec_in (x:Nat) (sn:Seen):∃sn',inSet cJesc x cJesc.size 5 true sn= .ok (spec x,sn'):=by
  refine of_okv ?_
  by_cases h1:(x==34)=true
  · rw [show spec x=true by rw [spec,h1];rfl]
    exact congrArg okv (if_pos h1)
  · by_cases h2:(x==92)=true
    · rw [show spec x=true by rw [spec,h2];exact Bool.or_true _]
      exact (congrArg okv (if_neg h1)).trans (congrArg okv (if_pos h2))
    · rw [show spec x=false by rw [spec,Bool.eq_false_iff.mpr h1,Bool.eq_false_iff.mpr h2];rfl]
      exact (congrArg okv (if_neg h1)).trans (congrArg okv (if_neg h2))
theorem spec_acc {x:Nat} (hx:spec x=true) (sn:Seen):∃sn',accepts cJesc 12 x sn= .ok (true,sn'):=by
  refine of_okv ?_
  have:x=34∨x=92:=by simpa [spec] using hx
  rcases this with rfl|rfl<;>kernel_rfl
theorem jesc_hit {c p:Nat} {u pre rest:List Nat} {t:Array Nat} (hc:spec c=true) (ht:t=(pre++(u++c::rest)).toArray) (hp:p=pre.length) (hu:∀x∈u,spec x=false):
    Ends (Hit (p+u.length) (p+u.length+1) #[some (p+u.length),some (p+u.length+1)] 1 1) 10 (forSearch cJesc t 1 p t.size false):=by
  have hs:t.size=pre.length+(u.length+(1+rest.length)):=by rw [ht];simp;omega
  have g0:t.getD (p+u.length) 0=c:=by rw [ht,show pre++(u++c::rest)=(pre++u)++c::rest by simp];exact getD_mid (by simp [hp])
  refine search_of (ls:=t.size) (by omega) (by show 1≤t.size - p;rw [sub_of hp hs];omega) rfl fun sn=>?_
  refine r_fromC (s':=p+u.length) rfl (by omega) (admit_go (c:=c) (rest:=rest) (f:=spec) (G:=fun _=>True) (fun x _=>spec_in x) hc u pre ht rfl hp hu trivial (fun _ _=>trivial) (by rw [sub_of1 hp hs];omega)) fun sn=>?_
  refine Ends.mono (b:=6) ?_ (by omega)
  refine r_mark (i:=0) (mk':=#[some (p+u.length),none]) (lm':=0) (li':= -1) (by decide) rfl rfl (by omega) rfl rfl rfl fun sn=>?_
  refine r_in (wd:=6) (by decide) rfl rfl (by omega) g0 (spec_acc hc) fun sn=>?_
  refine r_mark (i:=1) (mk':=#[some (p+u.length),some (p+u.length+1)]) (lm':=1) (li':=1) (by decide) rfl rfl (by simp) rfl rfl rfl fun sn=>?_
  refine r_succ (by decide) rfl (by intro _ h;cases h) (by intro _ h;cases h) fun sn=>?_
  exact Ends.mono (r_hit (by rfl)) (by simp)
theorem jesc_miss {p:Nat} {u pre:List Nat} {t:Array Nat} (ht:t=(pre++u).toArray) (hp:p=pre.length) (hu:∀x∈u,spec x=false):Ends Miss 10 (forSearch cJesc t 1 p t.size false):=by
  have hs:t.size=pre.length+u.length:=by rw [ht];simp
  by_cases h2:1≤u.length
  · refine search_of (ls:=t.size) (by omega) (by show 1≤t.size - p;omega) rfl fun sn=>?_
    refine r_fromN rfl (admit_none (f:=spec) (fun x _=>spec_in x) u pre ht rfl hp hu) fun sn=>?_
    exact Ends.mono r_failed (by omega)
  · exact Ends.mono (search_short (.inr (by show t.size - p<1;rw [sub_of hp hs];omega))) (by omega)
noncomputable abbrev unsafeC (x:Nat):Bool:=!([97,55,61,44,37,64,107,110,109,120,45,121].contains x)
theorem uns_in {x:Nat} (hx:x∈alph) (sn:Seen):∃sn',inSet cUns x cUns.size 5 true sn= .ok (unsafeC x,sn'):=
  of_okv (List.map_inj_left.mp (by kernel_rfl:alph.map (fun x=>okv (inSet cUns x cUns.size 5 true sn))=alph.map fun x=>some (unsafeC x)) x hx)
theorem uns_acc {x:Nat} (hx:x∈alph) (hf:unsafeC x=true) (sn:Seen):∃sn',accepts cUns 18 x sn= .ok (true,sn'):=by
  rw [←hf]
  exact of_okv (List.map_inj_left.mp (by kernel_rfl:alph.map (fun x=>okv (accepts cUns 18 x sn))=alph.map fun x=>some (unsafeC x)) x hx)
theorem uns_hit {l:List Nat} (hl:∀c∈l,c∈alph) (hb:32∈l):∃k,Ends (Hit k (k+1) #[] (-1) (-1)) 10 (forSearch cUns l.toArray 0 0 l.toArray.size false):=by
  obtain ⟨u,c,r,e,hu,hc⟩:=first_cut unsafeC l ⟨32,hb,rfl⟩
  refine ⟨0+u.length,?_⟩
  have ht:l.toArray=([]++(u++c::r)).toArray:=by rw [e];rfl
  have hca:c∈alph:=hl c (by rw [e];simp)
  have hs:l.toArray.size=u.length+(1+r.length):=by rw [ht];simp;omega
  have g0:l.toArray.getD (0+u.length) 0=c:=by rw [ht,show []++(u++c::r)=u++c::r from rfl];exact getD_mid (pre:=u) (by simp)
  generalize l.toArray=t at*
  refine search_of (ls:=t.size) (by omega) (by show 1≤t.size - 0;omega) rfl fun sn=>?_
  have hmem:∀x∈u,x∈alph:=fun x hx=>hl x (by rw [e];exact List.mem_append_left _ hx)
  refine r_fromC (s':=0+u.length) rfl (by omega) ?_ fun sn=>?_
  · exact admit_go (c:=c) (rest:=r) (f:=unsafeC) (G:=fun x=>x∈alph) (fun x hx=>uns_in hx) hc u [] ht rfl rfl hu hca hmem (by omega)
  refine Ends.mono (b:=4) ?_ (by omega)
  refine r_in (wd:=14) (by decide) rfl rfl (by omega) g0 (uns_acc hca hc) fun sn=>?_
  refine r_succ (by decide) rfl (by intro _ h;cases h) (by intro _ h;cases h) fun sn=>?_
  exact Ends.mono (r_hit (by rfl)) (by simp)
noncomputable abbrev tokC (x:Nat):Bool:=[39,97,55,36,35,37,33,107,110,109,120,45,121].contains x
theorem tok_in {x:Nat} (hx:x∈alph) (sn:Seen):∃sn',accepts cFull 9 x sn= .ok (tokC x,sn'):=
  of_okv (List.map_inj_left.mp (by kernel_rfl:alph.map (fun x=>okv (accepts cFull 9 x sn))=alph.map fun x=>some (tokC x)) x hx)
theorem full_back {t:Array Nat} {lim:Nat}:∀(n:Nat) {p:Nat} {sn:Seen},p<lim→n+1≤p→
    Ends Miss (3*n+4) (S cFull t lim 0 true false true 22 p 0 p #[] (-1) (-1) #[] none [{wait:= .giveBack,pc:=5,pos:=p,outermost:=true,count:=((n+1:Nat):Int),kept:={lastmark:= -1,lastindex:= -1,whole:=false,marks:=#[]}}] 1 sn):=by
  intro u0
  induction u0 with
  | zero=>
    intro p sn hp hn
    refine Ends.mono (b:=1+1+1) ?_ (by omega)
    refine r_succ_no (by decide) rfl rfl rfl (by omega) fun sn=>?_
    refine r_give_no (n:=1) (least:=1) rfl rfl rfl ?_
    exact r_failed
  | succ n ih=>
    intro p sn hp hn
    refine Ends.mono (b:=(3*n+4)+1+1) ?_ (by omega)
    refine r_succ_no (by decide) rfl rfl rfl (by omega) fun sn=>?_
    refine r_give (n:=n+1) (least:=1) (skip:=16) rfl rfl (by omega) rfl (by omega) (by simp) ?_
    exact ih (p:=p - 1) (by omega) (by omega)
theorem full_miss {l:List Nat} (hl:∀c∈l,c∈alph) (hb:32∈l) (hz:l.length≤20000):Ends Miss 100000 (forMatch cFull l.toArray 0 0 l.toArray.size true false):=by
  obtain ⟨u,c,r,e,hu,hc⟩:=first_cut (fun x=>!tokC x) l ⟨32,hb,rfl⟩
  have ht:l.toArray=([]++(u++c::r)).toArray:=by rw [e];rfl
  have hca:c∈alph:=hl c (by rw [e];simp)
  have hs:l.toArray.size=u.length+(1+r.length):=by rw [ht];simp;omega
  have hzl:l.toArray.size=l.length:=by simp
  generalize l.toArray=t at*
  have hmem:∀x∈u,x∈alph:=fun x hx=>hl x (by rw [e];exact List.mem_append_left _ hx)
  have hcf:tokC c=false:=by simpa using hc
  have hut:∀x∈u,tokC x=true:=fun x hx=>by have h9:=hu x hx;revert h9;show (!tokC x)=false→_;generalize tokC x=z;cases z<;>simp
  refine full_of (by show 1≤t.size - 0;omega) fun sn=>?_
  have hr:RunIs cFull t 9 (min 4294967295 (t.size - 0)) 0 u.length:=
    run_pref (d:=c) (rest:=r) (fun sn=>by have:=tok_in hca sn;rwa [hcf] at this) u [] _ (by omega) (fun x hx sn=>by have:=tok_in (hmem x hx) sn;rwa [hut x hx] at this) ht rfl
  by_cases h0:u.length=0
  · rw [h0] at hr
    refine Ends.mono (b:=1+1) ?_ (by omega)
    exact r_rep_no (n:=0) (least:=1) (most:=4294967295) (by decide) rfl rfl rfl (by omega) hr (by omega) fun sn=>r_failed
  · obtain ⟨n,hn⟩:∃n,u.length=n+1:=⟨u.length - 1,(Nat.succ_pred_eq_of_ne_zero (by assumption)).symm⟩
    rw [hn] at hr
    refine Ends.mono (b:=(3*n+4)+1) ?_ (by omega)
    refine r_rep (n:=n+1) (least:=1) (most:=4294967295) (skip:=16) (kp:={lastmark:= -1,lastindex:= -1,whole:=false,marks:=#[]}) (by decide) rfl rfl rfl rfl (by omega) hr (by omega) (by omega) rfl (by simp) fun sn=>?_
    rw [show (0+(n+1))=n+1 by omega]
    exact full_back n (by omega) (by omega)
theorem junk_hit {t:Array Nat} (hl:3≤t.size) (h0:t.getD 0 0=59) (h1:t.getD 1 0=32) (h2:t.getD 2 0=107):Ends (Hit 0 2 #[] (-1) (-1)) 20 (forSearch cJunk t 0 0 t.size false):=by
  generalize t.size=lim at*
  refine search_of (ls:=lim) (by omega) (by show 0≤lim - 0;omega) rfl fun sn=>?_
  refine r_from rfl (by omega) ?_
  refine Ends.mono (b:=6) ?_ (by omega)
  refine r_at (by decide) rfl rfl rfl fun sn=>?_
  refine r_rep (n:=2) (least:=0) (most:=4294967295) (skip:=13) (kp:={lastmark:= -1,lastindex:= -1,whole:=false,marks:=#[]}) (by decide) rfl rfl rfl rfl (by omega) ?_ (by omega) (by omega) rfl (by simp) fun sn=>?_
  · show RunIs cJunk t 11 (min 4294967295 (lim - 0)) 0 2
    rw [show min 4294967295 (lim - 0)=(min 4294967295 (lim - 0) - 3)+1+1+1 from (Nat.sub_add_cancel (m:=3) (Nat.le_min.mpr ⟨by decide,by omega⟩)).symm]
    refine .more (fun sn=>?_) (.more (fun sn=>?_) (.stop fun sn=>?_))
    · rw [h0];exact of_okv (by kernel_rfl)
    · rw [h1];exact of_okv (by kernel_rfl)
    · rw [h2];exact of_okv (by kernel_rfl)
  refine r_succ (by decide) rfl (by intro _ h;cases h) (by intro _ h;cases h) fun sn=>?_
  exact Ends.mono (r_hit (by rfl)) (by simp)
theorem junk_miss {t:Array Nat} (hl:3≤t.size):Ends Miss (2*t.size+10) (forSearch cJunk t 0 2 t.size false):=by
  generalize t.size=lim at*
  refine search_of (ls:=lim) (by omega) (by show 0≤lim - 2;omega) rfl fun sn=>?_
  refine r_from rfl (by omega) ?_
  refine Ends.mono (b:=(2*(lim - 2)+2)+1) ?_ (by omega)
  refine r_at_no (by decide) rfl rfl (by omega) fun sn=>?_
  exact miss_tail rfl (by decide) rfl rfl (lim - 2) 2 rfl (by simp)
theorem tok_m7:Ends (Hit 0 2 #[some 1,some 2] 1 1) 20 (forSearch cTok #[32,109,61,55] 1 0 4 false):=
  ⟨12,by decide,by kernel_rfl,⟨by kernel_rfl,by kernel_rfl,by kernel_rfl,by kernel_rfl,by kernel_rfl,by kernel_rfl⟩⟩
theorem quo_7:Ends Miss 20 (forSearch cQuo #[61,55] 1 0 2 false):=Ends.mono (search_short (.inr (by decide))) (by omega)
theorem val_7:Ends (Hit 0 2 #[some 1,some 2] 1 1) 20 (forSearch cVal #[61,55] 1 0 2 false):=
  ⟨14,by decide,by kernel_rfl,⟨by kernel_rfl,by kernel_rfl,by kernel_rfl,by kernel_rfl,by kernel_rfl,by kernel_rfl⟩⟩
theorem full_7:Ends (Hit 0 1 #[] (-1) (-1)) 20 (forMatch cFull #[55] 0 0 1 true false):=
  ⟨5,by decide,by kernel_rfl,⟨by kernel_rfl,by kernel_rfl,by kernel_rfl,by kernel_rfl,by kernel_rfl,by kernel_rfl⟩⟩
theorem uns_7:Ends Miss 20 (forSearch cUns #[55] 0 0 1 false):=⟨3,by decide,by kernel_rfl,by unfold Miss;kernel_rfl⟩
theorem uns_xy:Ends Miss 20 (forSearch cUns #[120,45,121] 0 0 3 false):=⟨3,by decide,by kernel_rfl,by unfold Miss;kernel_rfl⟩
end Mine.Re
end
section
open PySem
namespace Mine
noncomputable abbrev tx (l:List Nat):Str:=⟨l.toArray⟩
theorem tx_len (l:List Nat):(tx l).length=l.length:=by simp [Str.length]
theorem tx_append (a b:List Nat):tx a++tx b=tx (a++b):=by
  show Str.append _ _=_
  simp [tx,Str.append]
theorem slice_nat (l:List Nat) {a b:Nat} (hab:a≤b) (hb:b≤l.length):Txt.slice (tx l) (some (a:Int)) (some (b:Int))=tx ((l.drop a).take (b - a)):=
  StrLaws.sliceText_nat (tx l) hab (by rw [tx_len];exact hb)
theorem slice_neg1 (l:List Nat) (c:Nat):Txt.slice (tx (l++[c])) none (some (-1))=tx l:=by
  have h:=StrLaws.sliceText_to_neg (x:=tx (l++[c])) (j:= -1) (by omega) (by rw [tx_len];simp;omega)
  have e:Txt.slice (tx (l++[c])) none (some (-1))=StrLaws.sliceText (tx (l++[c])) none (some (-1)):=rfl
  rw [e,h,tx_len]
  have e2:(-1+((l++[c]).length:Int) - 0).toNat=l.length:=by simp;omega
  rw [e2]
  simp [tx]
theorem slice_one {l:List Nat} {k c:Nat} (hk:l[k]?=some c):Txt.slice (Txt.slice (tx l) (some (k:Int)) (some ((k:Int)+1))++Str.ofString " ") none (some (-1))=tx [c]:=by
  obtain ⟨hl,he⟩:=List.getElem?_eq_some_iff.mp hk
  have e1:((k:Int)+1)=((k+1:Nat):Int):=rfl
  rw [e1,slice_nat l (Nat.le_succ k) hl]
  have e2:(l.drop k).take (k+1 - k)=[c]:=by
    rw [show k+1 - k=1 by omega,List.take_one,List.head?_drop,hk];rfl
  have e3:(Str.ofString " ")=tx [32]:=by decide
  rw [e2,e3,tx_append]
  exact slice_neg1 [c] 32
end Mine
end
section
open PySem PySem.W PyProof.Rows PySem.Calls
namespace Mine
noncomputable def fnBody:Stmt→List Stmt
  | .FunctionDef _ _ b _ _ _ _ _ _ _=>b
  | _=>[]
noncomputable def fnScope:Stmt→Scope
  | .FunctionDef _ _ _ _ _ _ sc _ _ _=>sc
  | _=>default
noncomputable def whBody:Stmt→List Stmt
  | .While _ b _ _=>b
  | .For _ _ b _ _=>b
  | _=>[]
noncomputable def rtB:List Stmt:=whBody (stAt (fnBody (mK 33 6)) 2)
noncomputable abbrev sv (n:String) (t:Nat):Value:= .str (.ofString n) t
noncomputable abbrev lexEs (P:Params) (io pb fs:Addr) (st:Value) (tok:Str) (tt:Nat) (ln:Int) (lt:Nat) (wsp:Value) (cm:Value) (t:Fin 19→Nat):List DictEntry:=
  [enK P "instream" (t 0) (.ref io),enK P "infile" (t 1) .none,enK P "posix" (t 2) (.bool true),enK P "eof" (t 3) .none,
   enK P "commenters" (t 4) cm]
end Mine
end
section
open PySem PySem.W PySem.W.X PyProof.Rows PySem.Calls
namespace Mine
noncomputable abbrev ar (dp un:Nat) (gd:Option (List Code)) (outer:List Env):Around:={handled:=none,depth:=dp,frames:=some outer,guards:=gd,units:=un}
noncomputable abbrev Kept (h h':Heap):Prop:=∀b o,h.get? b=some o→h'.get? b=some o
noncomputable def AllNe (d:Nat):List (Addr × Obj)→Prop
  | []=>True
  | p::r=>@Ne Nat p.1 d∧AllNe d r
theorem allNe_of {d:Addr} {l:List (Addr × Obj)} (h:∀p∈l,p.1≠d):AllNe d l:=by
  induction l with
  | nil=>exact trivial
  | cons p r ih=>exact ⟨h p (.head _),ih fun q hq=>h q (.tail _ hq)⟩
theorem allNe_mem {d a:Addr} {o:Obj} {l:List (Addr × Obj)} (h:AllNe d l) (m:(a,o)∈l):@Ne Nat a d:=by
  induction l with
  | nil=>exact nomatch m
  | cons p r ih=>
    rcases List.mem_cons.mp m with e|m
    · have:=h.1;rw [←e] at this;exact this
    · exact ih h.2 m
theorem le2 {d:Nat} (h:d≤2):d=0∨d=1∨d=2:=(by decide:∀d,d<3→d=0∨d=1∨d=2) d (Nat.lt_succ_of_le h)
theorem lt4 {d:Nat} (h:d<4):d=0∨d=1∨d=2∨d=3:=(by decide:∀d,d<4→d=0∨d=1∨d=2∨d=3) d h
theorem len_s {α:Type} {n:Nat} {l:List α} (h:l.length=n+1):∃a r,l=a::r∧r.length=n:=by
  cases l with
  | nil=>exact nomatch h
  | cons a r=>exact ⟨a,r,rfl,Nat.succ.inj h⟩
theorem len3 {α:Type} {l:List α} (h:l.length=3):∃a b c,l=[a,b,c]:=by
  obtain ⟨a,r,rfl,h1⟩:=len_s h
  obtain ⟨b,r,rfl,h2⟩:=len_s h1
  obtain ⟨c,r,rfl,h3⟩:=len_s h2
  exact ⟨a,b,c,by rw [List.length_eq_zero_iff.mp h3]⟩
theorem len4 {α:Type} {l:List α} (h:l.length=4):∃a b c d,l=[a,b,c,d]:=by
  obtain ⟨a,r,rfl,h1⟩:=len_s h
  obtain ⟨b,c,d,rfl⟩:=len3 h1
  exact ⟨a,b,c,d,rfl⟩
theorem lt_ne {d a:Addr} {o:Obj} {l:List (Addr × Obj)} (h:∀p∈l,p.1<d) (m:(a,o)∈l):@Ne Nat d a:=Nat.ne_of_gt (h _ m)
theorem execs_g {M:Model} {A:Around} {st:Stmt} {rest:List Stmt} {env:Env} {Q:Flow→Shared→Prop} {E:Value→Shared→Prop} {h:Heap} {g:Array GenState} {d:Drawn} {tk:Nat} {os:OsState}
    (H:∀tk',wpAny M A (exec st env) (fun f s'=>match f with| .next=>wpAny M A (execs rest env) Q E s'|f=>Q f s') E ⟨h,g,d,tk',os⟩):wpAny M A (execs (st::rest) env) Q E ⟨h,g,d,tk,os⟩:=wpAny_execs_cons (H tk)
section
variable {M:Model} {A:Around} {E:Value→Shared→Prop} {s:Shared}
theorem is_call {f:Value} {p:List Value} {k:List (Str × Value)} {Q:Value→Shared→Prop} (h:wpAny M A (PySem.call f p k) Q E s):wpAny M A (PySem.call f p k) Q E s:=h
theorem is_cmp {o:CmpOp} {a b:Value} {Q:Value→Shared→Prop} (h:wpAny M A (compareOp o a b) Q E s):wpAny M A (compareOp o a b) Q E s:=h
theorem is_tr {a:Value} {Q:Bool→Shared→Prop} (h:wpAny M A (PySem.truthy a) Q E s):wpAny M A (PySem.truthy a) Q E s:=h
theorem is_gm {a:Value} {n:Str} {d:Sem Bool} {Q:Value × List Value→Shared→Prop} (h:wpAny M A (getMethod a n d) Q E s):wpAny M A (getMethod a n d) Q E s:=h
theorem is_bin {o:Operator} {a b:Value} {Q:Value→Shared→Prop} (h:wpAny M A (binaryOp o a b) Q E s):wpAny M A (binaryOp o a b) Q E s:=h
theorem is_exec {t:Stmt} {e:Env} {Q:Flow→Shared→Prop} (h:wpAny M A (exec t e) Q E s):wpAny M A (exec t e) Q E s:=h
end
theorem weaken {M:Model} {α:Type} {A A':Around} {t:Sem α} {Q:α→Shared→Prop} {E:Value→Shared→Prop} {s:Shared} (hh:A.handled=A'.handled) (hd:A.depth≤A'.depth) (hf:A'.frames=A.frames) (hg:A'.guards=A.guards) (hu:A.units≤A'.units)
    (h:wpAny M A' t Q E s):wpAny M A t Q E s:=fun Γ p hΓ=>
  h Γ p ⟨hΓ.1.trans hh,Nat.le_trans hΓ.2.1 hd,fun l hl=>hΓ.2.2.1 l (hf▸hl),fun g hg'=>hΓ.2.2.2.1 g (hg▸hg'),Nat.le_trans hΓ.2.2.2.2 hu⟩
section
variable {prog:Program} {w:World} {A:Around} {K:Frag} {p:Program} {loose:List Str} {mean:ExcName→Option Value} {pv:Program} {mg mb:Str→Option Value} {s:Shared} {base:Heap} {outer:List Env} {chg:List (Addr × Obj)} {R:Result→Shared→Prop}
theorem own_enter {name qual:Str} {params:Arguments} {body:List Stmt} {scope:Scope} {dV kV doc pm cdv ct oc:Value} {an od:Option Addr} {osl:Array (Option Value)} {f:Addr} {args:Args} {binds:List (Str × Value)}
    (Bw:Below A base outer (hideAll s.heap (chg.map (·.1)))) (hc:∀q∈chg,s.heap.get? q.1=some q.2) (X:K.In (hideAll s.heap (chg.map (·.1)))) (T:Top p loose mean mg mb (hideAll s.heap (chg.map (·.1))))
    (ho:K.lookup f=some ⟨oc,od, .func (fnOf name qual params body scope dV kV doc pm an cdv ct),osl⟩) (hcd:codeIn K cdv qual=true) (hroom:A.depth<recursionLimit)
    (hbind:BindsTo s (fnOf name qual params body scope dV kV doc pm an cdv ct) args binds) (hloc:∀y∈binds,scope.names.lookup y.1=some .local)
    (h:∀g L' h₁,g=hideAll s.heap (chg.map (·.1))→L'=s.heap.objs.size→Fr g L' h₁ (fun y=>binds.reverse.lookup y)→News g L' h₁ chg→Below A base outer g→K.In g→Top p loose mean mg mb g→(∀q∈chg,q.1<L')→
      wpAny (model prog w) (A.deeper (envOf qual scope L' f cdv)) (execs body (envOf qual scope L' f cdv))
        (fun fl s'=>R (.ok (.ret (match fl with| .ret v=>v|_=> .none))) s')
        (fun e s'=>wpAny (model prog w) (A.deeper (envOf qual scope L' f cdv)) (leaving (envOf qual scope L' f cdv) e) (fun _ s''=>R (.error e) s'') (fun e' s''=>R (.error e') s'') s')
        {s with heap:=h₁,toks:=s.toks+binds.length})
    (hco:scope.isCoroutine=false) (hgen:scope.isGenerator=false) (hk:scope.kind= .function)
    (hcell:∀x∈scope.names,x.2≠ .cell):codeAny (model prog w) A (.call (.ref f) args) R s:=by
  have up:Kept (hideAll s.heap (chg.map (·.1))) s.heap:=fun b o e=>of_hideAll _ e
  refine codeAny_call_def (fd:=fnOf name qual params body scope dV kV doc pm an cdv ct) (body:=body) (binds:=binds) hroom (up _ _ (X _ _ ho)) rfl (T.nolimit.keeps up) (codeRec_of (X.keeps up) hcd) rfl hbind hcell hloc (fun h₁ hns hk₁=>?_) hco hgen hk
  exact wpAny_mono (h _ s.heap.objs.size h₁ rfl rfl ⟨hns,fun b o e=>hk₁ b o (of_hideAll _ e),Nat.le_of_eq (hideAll_size _ _)⟩
    (fun q hq=>⟨hk₁ _ _ (hc q hq),Nat.ne_of_lt (Heap.lt_size (hc q hq)),hideAll_none _ (List.mem_map_of_mem hq)⟩) Bw X T (fun q hq=>Heap.lt_size (hc q hq))) (fun _ _ x=>x) fun _ _ y=>y
end
noncomputable def Pure (w:World) (f:Addr) (args:List Value) (dp un:Nat) (P:Value→Heap→Heap→Prop):Prop:=
  ∀{gd:Option (List Code)} {outer:List Env} {base:Heap} {mean:ExcName→Option Value} {pv:Program} {mg mb:Str→Option Value} {loose:List Str} {s:Shared} {Q E:Value→Shared→Prop},
    Below (ar dp un gd outer) base outer s.heap→(K w.params).In s.heap→Top pv loose mean mg mb s.heap→
    (∀v h' tk',Kept s.heap h'→P v s.heap h'→Q v {s with heap:=h',toks:=tk'})→
    wpAny (model pw_il0090_01 w) (ar dp un gd outer) (call (.ref f) args) Q E s
theorem use_pure {w:World} {f:Addr} {args:List Value} {dp un:Nat} {P:Value→Heap→Heap→Prop} {A A₀:Around} {base h₀:Heap} {env:Env} {outer:List Env} {L:Addr} {pv:Program} {m mg mb:Str→Option Value} {mean:ExcName→Option Value} {loose:List Str} {news:List (Addr × Obj)} {s:Shared} {Q E:Value→Shared→Prop}
    (C:Pure w f args dp un P) (B:Below A₀ base outer h₀) (F:Fr h₀ L s.heap m) (N:News h₀ L s.heap news) (X:(K w.params).In h₀) (T:Top pv loose mean mg mb h₀)
    (hA:A.frames=some (env::outer)) (hf:env.frame=some L) (hke:env.scope.kind= .function) (hh:A.handled=none) (hd:Nat.ble A.depth dp=true) (hu:Nat.ble A.units un=true)
    (ret:∀v h' tk',Fr h₀ L h' m→News h₀ L h' news→Kept s.heap h'→P v s.heap h'→Q v {s with heap:=h',toks:=tk'}):
    wpAny (model pw_il0090_01 w) A (call (.ref f) args) Q E s:=by
  obtain ⟨_,BG,_,_⟩:=groundX (R:=fun _ _=>True) B F (News.nil) hA hf hke
  refine weaken (A':=ar dp un A.guards (env::outer)) hh (Nat.le_of_ble_eq_true hd) hA.symm rfl (Nat.le_of_ble_eq_true hu) ?_
  refine C ⟨rfl,BG.stays,BG.frames⟩ (X.keeps F.keep) (T.keeps F.keep) fun v h' tk' k hp=>ret v h' tk' (F.keeps k) (N.keepsAll k) k hp
theorem mem_kept {h h':Heap} {news:List (Addr × Obj)} (D:Mem h h' [] news):Kept h h':=fun b o e=>D.keep b o e (by simp [away])
end Mine
end
section
open PySem PySem.W PyProof.Rows PySem.Calls
namespace Mine
open Mine.Re
structure PatAt (h:Heap) (p:Addr) (C:Array Nat) (g:Nat):Prop where
  ob:∃o fs cd oc xs n,h.get? p=some o∧o.cls= .type "re.Pattern"∧o.dict=none∧o.data= .fields fs∧fs.getD 5 .none= .ref cd∧Builtin.Re.reRawNat (fs.getD 2 .none)=g∧Builtin.Re.reRawNat (fs.getD 6 .none)=0∧
    h.get? cd=some oc∧oc.data= .seq xs n∧(xs.map Builtin.Re.reRawOf).map (·.toNat)=C
theorem PatAt.keeps {h h':Heap} {p:Addr} {C:Array Nat} {g:Nat} (P:PatAt h p C g) (k:Kept h h'):PatAt h' p C g:=by
  obtain ⟨o,fs,cd,oc,xs,n,e1,e2,e3,e4,e5,e6,e7,e8,e9,e10⟩:=P.ob
  exact ⟨o,fs,cd,oc,xs,n,k _ _ e1,e2,e3,e4,e5,e6,e7,k _ _ e8,e9,e10⟩
section
variable {M:Model} {A:Around} {E:Value→Shared→Prop} {s:Shared}
theorem wp_loop {α:Type} {f:α→PUnit→Sem (ForInStep PUnit)} (hf:∀i (s:Shared) (Q:ForInStep PUnit→Shared→Prop),Q (.yield ⟨⟩) s→wpAny M A (f i ⟨⟩) Q E s):∀(l:List α) {s:Shared} {Q:PUnit→Shared→Prop},Q ⟨⟩ s→wpAny M A (forIn l ⟨⟩ f) Q E s:=by
  intro u0
  induction u0 with
  | nil=>
    intro s Q h
    rw [List.forIn_nil];exact wpAny_pure h
  | cons a l ih=>
    intro s Q h
    rw [List.forIn_cons]
    exact wpAny_bind (hf a s _ (ih h))
theorem wp_drive {P:Sre.M→Prop} {Q:Sre.M→Shared→Prop} (hq:∀m,m.outcome.isSome=true→P m→Q m s):∀(n:Nat) (m:Sre.M) {b:Nat},Ends P b m→b+1≤4*n→wpAny M A (Builtin.Re.reDrive n m) Q E s:=by
  intro u0
  induction u0 with
  | zero=>
    intro m b _ hb
    omega
  | succ n ih=>
    intro m b h hb
    unfold Builtin.Re.reDrive
    show wpAny M A (if (m.runFor 4).outcome.isSome=true then pure (m.runFor 4) else (rule "sre.turn">>=fun _=>Builtin.Re.reDrive n (m.runFor 4))) Q E s
    obtain ⟨k,hk,ho,hp⟩:=h
    by_cases hd:(m.runFor 4).outcome.isSome=true
    · rw [if_pos hd]
      refine wpAny_pure (hq _ hd ?_)
      rw [runFor_it] at hd ⊢
      have e:it 4 m=it k m:=by
        rcases Nat.le_total k 4 with h4|h4
        · rw [show (4:Nat)=k+(4 - k) from (Nat.add_sub_of_le (by assumption)).symm,it_add,it_done ho]
        · rw [show k=4+(k - 4) from (Nat.add_sub_of_le (by omega)).symm,it_add,it_done hd]
      rw [e];exact hp
    · rw [if_neg hd]
      rw [runFor_it] at hd ⊢
      have h4:4≤k:=by
        rcases Nat.lt_or_ge k 4 with h4|h4
        · exfalso;apply hd
          rw [show (4:Nat)=k+(4 - k) from (Nat.add_sub_of_le (by omega)).symm,it_add,it_done ho];exact ho
        · exact h4
      refine wpAny_bind (wpAny_rule ?_)
      refine ih (it 4 m) (b:=b - 4) ⟨k - 4,Nat.sub_le_sub_right (by assumption) 4,?_,?_⟩ (by omega)
      · rw [←it_add,show 4+(k - 4)=k from Nat.add_sub_of_le (by omega)];exact ho
      · rw [←it_add,show 4+(k - 4)=k from Nat.add_sub_of_le (by omega)];exact hp
theorem wp_end_hit {S H b:Nat} {mk:Array (Option Nat)} {lm li:Int} {m:Sre.M} {Q:Option Sre.M→Shared→Prop} (h:Ends (Hit S H mk lm li) b m) (hb:b≤1000000)
    (hq:∀m',Hit S H mk lm li m'→Q (some m') s):wpAny M A (Builtin.Re.reRunToEnd m) Q E s:=by
  unfold Builtin.Re.reRunToEnd
  refine wpAny_bind (wp_drive (P:=Hit S H mk lm li) (fun m' ho hp=>?_) (2^64) m h (by omega))
  refine wpAny_bind (wp_loop (fun i s Q h=>?_) _ ?_)
  · by_cases hc:m'.seen.has i=true
    · simp only [hc,if_true];exact wpAny_bind (wpAny_rule (wpAny_pure h))
    · simp only [hc];exact wpAny_pure h
  · rw [hp.out];exact wpAny_pure (hq m' hp)
theorem wp_end_miss {b:Nat} {m:Sre.M} {Q:Option Sre.M→Shared→Prop} (h:Ends Miss b m) (hb:b≤1000000)
    (hq:Q none s):wpAny M A (Builtin.Re.reRunToEnd m) Q E s:=by
  unfold Builtin.Re.reRunToEnd
  refine wpAny_bind (wp_drive (P:=Miss) (fun m' ho hp=>?_) (2^64) m h (by omega))
  refine wpAny_bind (wp_loop (fun i s Q h=>?_) _ ?_)
  · by_cases hc:m'.seen.has i=true
    · simp only [hc,if_true];exact wpAny_bind (wpAny_rule (wpAny_pure h))
    · simp only [hc];exact wpAny_pure h
  · rw [show m'.outcome=some .failed from hp];exact wpAny_pure hq
noncomputable def spansOf (g:Nat) (mk:Array (Option Nat)) (lm:Int):List Value:=(List.range g).flatMap fun g=>
    match if ((2*g+1:Nat):Int)≤lm then (mk.getD (2*g) none,mk.getD (2*g+1) none) else (none,none) with
    | (some b,some e)=>[rawInt b,rawInt e]
    | _=>[rawInt (-1),rawInt (-1)]
noncomputable def wrongSpan (g:Nat) (mk:Array (Option Nat)) (lm:Int):Bool:=(List.range g).any (fun g=>match mk.getD (2*g) none,mk.getD (2*g+1) none with|some b,some e=>((2*g+1:Nat):Int)≤lm && e<b|_,_=>false)
noncomputable abbrev tupO (l:List Value):Obj:={cls:= .type "tuple",data:= .seq l.toArray}
noncomputable abbrev matO (x p:Value) (a b:Nat) (li:Int) (t:Addr):Obj:={cls:= .type "re.Match",data:= .fields #[x,p,rawInt a,rawInt b,rawInt li, .ref t]}
theorem wp_newMatch {S H a b g:Nat} {mk:Array (Option Nat)} {lm li:Int} {m:Sre.M} {x p:Value} {Q:Value→Shared→Prop} (hm:Hit S H mk lm li m) (hw:wrongSpan g mk lm=false) {sp:List Value} (hsp:spansOf g mk lm=sp) (hz:sp.length≤10)
    (hq:∀(y t:Nat) (h':Heap),Kept s.heap h'→h'.get? y=some (matO x p a b li t)→h'.get? t=some (tupO (rawInt S::rawInt H::sp))→s.heap.get? y=none→s.heap.get? t=none→Q (.ref y) {s with heap:=h'}):
    wpAny M A (Builtin.Re.reNewMatch p x g a b m) Q E s:=by
  unfold Builtin.Re.reNewMatch
  obtain ⟨_,e1,e2,e3,e4,e5⟩:=hm
  rw [e1,e2,e3,e4,e5]
  dsimp only
  show wpAny M A (if wrongSpan g mk lm=true then _ else (newTuple (rawInt S::rawInt H::spansOf g mk lm)>>=fun t=>newFields "re.Match" [x,p,rawInt a,rawInt b,rawInt li,t])) Q E s
  rw [hw,if_neg Bool.false_ne_true,hsp]
  refine wpAny_bind (wpAny_newTuple ?_ ?_)
  · unfold newFields
    refine wpAny_newObj_type ?_ (by first|trivial|size_fits)
    refine hq _ _ _ (fun b o e=>Heap.get?_push_of_some _ (Heap.get?_push_of_some _ e)) (Heap.get?_push_size _ rfl) (Heap.get?_push_of_some _ (Heap.get?_push_size _ rfl)) ?_ ?_
    · cases z:s.heap.get? (s.heap.push (tupO (rawInt S::rawInt H::sp))).objs.size with
      | none=>rfl
      | some o=>have:=Heap.lt_size z;rw [Heap.size_push] at this;exact absurd this (Nat.not_lt.mpr (Nat.le_succ _))
    · cases z:s.heap.get? s.heap.objs.size with
      | none=>rfl
      | some o=>exact absurd (Heap.lt_size z) (Nat.lt_irrefl _)
  · have:sizeLine=16777216:=rfl
    simp only [List.length_cons];omega
theorem wp_textOf {x:Str} {t:Tok} {Q:Array Nat × Nat→Shared→Prop} (h:Q (x.cps,0) s):wpAny M A (Builtin.Re.reTextOf (.str x t)) Q E s:=by
  unfold Builtin.Re.reTextOf
  exact wpAny_bind (wpAny_pure (wpAny_pure h))
theorem wp_rawItems {cd:Addr} {oc:Obj} {xs:Array Value} {n:Nat} {Q:Array Int→Shared→Prop} (ho:s.heap.get? cd=some oc) (hd:oc.data= .seq xs n) (h:Q (xs.map Builtin.Re.reRawOf) s):wpAny M A (Builtin.Re.reRawItems (.ref cd)) Q E s:=by
  unfold Builtin.Re.reRawItems seqItems?
  refine wpAny_bind (wpAny_bind (wpAny_load ho ?_))
  rw [hd]
  exact wpAny_pure (wpAny_pure h)
theorem wp_target {id f:String} {p:Addr} {l:List Nat} {tk:Tok} {C:Array Nat} {g:Nat} {Q:Builtin.Re.ReTarget→Shared→Prop} (P:PatAt s.heap p C g) (hl:l.length≤1000000)
    (h:Q ⟨.ref p, .str (tx l) tk,C,l.toArray,0,g,0,l.toArray.size⟩ s):wpAny M A (Builtin.Re.reTarget id f ⟨[.ref p, .str (tx l) tk],[]⟩) Q E s:=by
  obtain ⟨o,fs,cd,oc,xs,n,e1,e2,e3,e4,e5,e6,e7,e8,e9,e10⟩:=P.ob
  unfold Builtin.Re.reTarget
  have en:Builtin.Re.reNamed id f ["string","pos","endpos"] 1 [.str (tx l) tk] []=pure [some (.str (tx l) tk),none,none]:=rfl
  dsimp only
  rw [en]
  refine wpAny_bind (wpAny_pure ?_)
  refine wpAny_bind (wpAny_pure (wpAny_bind (wpAny_pure ?_)))
  refine wpAny_bind (wpAny_fieldsOf e1 e4 ?_)
  refine wpAny_bind (wp_textOf ?_)
  rw [e5,e6,e7]
  refine wpAny_bind (wpAny_pure ?_)
  refine wpAny_bind (wp_rawItems e8 e9 (wpAny_pure ?_))
  rw [e10]
  have c1:min (0:Int).toNat (tx l).cps.size=0:=by simp
  have c2:min (2^63 - 1:Int).toNat (tx l).cps.size=l.toArray.size:=by
    show min (2^63 - 1:Int).toNat l.toArray.size=l.toArray.size
    simp;omega
  rw [c1,c2]
  exact h
end
end Mine
end
section
open PySem PySem.W PyProof.Rows PySem.Calls
namespace Mine
open Mine.Re
theorem re_facts:PlainAttrs "re.Pattern"∧PlainAttrs "re.Match"∧Slot "re.Pattern" "search" "re.Pattern.search"∧typeOf (.builtin "re.Pattern.search")=pure (.type "method_descriptor")∧entryFor table "re.Pattern.search"=some Builtin.«re.Pattern.search»∧(∀(a b:Value),argsOk "re.Pattern.search" ⟨[a,b],[]⟩)∧Slot "re.Pattern" "fullmatch" "re.Pattern.fullmatch"∧typeOf (.builtin "re.Pattern.fullmatch")=pure (.type "method_descriptor")∧entryFor table "re.Pattern.fullmatch"=some Builtin.«re.Pattern.fullmatch»∧(∀(a b:Value),argsOk "re.Pattern.fullmatch" ⟨[a,b],[]⟩)∧Slot "re.Pattern" "sub" "re.Pattern.sub"∧typeOf (.builtin "re.Pattern.sub")=pure (.type "method_descriptor")∧entryFor table "re.Pattern.sub"=some Builtin.«re.Pattern.sub»∧(∀(a b c:Value),argsOk "re.Pattern.sub" ⟨[a,b,c],[]⟩)∧Slot "re.Pattern" "subn" "re.Pattern.subn"∧typeOf (.builtin "re.Pattern.subn")=pure (.type "method_descriptor")∧entryFor table "re.Pattern.subn"=some Builtin.«re.Pattern.subn»∧(∀(a b c:Value),argsOk "re.Pattern.subn" ⟨[a,b,c],[]⟩)∧Slot "re.Match" "group" "re.Match.group"∧typeOf (.builtin "re.Match.group")=pure (.type "method_descriptor")∧entryFor table "re.Match.group"=some Builtin.«re.Match.group»∧(∀(a b:Value),argsOk "re.Match.group" ⟨[a,b],[]⟩)∧Slot "re.Match" "span" "re.Match.span"∧typeOf (.builtin "re.Match.span")=pure (.type "method_descriptor")∧entryFor table "re.Match.span"=some Builtin.«re.Match.span»∧(∀(a b:Value),argsOk "re.Match.span" ⟨[a,b],[]⟩):=
  ⟨⟨⟨"object.__getattribute__",by rw [typeLookup_type,builtinLookup_eq_fast];kernel_rfl,of_decide_eq_true (by kernel_rfl)⟩,by rw [typeLookup_type,builtinLookup_eq_fast];kernel_rfl⟩,
  ⟨⟨"object.__getattribute__",by rw [typeLookup_type,builtinLookup_eq_fast];kernel_rfl,of_decide_eq_true (by kernel_rfl)⟩,by rw [typeLookup_type,builtinLookup_eq_fast];kernel_rfl⟩,
  .of (owner:="re.Pattern") (n:="search") (by rw [typeLookup_type,builtinLookup_eq_fast];kernel_rfl) (of_decide_eq_true (by kernel_rfl)) (of_decide_eq_true (by kernel_rfl)) (of_decide_eq_true (by kernel_rfl))
    (by exact .inr (of_decide_eq_true (by kernel_rfl))) (by rw [isSubtype_type];kernel_rfl),
  (by show builtinType _=_;rw [builtinType_eq_fast];kernel_rfl),
  entryFor_of_tree (by kernel_rfl),
  fun a b=>by unfold argsOk;kernel_rfl,
  .of (owner:="re.Pattern") (n:="fullmatch") (by rw [typeLookup_type,builtinLookup_eq_fast];kernel_rfl) (of_decide_eq_true (by kernel_rfl)) (of_decide_eq_true (by kernel_rfl)) (of_decide_eq_true (by kernel_rfl))
    (by exact .inr (of_decide_eq_true (by kernel_rfl))) (by rw [isSubtype_type];kernel_rfl),
  (by show builtinType _=_;rw [builtinType_eq_fast];kernel_rfl),
  entryFor_of_tree (by kernel_rfl),
  fun a b=>by unfold argsOk;kernel_rfl,
  .of (owner:="re.Pattern") (n:="sub") (by rw [typeLookup_type,builtinLookup_eq_fast];kernel_rfl) (of_decide_eq_true (by kernel_rfl)) (of_decide_eq_true (by kernel_rfl)) (of_decide_eq_true (by kernel_rfl))
    (by exact .inr (of_decide_eq_true (by kernel_rfl))) (by rw [isSubtype_type];kernel_rfl),
  (by show builtinType _=_;rw [builtinType_eq_fast];kernel_rfl),
  entryFor_of_tree (by kernel_rfl),
  fun a b c=>by unfold argsOk;kernel_rfl,
  .of (owner:="re.Pattern") (n:="subn") (by rw [typeLookup_type,builtinLookup_eq_fast];kernel_rfl) (of_decide_eq_true (by kernel_rfl)) (of_decide_eq_true (by kernel_rfl)) (of_decide_eq_true (by kernel_rfl))
    (by exact .inr (of_decide_eq_true (by kernel_rfl))) (by rw [isSubtype_type];kernel_rfl),
  (by show builtinType _=_;rw [builtinType_eq_fast];kernel_rfl),
  entryFor_of_tree (by kernel_rfl),
  fun a b c=>by unfold argsOk;kernel_rfl,
  .of (owner:="re.Match") (n:="group") (by rw [typeLookup_type,builtinLookup_eq_fast];kernel_rfl) (of_decide_eq_true (by kernel_rfl)) (of_decide_eq_true (by kernel_rfl)) (of_decide_eq_true (by kernel_rfl))
    (by exact .inr (of_decide_eq_true (by kernel_rfl))) (by rw [isSubtype_type];kernel_rfl),
  (by show builtinType _=_;rw [builtinType_eq_fast];kernel_rfl),
  entryFor_of_tree (by kernel_rfl),
  fun a b=>by unfold argsOk;kernel_rfl,
  .of (owner:="re.Match") (n:="span") (by rw [typeLookup_type,builtinLookup_eq_fast];kernel_rfl) (of_decide_eq_true (by kernel_rfl)) (of_decide_eq_true (by kernel_rfl)) (of_decide_eq_true (by kernel_rfl))
    (by exact .inr (of_decide_eq_true (by kernel_rfl))) (by rw [isSubtype_type];kernel_rfl),
  (by show builtinType _=_;rw [builtinType_eq_fast];kernel_rfl),
  entryFor_of_tree (by kernel_rfl),
  fun a b=>by unfold argsOk;kernel_rfl⟩
theorem plain_Pattern:PlainAttrs "re.Pattern":=re_facts.1
theorem plain_Match:PlainAttrs "re.Match":=re_facts.2.1
theorem slot_Pattern_search:Slot "re.Pattern" "search" "re.Pattern.search":=re_facts.2.2.1
theorem type_Pattern_search:typeOf (.builtin "re.Pattern.search")=pure (.type "method_descriptor"):=re_facts.2.2.2.1
theorem entry_Pattern_search:entryFor table "re.Pattern.search"=some Builtin.«re.Pattern.search»:=re_facts.2.2.2.2.1
theorem args_Pattern_search (a b:Value):argsOk "re.Pattern.search" ⟨[a,b],[]⟩:=re_facts.2.2.2.2.2.1 a b
theorem slot_Pattern_fullmatch:Slot "re.Pattern" "fullmatch" "re.Pattern.fullmatch":=re_facts.2.2.2.2.2.2.1
theorem type_Pattern_fullmatch:typeOf (.builtin "re.Pattern.fullmatch")=pure (.type "method_descriptor"):=re_facts.2.2.2.2.2.2.2.1
theorem entry_Pattern_fullmatch:entryFor table "re.Pattern.fullmatch"=some Builtin.«re.Pattern.fullmatch»:=re_facts.2.2.2.2.2.2.2.2.1
theorem args_Pattern_fullmatch (a b:Value):argsOk "re.Pattern.fullmatch" ⟨[a,b],[]⟩:=re_facts.2.2.2.2.2.2.2.2.2.1 a b
theorem slot_Pattern_sub:Slot "re.Pattern" "sub" "re.Pattern.sub":=re_facts.2.2.2.2.2.2.2.2.2.2.1
theorem type_Pattern_sub:typeOf (.builtin "re.Pattern.sub")=pure (.type "method_descriptor"):=re_facts.2.2.2.2.2.2.2.2.2.2.2.1
theorem entry_Pattern_sub:entryFor table "re.Pattern.sub"=some Builtin.«re.Pattern.sub»:=re_facts.2.2.2.2.2.2.2.2.2.2.2.2.1
theorem args_Pattern_sub (a b c:Value):argsOk "re.Pattern.sub" ⟨[a,b,c],[]⟩:=re_facts.2.2.2.2.2.2.2.2.2.2.2.2.2.1 a b c
theorem slot_Pattern_subn:Slot "re.Pattern" "subn" "re.Pattern.subn":=re_facts.2.2.2.2.2.2.2.2.2.2.2.2.2.2.1
theorem type_Pattern_subn:typeOf (.builtin "re.Pattern.subn")=pure (.type "method_descriptor"):=re_facts.2.2.2.2.2.2.2.2.2.2.2.2.2.2.2.1
theorem entry_Pattern_subn:entryFor table "re.Pattern.subn"=some Builtin.«re.Pattern.subn»:=re_facts.2.2.2.2.2.2.2.2.2.2.2.2.2.2.2.2.1
theorem args_Pattern_subn (a b c:Value):argsOk "re.Pattern.subn" ⟨[a,b,c],[]⟩:=re_facts.2.2.2.2.2.2.2.2.2.2.2.2.2.2.2.2.2.1 a b c
theorem slot_Match_group:Slot "re.Match" "group" "re.Match.group":=re_facts.2.2.2.2.2.2.2.2.2.2.2.2.2.2.2.2.2.2.1
theorem type_Match_group:typeOf (.builtin "re.Match.group")=pure (.type "method_descriptor"):=re_facts.2.2.2.2.2.2.2.2.2.2.2.2.2.2.2.2.2.2.2.1
theorem entry_Match_group:entryFor table "re.Match.group"=some Builtin.«re.Match.group»:=re_facts.2.2.2.2.2.2.2.2.2.2.2.2.2.2.2.2.2.2.2.2.1
theorem args_Match_group (a b:Value):argsOk "re.Match.group" ⟨[a,b],[]⟩:=re_facts.2.2.2.2.2.2.2.2.2.2.2.2.2.2.2.2.2.2.2.2.2.1 a b
theorem slot_Match_span:Slot "re.Match" "span" "re.Match.span":=re_facts.2.2.2.2.2.2.2.2.2.2.2.2.2.2.2.2.2.2.2.2.2.2.1
theorem type_Match_span:typeOf (.builtin "re.Match.span")=pure (.type "method_descriptor"):=re_facts.2.2.2.2.2.2.2.2.2.2.2.2.2.2.2.2.2.2.2.2.2.2.2.1
theorem entry_Match_span:entryFor table "re.Match.span"=some Builtin.«re.Match.span»:=re_facts.2.2.2.2.2.2.2.2.2.2.2.2.2.2.2.2.2.2.2.2.2.2.2.2.1
theorem args_Match_span (a b:Value):argsOk "re.Match.span" ⟨[a,b],[]⟩:=re_facts.2.2.2.2.2.2.2.2.2.2.2.2.2.2.2.2.2.2.2.2.2.2.2.2.2 a b
section
variable {prog:Program} {w:World} {A:Around} {E:Value→Shared→Prop} {s:Shared} {p:Addr} {l:List Nat} {tk:Tok} {C:Array Nat} {g b:Nat} {Q:Value→Shared→Prop}
theorem PatAt.type (P:PatAt s.heap p C g):s.TypeIs (.ref p) "re.Pattern":=by
  obtain ⟨o,_,_,_,_,_,e1,e2,_⟩:=P.ob
  exact ⟨o,e1,e2⟩
theorem PatAt.meth (P:PatAt s.heap p C g) {name:Str} {id:String} {pl:Sem Bool} {Q:Value × List Value→Shared→Prop} (slot:Slot "re.Pattern" name id) (hty:typeOf (.builtin id)=pure (.type "method_descriptor"))
    (h:Q (.builtin id,[.ref p]) s):wpAny (model prog w) A (getMethod (.ref p) name pl) Q E s:=
  getMethod_builtin P.type plain_Pattern slot hty (fun a e=>by cases e;obtain ⟨o,_,_,_,_,_,e1,_,e3,_⟩:=P.ob;exact ⟨o,e1,e3⟩) h
theorem search_miss (P:PatAt s.heap p C g) (hl:l.length≤1000000) (h:Ends Miss b (Sre.forSearch C l.toArray g 0 l.toArray.size false)) (hb:b≤1000000) (hq:Q .none s):
    wpAny (model prog w) A (call (.builtin "re.Pattern.search") [.ref p, .str (tx l) tk]) Q E s:=by
  refine wpAny_call_entry slot_Pattern_search P.type entry_Pattern_search ?_ (args_Pattern_search _ _)
  unfold Builtin.«re.Pattern.search»
  refine wpAny_bind (wp_target P hl ?_)
  unfold Builtin.Re.reAnswer
  refine wpAny_bind (wp_end_miss h hb ?_)
  exact wpAny_pure ⟨_,rfl,hq⟩
theorem search_hit {S H:Nat} {mk:Array (Option Nat)} {lm li:Int} {sp:List Value} (P:PatAt s.heap p C g) (hl:l.length≤1000000) (h:Ends (Hit S H mk lm li) b (Sre.forSearch C l.toArray g 0 l.toArray.size false)) (hb:b≤1000000)
    (hw:wrongSpan g mk lm=false) (hsp:spansOf g mk lm=sp) (hz:sp.length≤10)
    (hq:∀(y t:Nat) (h':Heap),Kept s.heap h'→h'.get? y=some (matO (.str (tx l) tk) (.ref p) 0 l.toArray.size li t)→h'.get? t=some (tupO (rawInt S::rawInt H::sp))→s.heap.get? y=none→s.heap.get? t=none→Q (.ref y) {s with heap:=h'}):
    wpAny (model prog w) A (call (.builtin "re.Pattern.search") [.ref p, .str (tx l) tk]) Q E s:=by
  refine wpAny_call_entry slot_Pattern_search P.type entry_Pattern_search ?_ (args_Pattern_search _ _)
  unfold Builtin.«re.Pattern.search»
  refine wpAny_bind (wp_target P hl ?_)
  unfold Builtin.Re.reAnswer
  refine wpAny_bind (wp_end_hit h hb fun m' hm=>?_)
  refine wpAny_bind (wp_newMatch hm hw hsp hz fun y t h' k e1 e2 n1 n2=>?_)
  exact wpAny_pure ⟨_,rfl,hq y t h' k e1 e2 n1 n2⟩
theorem full_miss_call (P:PatAt s.heap p C g) (hl:l.length≤1000000) (h:Ends Miss b (Sre.forMatch C l.toArray g 0 l.toArray.size true false)) (hb:b≤1000000) (hq:Q .none s):
    wpAny (model prog w) A (call (.builtin "re.Pattern.fullmatch") [.ref p, .str (tx l) tk]) Q E s:=by
  refine wpAny_call_entry slot_Pattern_fullmatch P.type entry_Pattern_fullmatch ?_ (args_Pattern_fullmatch _ _)
  unfold Builtin.«re.Pattern.fullmatch»
  refine wpAny_bind (wp_target P hl ?_)
  unfold Builtin.Re.reAnswer
  refine wpAny_bind (wp_end_miss h hb ?_)
  exact wpAny_pure ⟨_,rfl,hq⟩
theorem full_hit_call {S H:Nat} {mk:Array (Option Nat)} {lm li:Int} {sp:List Value} (P:PatAt s.heap p C g) (hl:l.length≤1000000) (h:Ends (Hit S H mk lm li) b (Sre.forMatch C l.toArray g 0 l.toArray.size true false)) (hb:b≤1000000)
    (hw:wrongSpan g mk lm=false) (hsp:spansOf g mk lm=sp) (hz:sp.length≤10)
    (hq:∀(y t:Nat) (h':Heap),Kept s.heap h'→h'.get? y=some (matO (.str (tx l) tk) (.ref p) 0 l.toArray.size li t)→h'.get? t=some (tupO (rawInt S::rawInt H::sp))→s.heap.get? y=none→s.heap.get? t=none→Q (.ref y) {s with heap:=h'}):
    wpAny (model prog w) A (call (.builtin "re.Pattern.fullmatch") [.ref p, .str (tx l) tk]) Q E s:=by
  refine wpAny_call_entry slot_Pattern_fullmatch P.type entry_Pattern_fullmatch ?_ (args_Pattern_fullmatch _ _)
  unfold Builtin.«re.Pattern.fullmatch»
  refine wpAny_bind (wp_target P hl ?_)
  unfold Builtin.Re.reAnswer
  refine wpAny_bind (wp_end_hit h hb fun m' hm=>?_)
  refine wpAny_bind (wp_newMatch hm hw hsp hz fun y t h' k e1 e2 n1 n2=>?_)
  exact wpAny_pure ⟨_,rfl,hq y t h' k e1 e2 n1 n2⟩
end
end Mine
end
section
open PySem PySem.W PyProof.Rows PySem.Calls
namespace Mine
open Mine.Re
noncomputable abbrev SIG:Manifest.Signature:=⟨.keywords,"Pattern.search","search", .self,[⟨"string", .posOrKw,true⟩,⟨"pos", .posOrKw,false⟩,⟨"endpos", .posOrKw,false⟩]⟩
noncomputable abbrev fndO:Obj:=⟨.type "builtin_function_or_method",none, .fields ⟨[.builtin "re.Pattern.search", .ref 105]⟩,⟨[]⟩⟩
section
variable {prog:Program} {w:World} {A:Around} {E:Value→Shared→Prop} {s:Shared} {p:Addr} {l:List Nat} {tk:Tok} {C:Array Nat} {g b:Nat} {Q:Value→Shared→Prop}
theorem bound_check {Q:Unit→Shared→Prop} {E:Value→Shared→Prop} (P:PatAt s.heap p C g) (h:Q () s):wpAny (model prog w) A (checkBoundCall "re.Pattern.search" ⟨[.ref p, .str (tx l) tk],[]⟩) Q E s:=by
  unfold checkBoundCall
  have e1:Manifest.signature? "re.Pattern.search"=some SIG:=by kernel_rfl
  have e2:builtinKind "re.Pattern.search"=some .method:=by kernel_rfl
  rw [e1,e2]
  dsimp only
  refine wpAny_bind (wpAny_isInstance (b:=false) P.type (by rw [isSubtype_type];kernel_rfl) ?_)
  have e3:Manifest.varargsMethods.contains "re.Pattern.search"=false:=by decide+kernel
  obtain ⟨o,fs,cd,oc,xs,n,o1,o2,o3,o4,_⟩:=P.ob
  refine wpAny_bind (m:=isType (.ref p)) (wpAny_bind (wpAny_load o1 ?_))
  rw [o4]
  refine wpAny_pure ?_
  refine wpAny_bind (wpAny_typeOf P.type (wpAny_pure ?_))
  exact h
theorem find_call {f:Addr} (hf:s.heap.get? f=some ⟨.type "builtin_function_or_method",none, .fields ⟨[.builtin "re.Pattern.search", .ref p]⟩,⟨[]⟩⟩) (P:PatAt s.heap p C g)
    (h:∀A',A'.frames=A.frames→wpAny (model prog w) A' (Builtin.«re.Pattern.search» ⟨[.ref p, .str (tx l) tk],[]⟩) (fun fin s'=>∃v,fin= .done (.ret v)∧Q v s') E s):
    wpAny (model prog w) A (call (.ref f) [.str (tx l) tk]) Q E s:=by
  refine wpAny_call (codeAny_of_tree ?_)
  show wpAny _ A.in1 (callAny (.ref f) ⟨[.str (tx l) tk],[]⟩) _ _ s
  unfold callAny
  refine wpAny_bind (wpAny_load hf ?_)
  dsimp only
  show wpAny _ A.in1 (if _ then (do checkBoundCall "re.Pattern.search" ⟨[.ref p, .str (tx l) tk],[]⟩;again (.builtin "re.Pattern.search" ⟨[.ref p, .str (tx l) tk],[]⟩)) else _) _ _ s
  refine wpAny_bind (bound_check P ?_)
  refine wpAny_pure ⟨plainId_quiet slot_Pattern_search.plain _,?_⟩
  refine codeAny_builtin entry_Pattern_search ?_
  refine wpAny_mono (h _ rfl) (fun fin s' h'=>?_) fun _ _ e=>e
  obtain ⟨v,rfl,hv⟩:=h'
  exact hv
end
end Mine
end
section
open PySem PySem.W PyProof.Rows PySem.Calls
namespace Mine
open Mine.Re
theorem plain_loop:plainId "re.Pattern.sub.loop"=true:=by decide+kernel
theorem entry_loop:entryFor table "re.Pattern.sub.loop"=some Builtin.«re.Pattern.sub.loop»:=entryFor_of_tree (by kernel_rfl)
noncomputable abbrev lsO (xs:Array Value) (n:Nat):Obj:={cls:= .type "list",data:= .seq xs n}
inductive SubR (C:Array Nat) (l:List Nat) (f:List Nat→List Nat):Nat→List (List Nat)→Prop
  | done {p b:Nat}:p≤l.length→Ends Miss b (Sre.forSearch C l.toArray 1 p l.toArray.size false)→b≤1000000→SubR C l f p (if p<l.length then [l.drop p] else [])
  | hit {p S H a1 b1 b:Nat} {ps:List (List Nat)}:p≤S→S<H→H≤l.length→a1<b1→b1≤l.length→Ends (Hit S H #[some a1,some b1] 1 1) b (Sre.forSearch C l.toArray 1 p l.toArray.size false)→b≤1000000→SubR C l f H ps→
      SubR C l f p ((if p<S then [(l.drop p).take (S - p)] else [])++f ((l.drop a1).take (b1 - a1))::ps)
theorem cut_eq (l:List Nat) (a b:Nat):(⟨l.toArray.extract a b⟩:Str)=tx ((l.drop a).take (b - a)):=by
  simp [tx]
theorem strs_snoc {vs:List Value} {ys:List Str} {y:Str} {t:Nat} (h:StrsAre vs ys):StrsAre (vs++[.str y t]) (ys++[y]):=by
  induction h with
  | nil=>exact .cons y t .nil
  | cons z u _ ih=>exact .cons z u ih
theorem strs_push {acc:Array Value} {ys:List Str} {y:Str} {t:Nat} (h:StrsAre acc.toList ys):StrsAre (acc.push (.str y t)).toList (ys++[y]):=by
  rw [Array.toList_push];exact strs_snoc h
section
variable {prog:Program} {w:World} {A:Around} {E:Value→Shared→Prop} {s:Shared} {p D:Addr} {l:List Nat} {tk:Nat} {C:Array Nat} {repl:Value}
theorem wp_whole {Q:Builtin.Re.ReTarget→Shared→Prop} {M:Model} {g:Nat} (P:PatAt s.heap p C g) (h:Q ⟨.ref p, .str (tx l) tk,C,l.toArray,0,g,0,l.toArray.size⟩ s):wpAny M A (Builtin.Re.reWholeTarget (.ref p) (.str (tx l) tk)) Q E s:=by
  obtain ⟨o,fs,cd,oc,xs,n,e1,e2,e3,e4,e5,e6,e7,e8,e9,e10⟩:=P.ob
  unfold Builtin.Re.reWholeTarget
  refine wpAny_bind (wpAny_fieldsOf e1 e4 ?_)
  refine wpAny_bind (wp_textOf ?_)
  rw [e5,e6,e7]
  dsimp only
  refine wpAny_bind (wpAny_pure ?_)
  refine wpAny_bind (wp_rawItems e8 e9 (wpAny_pure ?_))
  rw [e10]
  exact h
noncomputable def LamOk (prog:Program) (w:World) (A:Around) (repl:Value) (h₀:Heap) (D p:Addr) (l:List Nat) (tk:Nat) (f:List Nat→List Nat):Prop:=
  ∀(s':Shared) (E:Value→Shared→Prop) (y tp S H a1 b1:Nat),(∀b o,b≠D→h₀.get? b=some o→s'.heap.get? b=some o)→s'.heap.get? y=some (matO (.str (tx l) tk) (.ref p) 0 l.toArray.size 1 tp)→
    s'.heap.get? tp=some (tupO [rawInt S,rawInt H,rawInt a1,rawInt b1])→a1<b1→b1≤l.length→
    wpAny (model prog w) A (call repl [.ref y]) (fun v s₂=>(∃t,v= .str (tx (f ((l.drop a1).take (b1 - a1)))) t)∧Keeps s' s₂) E s'
theorem push_step {M:Model} {acc:Array Value} {c:Nat} {v:Value} {Q:Unit→Shared→Prop} (hD:s.heap.get? D=some (lsO acc c)) (hz:acc.size≤1000000)
    (h:∀h' c',h'.get? D=some (lsO (acc.push v) c')→(∀b o,b≠D→s.heap.get? b=some o→h'.get? b=some o)→Q () {s with heap:=h'}):wpAny M A (updateSeq D (·.push v)) Q E s:=by
  have hs:sizeLine=16777216:=rfl
  refine wpAny_updateSeq hD rfl (h _ _ (Heap.get?_update_self _ hD rfl) fun b o hb e=>(Heap.get?_update_other _ _ (Ne.symm hb)).trans e) (by omega) (by simp only [Array.size_push];omega)
noncomputable abbrev bq (prog:Program) (w:World) (A:Around) (R:Result→Shared→Prop):Fin→Shared→Prop:=fun fin s'=>match fin with| .done f=>R (.ok f) s'| .again c'=>c'.quiet=true∧codeAny (model prog w) A c' R s'
noncomputable def tailT (t:Array Nat) (D:Addr) (fin:Value→Sem PySem.Fin):Sem PySem.Fin:=Builtin.Re.reSlice t 0 0 0>>=fun joiner=>seqItems? (.ref D)>>=fun x=>
  if (x.getD #[]).isEmpty=true then (pure joiner>>=fin) else (call (.builtin "str.join") [joiner, .ref D]>>=fin)
theorem sub_tailG {A':Around} {E:Value→Shared→Prop} {t:Array Nat} {acc:Array Value} {ys:List Str} {c:Nat} {Q:PySem.Fin→Shared→Prop} {fin:Value→Sem PySem.Fin} (hD:s.heap.get? D=some (lsO acc c)) (hy:StrsAre acc.toList ys) (hz:acc.size≤900010) (hz2:(ys.map (·.length)).sum≤16000000)
    (h:∀t k,wpAny (model prog w) A' (fin (.str (Txt.join (tx []) ys) t)) Q E {s with toks:=k}):
    wpAny (model prog w) A' (tailT t D fin) Q E s:=by
  unfold tailT
  have e0:(⟨t.extract 0 0⟩:Str)=tx []:=by simp [tx]
  refine wpAny_bind ?_
  show wpAny _ _ (mkStr ⟨t.extract 0 0⟩) _ _ _
  rw [e0]
  refine wpAny_mkStr ?_ (by decide)
  refine wpAny_bind (wpAny_bind (wpAny_load hD (wpAny_pure ?_)))
  simp only [Option.getD_some]
  by_cases he:acc.isEmpty=true
  · rw [if_pos he]
    refine wpAny_bind (wpAny_pure ?_)
    have:ys=[]:=by
      have e1:acc=#[]:=by simpa using he
      subst e1
      cases hy;rfl
    subst this
    exact h _ _
  · rw [if_neg he]
    exact wpAny_bind (join_list (ys:=ys) (x:=tx []) ⟨_,hD,rfl,_,rfl⟩ hy (by rw [tx_len];simp only [List.length_nil,Nat.mul_zero];omega) fun t' k'=>h t' k')
theorem sub_tail {A':Around} {E:Value→Shared→Prop} {t:Array Nat} {acc:Array Value} {ys:List Str} {c:Nat} {Q:PySem.Fin→Shared→Prop} (hD:s.heap.get? D=some (lsO acc c)) (hy:StrsAre acc.toList ys) (hz:acc.size≤900010) (hz2:(ys.map (·.length)).sum≤16000000)
    (h:∀t k,Q (.done (.ret (.str (Txt.join (tx []) ys) t))) {s with toks:=k}):
    wpAny (model prog w) A' (tailT t D fun v=>PySem.ret v) Q E s:=sub_tailG hD hy hz hz2 fun t k=>wpAny_pure (h t k)
theorem sub_loop {f:List Nat→List Nat} {h₀:Heap} {R:Result→Shared→Prop} (hl:l.length≤100000) (hlam:LamOk prog w A.in1 repl h₀ D p l tk f) (P:∀h,(∀b o,b≠D→h₀.get? b=some o→h.get? b=some o)→PatAt h p C 1) {q:Nat} {ps:List (List Nat)} (W:SubR C l f q ps):
    ∀(s:Shared) (acc:Array Value) (ys:List Str) (c n:Nat),(∀b o,b≠D→h₀.get? b=some o→s.heap.get? b=some o)→s.heap.get? D=some (lsO acc c)→StrsAre acc.toList ys→acc.size+2*ps.length≤900000→(ys.map (·.length)).sum+(ps.map (·.length)).sum≤16000000→
      (∀h' tk' t,(∀b o,b≠D→s.heap.get? b=some o→h'.get? b=some o)→R (.ok (.ret (.str (Txt.join (tx []) (ys++ps.map tx)) t))) {s with heap:=h',toks:=tk'})→
      codeAny (model prog w) A (.builtin "re.Pattern.sub.loop" ⟨[.ref p, .str (tx l) tk,repl,rawInt 1,rawInt 0,rawInt n,rawInt q,rawInt q, .bool false, .ref D, .bool false],[]⟩) R s:=by
  have hs:sizeLine=16777216:=rfl
  induction W with
  | @done q b hq hE hb=>
    intro s acc ys c n k hD hy hz hz2 ret
    refine codeAny_builtin entry_loop ?_
    show wpAny _ A.in1 (Builtin.Re.reWholeTarget (.ref p) (.str (tx l) tk)>>=_) _ _ _
    refine wpAny_bind (wp_whole (P _ k) ?_)
    show wpAny _ A.in1 (Builtin.Re.reRunToEnd (Sre.forSearch C l.toArray 1 q l.toArray.size false)>>=_) _ _ _
    refine wpAny_bind (wp_end_miss hE hb ?_)
    show wpAny _ A.in1 (if ((q:Nat):Int).toNat<l.toArray.size then (Builtin.Re.reSlice l.toArray 0 ((q:Nat):Int).toNat l.toArray.size>>=fun v=>updateSeq D (·.push v)>>=fun _=>tailT l.toArray D fun v=>PySem.ret v) else tailT l.toArray D fun v=>PySem.ret v) _ _ _
    rw [Int.toNat_natCast,List.size_toArray]
    by_cases hc:q<l.length
    · rw [if_pos hc] at ret hz hz2
      rw [if_pos hc]
      show wpAny _ _ (mkStr ⟨l.toArray.extract q l.length⟩>>=_) _ _ _
      rw [cut_eq,List.take_of_length_le (by simp)]
      have hzl:(l.drop q).length≤100000:=by simp;omega
      refine wpAny_bind (wpAny_mkStr ?_ (by rw [tx_len];omega))
      refine wpAny_bind (push_step hD (by omega) fun h' c' hD' k'=>?_)
      refine sub_tail hD' (strs_push hy) ?_ ?_ fun t k2=>?_
      · simp only [Array.size_push];omega
      · simp only [List.map_append,List.map_cons,List.map_nil,List.sum_append,List.sum_cons,List.sum_nil,tx_len]
        simp only [List.map_cons,List.map_nil,List.sum_cons,List.sum_nil] at hz2
        omega
      · exact ret h' k2 t fun b o hb e=>k' b o hb e
    · rw [if_neg hc] at ret hz hz2
      rw [if_neg hc]
      refine sub_tail hD hy (by simp at hz;omega) (by simp at hz2;omega) fun t k2=>?_
      have:=ret s.heap k2 t fun b o _ e=>e
      simpa using this
  | @hit q S H a1 b1 b ps hq hSH hH ha hb1 hE hb _ ih=>
    intro s acc ys c n k hD hy hz hz2 ret
    refine codeAny_builtin entry_loop ?_
    show wpAny _ A.in1 (Builtin.Re.reWholeTarget (.ref p) (.str (tx l) tk)>>=_) _ _ _
    refine wpAny_bind (wp_whole (P _ k) ?_)
    show wpAny _ A.in1 (Builtin.Re.reRunToEnd (Sre.forSearch C l.toArray 1 q l.toArray.size false)>>=_) _ _ _
    refine wpAny_bind (wp_end_hit hE hb fun m hm=>?_)
    have turn:∀(s₁:Shared) (acc₁:Array Value) (ys₁:List Str) (c₁:Nat),(∀b o,b≠D→h₀.get? b=some o→s₁.heap.get? b=some o)→s₁.heap.get? D=some (lsO acc₁ c₁)→StrsAre acc₁.toList ys₁→acc₁.size+2*ps.length+2≤900000→
        (ys₁.map (·.length)).sum+(f ((l.drop a1).take (b1 - a1))).length+(ps.map (·.length)).sum≤16000000→
        (∀h' tk' t,(∀b o,b≠D→s₁.heap.get? b=some o→h'.get? b=some o)→R (.ok (.ret (.str (Txt.join (tx []) (ys₁++tx (f ((l.drop a1).take (b1 - a1)))::ps.map tx)) t))) {s₁ with heap:=h',toks:=tk'})→
        wpAny (model prog w) A.in1 (Builtin.Re.reNewMatch (.ref p) (.str (tx l) tk) 1 0 l.toArray.size m>>=fun found=>holding [found] (call repl [found])>>=fun item=>
          (if (item !=Value.none)=true then (updateSeq D (·.push item)>>=fun _=>again (.builtin "re.Pattern.sub.loop" ⟨[.ref p, .str (tx l) tk,repl,rawInt 1,rawInt 0,rawInt ((n:Int)+1),rawInt m.handed,rawInt m.handed, .bool (m.handed==m.start), .ref D, .bool false],[]⟩))
            else again (.builtin "re.Pattern.sub.loop" ⟨[.ref p, .str (tx l) tk,repl,rawInt 1,rawInt 0,rawInt ((n:Int)+1),rawInt m.handed,rawInt m.handed, .bool (m.handed==m.start), .ref D, .bool false],[]⟩))) (bq prog w A R) (fun e s'=>R (.error e) s') s₁:=by
      intro s₁ acc₁ ys₁ c₁ k₁ hD₁ hy₁ hz₁ hz₁2 ret₁
      have hw:wrongSpan 1 #[some a1,some b1] 1=false:=by
        simp [wrongSpan,Nat.not_lt.mpr (Nat.le_of_lt ha)]
      refine wpAny_bind (wp_newMatch (sp:=[rawInt a1,rawInt b1]) hm hw (by simp [spansOf]) (by simp) fun y tp h' k' e1 e2 n1 n2=>?_)
      refine wpAny_bind (wpAny_holding (wpAny_mono (hlam {s₁ with heap:=h'} _ y tp S H a1 b1 (fun b o hb e=>k' b o (k₁ b o hb e)) e1 e2 ha hb1) (fun v s₂ hv=>?_) fun _ _ e=>e))
      obtain ⟨⟨t,rfl⟩,h2,tk2,rfl,k2⟩:=hv
      have hD2:h2.get? D=some (lsO acc₁ c₁):=k2 _ _ (k' _ _ hD₁)
      refine wpAny_bind (push_step hD2 (by omega) fun h3 c3 hD3 k3=>?_)
      refine wpAny_pure ⟨plainId_quiet plain_loop _,?_⟩
      obtain ⟨_,es,eh,_,_,_⟩:=hm
      have em:(m.handed==m.start)=false:=by rw [es,eh];simp;omega
      rw [em,eh]
      have:=ih {s₁ with heap:=h3,toks:=tk2} _ (ys₁++[tx (f ((l.drop a1).take (b1 - a1)))]) c3 (n+1) (fun b o hb e=>k3 b o hb (k2 b o (k' b o (k₁ b o hb e)))) hD3 (strs_push hy₁) (by simp only [Array.size_push];omega)
        (by simp only [List.map_append,List.map_cons,List.map_nil,List.sum_append,List.sum_cons,List.sum_nil,tx_len];omega) (fun h' tk' t' k4=>by
          have:=ret₁ h' tk' t' fun b o hb e=>k4 b o hb (k3 b o hb (k2 b o (k' b o e)))
          simpa using this)
      exact this
    simp only [List.length_append,List.length_cons,List.map_append,List.map_cons,List.sum_append,List.sum_cons] at hz hz2
    show wpAny _ A.in1 (if ((q:Nat):Int).toNat<m.start then (Builtin.Re.reSlice l.toArray 0 ((q:Nat):Int).toNat m.start>>=fun v=>updateSeq D (·.push v)>>=fun _=>_) else _) _ _ _
    by_cases hc:q<S
    · rw [if_pos hc] at ret hz hz2
      rw [if_pos (by rw [hm.start];exact hc)]
      show wpAny _ _ (mkStr ⟨l.toArray.extract q m.start⟩>>=_) _ _ _
      have e0:(⟨l.toArray.extract q m.start⟩:Str)=tx ((l.drop q).take (S - q)):=by rw [hm.start];exact cut_eq ..
      rw [e0]
      have hzl:((l.drop q).take (S - q)).length≤100000:=by simp;omega
      refine wpAny_bind (wpAny_mkStr ?_ (by rw [tx_len];omega))
      refine wpAny_bind (push_step hD (by simp at hz;omega) fun h' c' hD' k'=>?_)
      refine turn {s with heap:=h',toks:=s.toks+1} _ _ c' (fun b o hb e=>k' b o hb (k b o hb e)) hD' (strs_push hy) ?_ ?_ fun h'' tk'' t k2=>?_
      · simp only [Array.size_push];simp at hz;omega
      · simp only [List.map_append,List.map_cons,List.map_nil,List.sum_append,List.sum_cons,List.sum_nil,tx_len]
        simp only [List.map_cons,List.map_nil,List.sum_cons,List.sum_nil] at hz2
        omega
      · have:=ret h'' tk'' t fun b o hb e=>k2 b o hb (k' b o hb e)
        simpa using this
    · rw [if_neg hc] at ret hz hz2
      rw [if_neg (by rw [hm.start];exact hc)]
      refine turn s _ _ c k hD hy (by simp at hz;omega) (by simp only [List.map_nil,List.sum_nil] at hz2;omega) fun h'' tk'' t k2=>?_
      have:=ret h'' tk'' t k2
      simpa using this
end
end Mine
end
section
open PySem PySem.W PyProof.Rows PySem.Calls
namespace Mine
open Mine.Re
theorem fn_call_lookup:typeLookup (.type "function") "__call__"=pure (some (.builtin "function.__call__")):=by rw [typeLookup_type,builtinLookup_eq_fast];kernel_rfl
theorem str_not_ba:isSubtype (.type "str") (.type "bytearray")=pure false:=by rw [isSubtype_type];kernel_rfl
noncomputable def LamFn (prog:Program) (w:World) (A:Around) (repl:Value) (h₀:Heap) (p:Addr) (l:List Nat) (tk:Nat) (f:List Nat→List Nat):Prop:=
  ∀(s':Shared) (E:Value→Shared→Prop) (y tp S H a1 b1:Nat),Kept h₀ s'.heap→s'.heap.get? y=some (matO (.str (tx l) tk) (.ref p) 0 l.toArray.size 1 tp)→
    s'.heap.get? tp=some (tupO [rawInt S,rawInt H,rawInt a1,rawInt b1])→a1<b1→b1≤l.length→
    wpAny (model prog w) A (call repl [.ref y]) (fun v s₂=>(∃t,v= .str (tx (f ((l.drop a1).take (b1 - a1)))) t)∧Keeps s' s₂) E s'
theorem join_tx:∀(ps:List (List Nat)),Txt.join (tx []) (ps.map tx)=tx ps.flatten:=by
  intro ps
  have e1:Txt.join (tx []) (ps.map tx)=Str.join (tx []) (ps.map tx):=StrLaws.glued_eq_join _ _
  rw [e1]
  clear e1
  induction ps with
  | nil=>rfl
  | cons a r ih=>
    cases r with
    | nil=>show tx a=_;simp
    | cons b r=>
      show tx a++tx []++Str.join (tx []) ((b::r).map tx)=_
      rw [ih]
      show tx a++tx []++tx (b::r).flatten=_
      rw [tx_append,tx_append,List.append_nil];rfl
section
variable {prog:Program} {w:World} {A:Around} {E:Value→Shared→Prop} {s:Shared} {p fn:Addr} {l:List Nat} {tk:Nat} {C:Array Nat} {Q:Value→Shared→Prop}
theorem sub_call {f:List Nat→List Nat} {ps:List (List Nat)} (P:PatAt s.heap p C 1) (hfn:s.TypeIs (.ref fn) "function") (hl:l.length≤100000) (hlam:LamFn prog w A.in1 (.ref fn) s.heap p l tk f) (W:SubR C l f 0 ps) (hz:ps.length≤400000) (hz2:(ps.map (·.length)).sum≤16000000)
    (ret:∀h' tk' t,Kept s.heap h'→Q (.str (tx ps.flatten) t) {s with heap:=h',toks:=tk'}):
    wpAny (model prog w) A (call (.builtin "re.Pattern.sub") [.ref p, .ref fn, .str (tx l) tk]) Q E s:=by
  refine wpAny_call (codeAny_call_builtin slot_Pattern_sub.plain entry_Pattern_sub (slot_Pattern_sub.check _ _ _ _ _ _ _ _ P.type (args_Pattern_sub _ _ _) ?_))
  unfold Builtin.«re.Pattern.sub» Builtin.Re.reSubstitute
  have en:Builtin.Re.reNamed "re.Pattern.sub" "sub" ["repl","string","count"] 2 [.ref fn, .str (tx l) tk] []=pure [some (.ref fn),some (.str (tx l) tk),none]:=rfl
  dsimp only
  rw [en]
  refine wpAny_bind (wpAny_pure ?_)
  refine wpAny_bind (wpAny_pure ?_)
  refine wpAny_bind (wpAny_specialOf hfn fn_call_lookup ?_)
  refine wpAny_bind (wpAny_pure ?_)
  refine wpAny_bind (wpAny_pure ?_)
  refine wpAny_bind (wpAny_holding (wp_whole P ?_))
  unfold Builtin.Re.reNotHeld
  refine wpAny_bind (wpAny_bind (wpAny_isInstance (typeIs_str _ _ _) str_not_ba ?_))
  refine wpAny_pure ?_
  refine wpAny_bind (wpAny_newList ?_ (by decide))
  refine wpAny_pure ⟨plainId_quiet plain_loop _,?_⟩
  have hD:∀b o,s.heap.get? b=some o→b≠s.heap.objs.size:=fun b o e=>Nat.ne_of_lt (Heap.lt_size e)
  have kk:∀(h:Heap),(∀b o,b≠s.heap.objs.size→(s.heap.push (lsO #[] 0)).get? b=some o→h.get? b=some o)→Kept s.heap h:=fun h k b o e=>k b o (hD b o e) (Heap.get?_push_of_some _ e)
  have:=sub_loop (prog:=prog) (w:=w) (A:=A) (p:=p) (D:=s.heap.objs.size) (l:=l) (tk:=tk) (repl:= .ref fn) (f:=f) (h₀:=s.heap.push (lsO #[] 0)) (C:=C)
    (R:=fun r s'=>match r with| .ok (.ret v)=>Q v s'| .ok _=>False| .error e=>E e s') hl (fun s' E y tp S H a1 b1 k e1 e2 ha hb=>hlam s' E y tp S H a1 b1 (kk _ k) e1 e2 ha hb) (fun h k=>P.keeps (kk h k)) W
    {s with heap:=s.heap.push (lsO #[] 0)} #[] [] 0 0 (fun _ _ _ e=>e) (Heap.get?_push_size _ rfl) .nil (by simp;omega) (by simpa using hz2) (fun h' tk' t k=>by
      show Q _ _
      rw [List.nil_append,join_tx]
      exact ret h' tk' t (kk h' k))
  exact this
end
end Mine
end
section
open PySem PySem.W PySem.W.X PyProof.Rows PySem.Calls
namespace Mine
structure Then (M:Model) (A:Around) (rest:List Stmt) (env:Env) (Q:Flow→Shared→Prop) (E:Value→Shared→Prop) (Q₁:Flow→Shared→Prop):Prop where
  nx:∀s',wpAny M A (execs rest env) Q E s'→Q₁ .next s'
  rt:∀v s',Q (.ret v) s'→Q₁ (.ret v) s'
  bk:∀s',Q .brk s'→Q₁ .brk s'
  ct:∀s',Q .cont s'→Q₁ .cont s'
theorem execs_q {M:Model} {A:Around} {st:Stmt} {rest:List Stmt} {env:Env} {Q:Flow→Shared→Prop} {E:Value→Shared→Prop} {h:Heap} {g:Array GenState} {d:Drawn} {tk:Nat} {os:OsState}
    (H:∀(Q₁:Flow→Shared→Prop),Then M A rest env Q E Q₁→∀tk',wpAny M A (exec st env) Q₁ E ⟨h,g,d,tk',os⟩):wpAny M A (execs (st::rest) env) Q E ⟨h,g,d,tk,os⟩:=
  wpAny_execs_cons (H (fun f s'=>match f with| .next=>wpAny M A (execs rest env) Q E s'|f=>Q f s') ⟨fun _ x=>x,fun _ _ x=>x,fun _ x=>x,fun _ x=>x⟩ tk)
theorem abs_QE {M:Model} {A:Around} {t:Sem Flow} {Q:Flow→Shared→Prop} {E:Value→Shared→Prop} {s:Shared}
    (H:∀(Q₀:Flow→Shared→Prop) (E₀:Value→Shared→Prop),(∀f s',Q f s'→Q₀ f s')→(∀e s',E e s'→E₀ e s')→wpAny M A t Q₀ E₀ s):wpAny M A t Q E s:=H Q E (fun _ _ x=>x) (fun _ _ x=>x)
theorem let_ctx {M:Model} {A:Around} {l:List Stmt} {env:Env} {Q:Flow→Shared→Prop} {E:Value→Shared→Prop} {s:Shared} (H:let A':=A;let e':=env;wpAny M A' (execs l e') Q E s):wpAny M A (execs l env) Q E s:=H
end Mine
end
section
open PySem PySem.W PySem.W.X PyProof.Rows PySem.Calls
namespace Mine
noncomputable def okL (cs:Scope) (x:Str):Bool:=cs.kind== .function && cs.names.lookup x==some .local && !(x==("__debug__":Str))
theorem nmL {M:Model} {A:Around} {E:Value→Shared→Prop} {s:Shared} {h₀:Heap} {L a:Addr} {m:Str→Option Value} {cn:Str} {cs:Scope} {ccd:Value} {cl:List (Str × Addr)} {x:Str} {pos:Pos} {v:Value} {Q:Value→Shared→Prop}
    (F:Fr h₀ L s.heap m) (hv:m x=some v) (h:Q v s) (hk:okL cs x=true):wpAny M A (eval (.Name x pos) (envX cn cs L a ccd cl)) Q E s:=by
  simp only [okL,Bool.and_eq_true,Bool.not_eq_true',beq_iff_eq] at hk
  exact nameX_L F hv h hk.1.1 hk.1.2 hk.2
end Mine
end
section
open PySem PySem.W PySem.W.X PyProof.Rows PySem.Calls
namespace Mine
noncomputable def SE (cs:Scope) (m:Str→Option Value) (tk:Nat) (e:Expr) (r:Value × Nat):Prop:=
  (∀{M:Model} {A:Around} {E:Value→Shared→Prop} {s:Shared} {h₀:Heap} {L a:Addr} {cn:Str} {ccd:Value} {cl:List (Str × Addr)} {Q:Value→Shared→Prop},Fr h₀ L s.heap m→s.toks=tk→Q r.1 {s with toks:=r.2}→wpAny M A (eval e (envX cn cs L a ccd cl)) Q E s)
  ∧∀l env,starEach (e::l) env=(false,eval e env)::starEach l env
noncomputable def px (cs:Scope) (m:Str→Option Value) (tk:Nat) (e:Expr):Option {r // SE cs m tk e r}:=
  match e with
  | .Name x _=>match h1:okL cs x with
    | true=>match h2:m x with
      | some v=>some ⟨(v,tk),fun F ht h=>nmL F h2 (by subst ht;exact h) h1,fun _ _=>rfl⟩
      | none=>none
    | false=>none
  | .Constant c _ _=>match c with
    | .none=>some ⟨(.none,tk),fun _ ht h=>wpAny_Constant_none (by subst ht;exact h),fun _ _=>rfl⟩
    | .bool b=>some ⟨(.bool b,tk),fun _ ht h=>fun _ _ _=>(by subst ht;exact h),fun _ _=>rfl⟩
    | .int i=>some ⟨(.int i tk,tk+1),fun _ ht h=>wpAny_Constant_int (by subst ht;exact h),fun _ _=>rfl⟩
    | .str z=>some ⟨(.str z tk,tk+1),fun _ ht h=>Constant_str (by subst ht;exact h),fun _ _=>rfl⟩
    | _=>none
  | _=>none
noncomputable def SEs (cs:Scope) (m:Str→Option Value) (tk:Nat) (es:List Expr) (r:List Value × Nat):Prop:=
  ∀{M:Model} {A:Around} {E:Value→Shared→Prop} {s:Shared} {h₀:Heap} {L a:Addr} {cn:Str} {ccd:Value} {cl:List (Str × Addr)} {pos:Pos} {Q:List Value→Shared→Prop},Fr h₀ L s.heap m→s.toks=tk→Q r.1 {s with toks:=r.2}→wpAny M A (spliced (backTo pos (starEach es (envX cn cs L a ccd cl)))) Q E s
noncomputable def pxs (cs:Scope) (m:Str→Option Value):(es:List Expr)→(tk:Nat)→Option {r // SEs cs m tk es r}
  | [],tk=>some ⟨([],tk),fun _ ht h=>args_nil (by subst ht;exact h)⟩
  | e::l,tk=>match px cs m tk e with
    | some ⟨(v,t1),h1⟩=>match pxs cs m l t1 with
      | some ⟨(vs,t2),h2⟩=>some ⟨(v::vs,t2),fun F ht h=>args_cons (h1.1 F ht (h2 (s:={heap:=_,gens:=_,drawn:=_,toks:=t1,os:=_}) F rfl h)) (h1.2 _ _)⟩
      | none=>none
    | none=>none
noncomputable def valA {p:List Value × Nat→Prop}:Option {r // p r}→Option (List Value × Nat)
  | some ⟨(vs,t),_⟩=>some (vs,t)
  | none=>none
section
variable {M:Model} {A:Around} {E:Value→Shared→Prop} {h h₀:Heap} {g:Array GenState} {d:Drawn} {tk t:Nat} {os:OsState} {L a:Addr} {m:Str→Option Value} {cn:Str} {cs:Scope} {ccd:Value} {cl:List (Str × Addr)} {pos:Pos} {es:List Expr} {vs:List Value} {news:List (Addr × Obj)}
theorem pxs_args {Q:List Value→Shared→Prop} (F:Fr h₀ L h m) (hp:valA (pxs cs m es tk)=some (vs,t)) (H:Q vs ⟨h,g,d,t,os⟩):wpAny M A (spliced (backTo pos (starEach es (envX cn cs L a ccd cl)))) Q E ⟨h,g,d,tk,os⟩:=by
  match pxs cs m es tk,hp with
  | some ⟨(_,_),r⟩,hp=>cases hp;exact r F rfl H
noncomputable def valC (first:List Value):Option (List Value × Nat)→Option (List Value × Nat)
  | some (vs,t)=>match first with
    | []=>some (vs,t)
    | [x]=>some (x::vs,t)
    | _=>none
  | none=>none
theorem valC_ok {first:List Value} {o:Option (List Value × Nat)} (hp:valC first o=some (vs,t)):∃ws,o=some (ws,t)∧vs=first++ws:=by
  cases o with
  | none=>exact nomatch hp
  | some o=>
    cases first with
    | nil=>cases hp;exact ⟨_,rfl,rfl⟩
    | cons x r=>
      cases r with
      | nil=>cases hp;exact ⟨_,rfl,rfl⟩
      | cons _ _=>exact nomatch hp
variable {first:List Value} {e:Expr} {Q:Value→Shared→Prop}
theorem call_b {id:String} (F:Fr h₀ L h m) (hp:valC first (valA (pxs cs m (e::es) tk))=some (vs,t)) (H:wpAny M A (call (.builtin id) vs) Q E ⟨h,g,d,t,os⟩)
    (he:starEach (e::es) (envX cn cs L a ccd cl)=(false,eval e (envX cn cs L a ccd cl))::starEach es (envX cn cs L a ccd cl)) (hs:((backTo pos (starEach es (envX cn cs L a ccd cl))).any fun x=>x.fst)=false):
    wpAny M A (callWith pos (.builtin id) first (backTo pos (starEach (e::es) (envX cn cs L a ccd cl))) []) Q E ⟨h,g,d,tk,os⟩:=by
  obtain ⟨ws,e1,rfl⟩:=valC_ok hp
  exact callWith_method1 (pxs_args F e1 H) he hs
theorem call_r {f:Value} {K:Frag} (X:K.In h₀) (hk:keepIn K f=true) (F:Fr h₀ L h m) (hp:valC first (valA (pxs cs m (e::es) tk))=some (vs,t)) (H:wpAny M A (call f vs) Q E ⟨h,g,d,t,os⟩)
    (he:starEach (e::es) (envX cn cs L a ccd cl)=(false,eval e (envX cn cs L a ccd cl))::starEach es (envX cn cs L a ccd cl)) (hs:((backTo pos (starEach es (envX cn cs L a ccd cl))).any fun x=>x.fst)=false):
    wpAny M A (callWith pos f first (backTo pos (starEach (e::es) (envX cn cs L a ccd cl))) []) Q E ⟨h,g,d,tk,os⟩:=by
  obtain ⟨ws,e1,rfl⟩:=valC_ok hp
  exact callWith_K X hk (pxs_args F e1 ⟨X.keeps F.keep,H⟩) he hs
theorem newl (F:Fr h₀ L h m) (N:News h₀ L h news) (hz:Nat.ble vs.length 999=true)
    (H:∀l,let nw:List (Addr × Obj):=(l,listOf vs.toArray 0)::news;∀h',Fr h₀ L h' m→News h₀ L h' nw→(∀p∈news,p.1<l)→Q (.ref l) ⟨h',g,d,t,os⟩):wpAny M A (newList vs) Q E ⟨h,g,d,t,os⟩:=
  newList_K (s:=⟨h,g,d,t,os⟩) F N H (Nat.le_trans (Nat.le_of_ble_eq_true hz) (Nat.le_of_ble_eq_true rfl))
theorem newt (F:Fr h₀ L h m) (N:News h₀ L h news) (hz:Nat.ble vs.length 999=true)
    (H:∀l,let nw:List (Addr × Obj):=(l,({cls:= .type "tuple",data:= .seq vs.toArray}:Obj))::news;∀h',Fr h₀ L h' m→News h₀ L h' nw→(∀p∈news,p.1<l)→Q (.ref l) ⟨h',g,d,t,os⟩):wpAny M A (newTuple vs) Q E ⟨h,g,d,t,os⟩:=
  kup_newTuple (s:=⟨h,g,d,t,os⟩) F N H (Nat.le_trans (Nat.le_of_ble_eq_true hz) (Nat.le_of_ble_eq_true rfl))
theorem list_p (F:Fr h₀ L h m) (N:News h₀ L h news) (hp:valA (pxs cs m es tk)=some (vs,t)) (hz:Nat.ble vs.length 999=true)
    (H:∀l,let nw:List (Addr × Obj):=(l,listOf vs.toArray 0)::news;∀h',Fr h₀ L h' m→News h₀ L h' nw→(∀p∈news,p.1<l)→Q (.ref l) ⟨h',g,d,t,os⟩):wpAny M A (eval (.List es pos) (envX cn cs L a ccd cl)) Q E ⟨h,g,d,tk,os⟩:=
  List_ (pxs_args F hp (newList_K (s:=⟨h,g,d,t,os⟩) F N H (Nat.le_trans (Nat.le_of_ble_eq_true hz) (Nat.le_of_ble_eq_true rfl))))
theorem tup_p {k:Nat} (F:Fr h₀ L h m) (N:News h₀ L h news) (hp:valA (pxs cs m es tk)=some (vs,t)) (hz:Nat.ble vs.length 999=true)
    (H:∀l,let nw:List (Addr × Obj):=(l,({cls:= .type "tuple",data:= .seq vs.toArray}:Obj))::news;∀h',Fr h₀ L h' m→News h₀ L h' nw→(∀p∈news,p.1<l)→Q (.ref l) ⟨h',g,d,t,os⟩):wpAny M A (eval (.Tuple es k pos) (envX cn cs L a ccd cl)) Q E ⟨h,g,d,tk,os⟩:=
  Tuple_ (pxs_args F hp (kup_newTuple (s:=⟨h,g,d,t,os⟩) F N H (Nat.le_trans (Nat.le_of_ble_eq_true hz) (Nat.le_of_ble_eq_true rfl))))
theorem st_L {x:Str} {v:Value} {Q:Unit→Shared→Prop} (F:Fr h₀ L h m) (N:News h₀ L h news) (hk:okL cs x=true)
    (H:let m':Str→Option Value:=fun y=>if y=x then some v else m y;∀h',Fr h₀ L h' m'→News h₀ L h' news→Q () ⟨h',g,d,tk+1,os⟩):wpAny M A (storeName (envX cn cs L a ccd cl) x v) Q E ⟨h,g,d,tk,os⟩:=by
  simp only [okL,Bool.and_eq_true,Bool.not_eq_true',beq_iff_eq] at hk
  exact storeX_L (s:=⟨h,g,d,tk,os⟩) F N H hk.1.1 hk.1.2
end
end Mine
end
section
open PySem PySem.W PyProof.Rows PySem.Calls
namespace Mine
open Mine.Re
theorem str_no_call:typeLookup (.type "str") "__call__"=pure none:=by rw [typeLookup_type,builtinLookup_eq_fast];kernel_rfl
structure MatAt (h:Heap) (y:Addr) (l:List Nat) (tk:Nat) (sp:List Nat):Prop where
  ob:∃p li t b n,h.get? y=some (matO (.str (tx l) tk) (.ref p) 0 b li t)∧h.get? t=some ({cls:= .type "tuple",data:= .seq (sp.map fun (n:Nat)=>rawInt (n:Int)).toArray n}) 
section
variable {prog:Program} {w:World} {A:Around} {E:Value→Shared→Prop} {s:Shared} {y:Addr} {l:List Nat} {tk t0:Nat} {sp:List Nat} {Q:Value→Shared→Prop}
theorem MatAt.type (P:MatAt s.heap y l tk sp):s.TypeIs (.ref y) "re.Match":=by
  obtain ⟨_,_,_,_,_,e,_⟩:=P.ob
  exact ⟨_,e,rfl⟩
theorem MatAt.keeps {h h':Heap} (P:MatAt h y l tk sp) (k:Kept h h'):MatAt h' y l tk sp:=by
  obtain ⟨p,li,t,b,n,e1,e2⟩:=P.ob
  exact ⟨⟨p,li,t,b,n,k _ _ e1,k _ _ e2⟩⟩
theorem MatAt.meth (P:MatAt s.heap y l tk sp) {name:Str} {id:String} {pl:Sem Bool} {Q:Value × List Value→Shared→Prop} (slot:Slot "re.Match" name id) (hty:typeOf (.builtin id)=pure (.type "method_descriptor"))
    (h:Q (.builtin id,[.ref y]) s):wpAny (model prog w) A (getMethod (.ref y) name pl) Q E s:=
  getMethod_builtin P.type plain_Match slot hty (fun a e=>by cases e;obtain ⟨p,li,t,b,n,e1,_⟩:=P.ob;exact ⟨_,e1,rfl⟩) h
noncomputable abbrev foundOf (p:Addr) (l:List Nat) (tk:Nat) (b:Nat) (li:Int) (t:Addr) (sp:List Nat):Builtin.Re.ReFound:=⟨#[.str (tx l) tk, .ref p,rawInt (0:Nat),rawInt b,rawInt li, .ref t],(sp.map fun (n:Nat)=>(n:Int)).toArray⟩
theorem wp_found {M:Model} {Q:Builtin.Re.ReFound→Shared→Prop} (P:MatAt s.heap y l tk sp) (h:∀p li t b,Q (foundOf p l tk b li t sp) s):wpAny M A (Builtin.Re.reFound (.ref y)) Q E s:=by
  obtain ⟨p,li,t,b,n,e1,e2⟩:=P.ob
  unfold Builtin.Re.reFound
  refine wpAny_bind (wpAny_fieldsOf e1 rfl ?_)
  refine wpAny_bind (m:=Builtin.Re.reRawItems (.ref t)) (wp_rawItems e2 rfl ?_)
  have e:(sp.map fun (n:Nat)=>rawInt (n:Int)).toArray.map Builtin.Re.reRawOf=(sp.map fun (n:Nat)=>(n:Int)).toArray:=by
    apply Array.toList_inj.mp
    simp [Function.comp_def,Builtin.Re.reRawOf,rawInt]
  rw [e]
  exact wpAny_pure (h p li t b)
theorem wp_number {M:Model} {Q:Nat→Shared→Prop} {x:Builtin.Re.ReFound} {i:Nat} (hi:2*i<x.spans.size) (h:Q i s):wpAny M A (Builtin.Re.reGroupNumber x (.int (i:Int) t0)) Q E s:=by
  unfold Builtin.Re.reGroupNumber
  refine wpAny_bind (wpAny_pure ?_)
  dsimp only [Option.isSome_some,if_true]
  unfold asIndex
  refine wpAny_bind (wpAny_bind (wpAny_pure (wpAny_pure ?_)))
  rw [if_neg (by omega)]
  refine wpAny_pure ?_
  rw [Int.toNat_natCast];exact h
theorem wp_groupText {M:Model} {Q:Value→Shared→Prop} {p:Addr} {b':Nat} {li:Int} {t:Addr} {g a b:Nat} {dflt:Value} (ha:sp[2*g]?=some a) (hb:sp[2*g+1]?=some b) (hl:l.length≤100000) (h:∀u k,Q (.str (tx ((l.drop a).take (b - a))) u) {s with toks:=k}):
    wpAny M A (Builtin.Re.reGroupText (foundOf p l tk b' li t sp) g dflt) Q E s:=by
  have e1:(foundOf p l tk b' li t sp).spans.getD (2*g) (-1)=(a:Int):=by simp [ha]
  have e2:(foundOf p l tk b' li t sp).spans.getD (2*g+1) (-1)=(b:Int):=by simp [hb]
  unfold Builtin.Re.reGroupText
  rw [e1,e2]
  dsimp only
  refine wpAny_bind (wp_textOf ?_)
  show wpAny _ _ (mkStr ⟨l.toArray.extract (a:Int).toNat (b:Int).toNat⟩) _ _ _
  rw [Int.toNat_natCast,Int.toNat_natCast,cut_eq]
  have hs:sizeLine=16777216:=rfl
  have:((l.drop a).take (b - a)).length≤l.length:=by rw [List.length_take,List.length_drop];exact Nat.le_trans (Nat.min_le_right _ _) (Nat.sub_le _ _)
  exact wpAny_mkStr (h _ _) (by rw [tx_len];omega)
theorem group_call {S H a b:Nat} (P:MatAt s.heap y l tk [S,H,a,b]) (hl:l.length≤100000) (h:∀t k,Q (.str (tx ((l.drop a).take (b - a))) t) {s with toks:=k}):
    wpAny (model prog w) A (call (.builtin "re.Match.group") [.ref y, .int 1 t0]) Q E s:=by
  refine wpAny_call_entry slot_Match_group P.type entry_Match_group ?_ (args_Match_group _ _)
  unfold Builtin.«re.Match.group»
  refine wpAny_bind (wpAny_pure ?_)
  refine wpAny_bind (wp_found P fun p li t b'=>?_)
  refine wpAny_bind (wp_number (i:=1) (by simp) ?_)
  refine wpAny_bind (wp_groupText (g:=1) (a:=a) (b:=b) rfl rfl hl fun u k=>?_)
  exact wpAny_pure ⟨_,rfl,h u k⟩
theorem span_call {S H:Nat} {r:List Nat} (P:MatAt s.heap y l tk (S::H::r))
    (h:∀(t u1 u2 k:Nat) (h':Heap),Kept s.heap h'→h'.get? t=some (tupO [.int (S:Int) u1, .int (H:Int) u2])→s.heap.get? t=none→Q (.ref t) {s with heap:=h',toks:=k}):
    wpAny (model prog w) A (call (.builtin "re.Match.span") [.ref y, .int 0 t0]) Q E s:=by
  refine wpAny_call_entry slot_Match_span P.type entry_Match_span ?_ (args_Match_span _ _)
  unfold Builtin.«re.Match.span» Builtin.Re.reOneGroup
  refine wpAny_bind (wpAny_bind (m:=selfAndSome "Match.span" "span" 0 1 _) (wpAny_of_eq (a:=(.ref y,[.int 0 t0])) (by rfl) ?_))
  refine wpAny_bind (wp_found P fun p li t b'=>?_)
  refine wpAny_bind (wp_number (i:=0) (by simp) ?_)
  refine wpAny_pure ?_
  dsimp only
  refine wpAny_bind (wpAny_mkInt ?_)
  refine wpAny_bind (wpAny_mkInt ?_)
  refine wpAny_bind (wpAny_newTuple ?_ (by simp only [List.length_cons,List.length_nil];decide))
  refine wpAny_pure ⟨_,rfl,h _ _ _ _ _ (fun b o e=>Heap.get?_push_of_some _ e) (Heap.get?_push_size _ rfl) ?_⟩
  cases z:s.heap.get? s.heap.objs.size with
  | none=>rfl
  | some o=>exact absurd (Heap.lt_size z) (Nat.lt_irrefl _)
theorem subn_junk {p:Addr} {tz b b2:Nat} {C:Array Nat} (P:PatAt s.heap p C 0) (hl:l.length≤100000) (h3:3≤l.length) (hE:Ends (Hit 0 2 #[] (-1) (-1)) b (Sre.forSearch C l.toArray 0 0 l.toArray.size false)) (hb:b≤1000000) (hE2:Ends Miss b2 (Sre.forSearch C l.toArray 0 2 l.toArray.size false)) (hb2:b2≤1000000)
    (h:∀(t u1 u2 k:Nat) (h':Heap),Kept s.heap h'→h'.get? t=some (tupO [.str (tx (l.drop 2)) u1, .int 1 u2])→s.heap.get? t=none→Q (.ref t) {s with heap:=h',toks:=k}):
    wpAny (model prog w) A (call (.builtin "re.Pattern.subn") [.ref p, .str "" tz, .str (tx l) tk]) Q E s:=by
  refine wpAny_call (codeAny_call_builtin slot_Pattern_subn.plain entry_Pattern_subn (slot_Pattern_subn.check _ _ _ _ _ _ _ _ P.type (args_Pattern_subn _ _ _) ?_))
  unfold Builtin.«re.Pattern.subn» Builtin.Re.reSubstitute
  have en:Builtin.Re.reNamed "re.Pattern.subn" "subn" ["repl","string","count"] 2 [.str "" tz, .str (tx l) tk] []=pure [some (.str "" tz),some (.str (tx l) tk),none]:=rfl
  dsimp only
  rw [en]
  refine wpAny_bind (wpAny_pure ?_)
  refine wpAny_bind (wpAny_pure ?_)
  refine wpAny_bind (wpAny_specialOf (typeIs_str _ _ _) str_no_call ?_)
  refine wpAny_bind (wpAny_pure ?_)
  refine wpAny_bind (wpAny_pure ?_)
  have e92:(!(Str.ofString "").cps.contains 92)=true:=by decide+kernel
  rw [if_pos e92]
  refine wpAny_bind (wpAny_pure ?_)
  refine wpAny_bind (wpAny_holding (wp_whole P ?_))
  refine wpAny_bind (wpAny_newList ?_ (by decide))
  refine wpAny_pure ⟨plainId_quiet plain_loop _,?_⟩
  have k0:Kept s.heap (s.heap.push (lsO #[] 0)):=fun b o e=>Heap.get?_push_of_some _ e
  have hD:∀b o,s.heap.get? b=some o→b≠s.heap.objs.size:=fun b o e=>Nat.ne_of_lt (Heap.lt_size e)
  have hDD:(s.heap.push (lsO #[] 0)).get? s.heap.objs.size=some (lsO #[] 0):=Heap.get?_push_size _ rfl
  generalize s.heap.objs.size=D at*
  generalize s.heap.push (lsO #[] 0)=g0 at*
  refine codeAny_builtin entry_loop ?_
  show wpAny _ A.in1 (Builtin.Re.reWholeTarget (.ref p) (.str (tx l) tk)>>=_) _ _ _
  refine wpAny_bind (wp_whole (P.keeps k0) ?_)
  have hlit:∀{M:Model} {A:Around} {s:Shared} {E:Value→Shared→Prop} {Q:Unit→Shared→Prop},Q () s→wpAny M A (Builtin.Re.reLiteralCannotBeTurned (.str "" tz)) Q E s:=fun h=>by
    unfold Builtin.Re.reLiteralCannotBeTurned
    exact wpAny_bind (wpAny_pure (wpAny_pure h))
  have hsz:l.toArray.size=l.length:=by simp
  show wpAny _ A.in1 (Builtin.Re.reLiteralCannotBeTurned (.str "" tz)>>=fun _=>Builtin.Re.reRunToEnd (Sre.forSearch C l.toArray 0 0 l.toArray.size false)>>=_) _ _ _
  refine wpAny_bind (hlit ?_)
  refine wpAny_bind (wp_end_hit hE hb fun m hm=>?_)
  have hnot:¬(Int.toNat 0<m.start):=by rw [hm.start];decide
  show wpAny _ A.in1 (if Int.toNat 0<m.start then _ else (updateSeq D (·.push (.str "" tz))>>=fun _=>again (.builtin "re.Pattern.sub.loop" ⟨[.ref p, .str (tx l) tk, .str "" tz,rawInt 0,rawInt 0,rawInt 1,rawInt m.handed,rawInt m.handed, .bool (m.handed==m.start), .ref D, .bool true],[]⟩))) _ _ _
  rw [if_neg hnot]
  refine wpAny_bind (push_step hDD (by decide) fun h' c' hD' k'=>?_)
  refine wpAny_pure ⟨plainId_quiet plain_loop _,?_⟩
  have em:(m.handed==m.start)=false:=by rw [hm.start,hm.handed];rfl
  rw [em,hm.handed]
  have k1:Kept s.heap h':=fun b o e=>k' b o (hD b o e) (k0 b o e)
  refine codeAny_builtin entry_loop ?_
  show wpAny _ A.in1 (Builtin.Re.reWholeTarget (.ref p) (.str (tx l) tk)>>=_) _ _ _
  refine wpAny_bind (wp_whole (P.keeps k1) ?_)
  show wpAny _ A.in1 (Builtin.Re.reLiteralCannotBeTurned (.str "" tz)>>=fun _=>Builtin.Re.reRunToEnd (Sre.forSearch C l.toArray 0 2 l.toArray.size false)>>=_) _ _ _
  refine wpAny_bind (hlit ?_)
  refine wpAny_bind (wp_end_miss hE2 hb2 ?_)
  show wpAny _ A.in1 (if 2<l.toArray.size then (Builtin.Re.reSlice l.toArray 0 2 l.toArray.size>>=fun v=>updateSeq D (·.push v)>>=fun _=>tailT l.toArray D fun text=>holding [text] (mkInt 1>>=fun n=>newTuple [text,n])>>=PySem.ret) else _) _ _ _
  rw [if_pos (by assumption)]
  show wpAny _ _ (mkStr ⟨l.toArray.extract 2 l.toArray.size⟩>>=_) _ _ _
  rw [cut_eq,List.take_of_length_le (by simp)]
  have hs:sizeLine=16777216:=rfl
  have hzl:(l.drop 2).length≤100000:=by simp;omega
  refine wpAny_bind (wpAny_mkStr ?_ (by rw [tx_len];omega))
  refine wpAny_bind (push_step hD' (by simp) fun h2 c2 hD2 k2=>?_)
  refine sub_tailG (ys:=[tx [],tx (l.drop 2)]) hD2 (.cons _ _ (.cons _ _ .nil)) (by simp) (by simp only [List.map_cons,List.map_nil,List.sum_cons,List.sum_nil,tx_len];simp;omega) fun t k3=>?_
  have ej:Txt.join (tx []) [tx [],tx (l.drop 2)]=tx (l.drop 2):=by
    have:=join_tx [[],l.drop 2]
    simpa using this
  rw [ej]
  refine wpAny_bind (wpAny_holding (wpAny_bind (wpAny_mkInt (wpAny_newTuple ?_ (by simp only [List.length_cons,List.length_nil];decide)))))
  refine wpAny_pure ?_
  refine h _ _ _ _ _ (fun b o e=>Heap.get?_push_of_some _ (k2 b o (hD b o e) (k1 b o e))) (Heap.get?_push_size _ rfl) ?_
  cases z:s.heap.get? h2.objs.size with
  | none=>rfl
  | some o=>exact absurd (Heap.lt_size (k2 _ o (hD _ o z) (k1 _ o z))) (Nat.lt_irrefl _)
end
end Mine
end
section
open PySem PySem.W PySem.W.X PyProof.Rows PySem.Calls
namespace Mine
noncomputable abbrev dqO:Obj:={cls:= .type "collections.deque",data:= .fields ⟨[.none, .int 0 0]⟩}
theorem dq_noBool:typeLookup (.type "collections.deque") "__bool__"=pure none:=by rw [typeLookup_type,builtinLookup_eq_fast];kernel_rfl
theorem dq_slot:Slot "collections.deque" "__len__" "collections.deque.__len__":=
  .of (owner:="collections.deque") (n:="__len__") (by rw [typeLookup_type,builtinLookup_eq_fast];kernel_rfl) (by decide+kernel) (by decide+kernel) (by decide+kernel)
    (by first|exact .inl (by decide+kernel)|exact .inr (by decide+kernel)) (by rw [isSubtype_type];kernel_rfl)
theorem dq_entry:entryFor table "collections.deque.__len__"=some Builtin.«collections.deque.__len__»:=entryFor_of_tree (by kernel_rfl)
theorem dq_args (v:Value):argsOk "collections.deque.__len__" ⟨[v],[]⟩:=by unfold argsOk;kernel_rfl
section
variable {prog:Program} {w:World} {A:Around} {E:Value→Shared→Prop} {s:Shared}
theorem dq_len_body {l:Addr} {Q:Value→Shared→Prop} (ho:s.heap.get? l=some dqO)
    (h:Q (.int 0 (s.toks+1)) {s with toks:=s.toks+1+1}):wpAny (model prog w) A (Builtin.«len» ⟨[.ref l],[]⟩) (fun fin s'=>∃r,fin= .done (.ret r)∧Q r s') E s:=by
  have hT:s.TypeIs (.ref l) "collections.deque":=⟨_,ho,rfl⟩
  unfold Builtin.«len»
  refine wpAny_bind (m:=oneArg "len" _) (wpAny_pure ?_)
  refine wpAny_bind (m:=callSpecial? (.ref l) (Str.ofString "__len__")) (wpAny_callSpecial?_slot (name:=Str.ofString "__len__") hT dq_slot
    (wpAny_call_entry dq_slot hT dq_entry ?_ (dq_args _)))
  show wpAny _ _ (do retInt (←Builtin.Deque.size (.ref l))) _ _ s
  unfold Builtin.Deque.size fieldsOf
  refine wpAny_bind (wpAny_bind (wpAny_bind (wpAny_load ho ?_)))
  refine wpAny_pure (wpAny_pure (wpAny_bind (wpAny_mkInt (wpAny_pure ⟨_,rfl,?_⟩))))
  refine wpAny_bind (wpAny_holding (wpAny_pure ?_))
  refine wpAny_bind (wpAny_letGo ?_)
  exact wpAny_bind (wpAny_mkInt (wpAny_pure ⟨_,rfl,h⟩))
theorem truthy_dq {l:Addr} {Q:Bool→Shared→Prop} (ho:s.heap.get? l=some dqO) (h:∀k,Q false {s with toks:=k}):wpAny (model prog w) A (truthy (.ref l)) Q E s:=by
  have hT:s.TypeIs (.ref l) "collections.deque":=⟨_,ho,rfl⟩
  have key:wpAny (model prog w) A (runValue (.builtin "len" ⟨[.ref l],[]⟩)) (fun r s'=>r= .int 0 (s.toks+1)∧Q false s') E s:=by
    refine wpAny_runValue (codeAny_builtin entry_len ?_)
    exact wpAny_mono (dq_len_body (Q:=fun r s'=>r= .int 0 (s.toks+1)∧Q false s') ho ⟨rfl,h _⟩)
      (fun fin s' h'=>by obtain ⟨r,rfl,hq⟩:=h';exact hq) fun _ _ e=>e
  unfold truthy
  first
    | refine wpAny_bind (wpAny_callSpecial?_none (name:=Str.ofString "__bool__") hT dq_noBool ?_)
    | refine wpAny_bind (wpAny_pure (wpAny_bind (wpAny_callSpecial?_none (name:=Str.ofString "__bool__") hT dq_noBool ?_)))
  first
    | refine wpAny_bind (wpAny_specialOf (name:=Str.ofString "__len__") hT dq_slot.lookup ?_)
    | refine wpAny_bind (wpAny_pure (wpAny_bind (wpAny_specialOf (name:=Str.ofString "__len__") hT dq_slot.lookup ?_)))
  first
    | exact wpAny_bind (wpAny_mono key (fun r s' h'=>by obtain ⟨rfl,hq⟩:=h';exact wpAny_pure hq) fun _ _ e=>e)
    | exact wpAny_bind (wpAny_pure (wpAny_bind (wpAny_mono key (fun r s' h'=>by obtain ⟨rfl,hq⟩:=h';exact wpAny_pure hq) fun _ _ e=>e)))
end
local macro_rules | `(tactic|x_close)=> `(tactic|((rename (∀_ _ _,Mem _ _ _ _→_)=>hR);(refine hR _ _ _ ?_);assumption))
theorem dq_new (w:World) {A:Around} {h:Heap} {g:Array GenState} {d:Drawn} {t:Nat} {os:OsState} {Q E:Value→Shared→Prop}
    (hret:∀a h' t',Mem h h' [] [(a,dqO)]→Q (.ref a) ⟨h',g,d,t',os⟩):
    wpAny (model pw_il0090_01 w) A (call (.type "collections.deque") []) Q E ⟨h,g,d,t,os⟩:=by
  x_run
theorem new_news {h₀ h h':Heap} {L a:Addr} {o:Obj} {m:Str→Option Value} {news:List (Addr × Obj)} (F:Fr h₀ L h m) (N:News h₀ L h news) (k:Kept h h') (h1:h'.get? a=some o) (h2:h.get? a=none):
    Fr h₀ L h' m∧News h₀ L h' ((a,o)::news)∧∀q∈news,q.1≠a:=by
  have no:h₀.get? a=none:=by
    cases q:h₀.get? a with
    | none=>rfl
    | some x=>rw [F.keep _ _ q] at h2;cases h2
  obtain ⟨oL,es,ep,hL,_⟩:=F.ns
  refine ⟨F.keeps k,?_,fun q hq e=>by have:=(N q hq).1;rw [e,h2] at this;cases this⟩
  intro q hq
  rcases List.mem_cons.mp hq with rfl|hq
  · refine ⟨h1,?_,no⟩
    intro e
    have e:a=L:=e
    rw [e,hL] at h2;cases h2
  · exact ⟨k _ _ (N q hq).1,(N q hq).2⟩
theorem use_dq {w:World} {A:Around} {h₀:Heap} {L:Addr} {m:Str→Option Value} {news:List (Addr × Obj)} {s:Shared} {Q E:Value→Shared→Prop} (F:Fr h₀ L s.heap m) (N:News h₀ L s.heap news)
    (ret:∀a h' tk',Fr h₀ L h' m→News h₀ L h' ((a,dqO)::news)→(∀q∈news,q.1≠a)→Q (.ref a) {s with heap:=h',toks:=tk'}):
    wpAny (model pw_il0090_01 w) A (call (.type "collections.deque") []) Q E s:=by
  obtain ⟨h,g,d,t,os⟩:=s
  refine dq_new w fun a h' t' D=>?_
  obtain ⟨F',N',ne⟩:=new_news F N (mem_kept D) (D.nw _ (.head _)).1 (D.nw _ (.head _)).2
  exact ret a h' t' F' N' ne
end Mine
end
section
open PySem PySem.W PySem.W.X PyProof.Rows PySem.Calls
namespace Mine
local macro_rules | `(tactic|x_close)=> `(tactic|assumption)
theorem mat_get (w:World) {A:Around} {h:Heap} {g:Array GenState} {d:Drawn} {t:Nat} {os:OsState} {Q E:Value→Shared→Prop} {y u:Nat} {v0 v1 v2 v3 v4 v5:Value}
    (hy:h.get? y=some ⟨.type "re.Match",none, .fields ⟨[v0,v1,v2,v3,v4,v5]⟩,⟨[]⟩⟩)
    (hret:Q v0 ⟨h,g,d,t,os⟩):
    wpAny (model pw_il0090_01 w) A (call (.builtin "object.__getattribute__") [.ref y, .str "string" u]) Q E ⟨h,g,d,t,os⟩:=by
  x_run
theorem ga_lookup:typeLookup (.type "re.Match") "__getattribute__"=pure (some (.builtin "object.__getattribute__")):=by rw [typeLookup_type,builtinLookup_eq_fast];kernel_rfl
theorem ga_bind (v:Value):bindSpecial (.builtin "object.__getattribute__") v=pure (.builtin "object.__getattribute__",[v]):=by kernel_rfl
theorem mat_string {w:World} {A:Around} {s:Shared} {Q E:Value→Shared→Prop} {y tk:Nat} {l:List Nat} {sp:List Nat} (M:MatAt s.heap y l tk sp) (hret:Q (.str (tx l) tk) {s with toks:=s.toks+1}):
    wpAny (model pw_il0090_01 w) A (getAttr (.ref y) "string" true) Q E s:=by
  obtain ⟨p,li,t,b,n,e1,e2⟩:=M.ob
  unfold getAttr
  refine wpAny_bind (wpAny_mkText ?_)
  unfold getAttrBy
  refine wpAny_holding (wpAny_bind (wpAny_typeOf M.type ?_))
  refine wpAny_bind (wpAny_of_eq ga_lookup ?_)
  simp only
  unfold getAttrByItsOwn
  refine wpAny_bind (m:=hookBefore (.type "re.Match")) (wpAny_pure ?_)
  refine wpAny_bind (wpAny_attempt (wpAny_holding ?_))
  show wpAny _ A (boundAndCalled (.builtin "object.__getattribute__") (.ref y) (.str "string" s.toks)) _ _ _
  unfold boundAndCalled
  refine wpAny_bind (wpAny_pure ?_)
  refine mat_get w e1 ?_
  exact wpAny_pure hret
end Mine
end
section
open PySem PySem.W PySem.W.X PyProof.Rows PySem.Calls
namespace Mine
noncomputable abbrev wordC:Str:= .ofString "abcdfeghijklmnopqrstuvwxyzABCDEFGHIJKLMNOPQRSTUVWXYZ0123456789_ßàáâãäåæçèéêëìíîïðñòóôõöøùúûüýþÿÀÁÂÃÄÅÆÇÈÉÊËÌÍÎÏÐÑÒÓÔÕÖØÙÚÛÜÝÞ"
noncomputable abbrev lexD (P:Params) (t:Nat→Nat) (io pb fs:Nat) (ws:Bool) (cm:String) (st tok:Value):Obj:=dictOf
  [enK P "instream" (t 0) (.ref io),enK P "infile" (t 1) .none,enK P "posix" (t 2) (.bool true),enK P "eof" (t 3) .none,
   enK P "commenters" (t 4) (.str (.ofString cm) (t 5)),enK P "wordchars" (t 6) (.str wordC (t 7)),enK P "whitespace" (t 8) (.str " \t\r\n" (t 9)),
   enK P "whitespace_split" (t 10) (.bool ws),enK P "quotes" (t 11) (.str "'\"" (t 12)),enK P "escape" (t 13) (.str "\\" (t 14)),
   enK P "escapedquotes" (t 15) (.str "\"" (t 16)),enK P "state" (t 17) st,enK P "pushback" (t 18) (.ref pb),enK P "lineno" (t 19) (.int 1 (t 20)),
   enK P "debug" (t 21) (.int 0 (t 22)),enK P "token" (t 23) tok,enK P "filestack" (t 24) (.ref fs),enK P "source" (t 25) .none,
   enK P "_punctuation_chars" (t 26) (.str "" (t 27))] 19
noncomputable abbrev ioD (j0 j1 j2:Int) (u0 u1 u2 u3:Nat) (x:Str) (xt:Nat) (pos:Int) (pt:Nat):Obj:=dictOf
  [⟨j0, .str "_StringIO__newline" u0, .str "\n" u1⟩,⟨j1, .str "_StringIO__buf" u2, .str x xt⟩,⟨j2, .str "_StringIO__pos" u3, .int pos pt⟩] 3
theorem kept_hide {g h h':Heap} {ads:List Addr} {L:Addr} {m:Str→Option Value} (hg:g=hideAll h ads) (F:Fr g L h' m):∀b o,b ∉ ads→h.get? b=some o→h'.get? b=some o:=fun b o hb e=>F.keep b o (hg▸hideAll_get _ e hb)
theorem mut_side {h₀ h h':Heap} {L:Addr} {m:Str→Option Value} {news:List (Addr × Obj)} {ads:List Addr} (F:Fr h₀ L h m) (N:News h₀ L h news) (ha:∀a∈ads,∃o,(a,o)∈news)
    (k:∀b o,b ∉ ads→h.get? b=some o→h'.get? b=some o):Fr h₀ L h' m∧(∀q:Addr × Obj,(∃o,(q.1,o)∈news)→h'.get? q.1=some q.2→News h₀ L h' [q])∧∀q∈news,q.1 ∉ ads→News h₀ L h' [q]:=by
  have nL:L ∉ ads:=fun q=>by obtain ⟨o,ho⟩:=ha _ q;exact (N _ ho).2.1 rfl
  obtain ⟨oL,es,ep,hL,r⟩:=F.ns
  refine ⟨⟨⟨oL,es,ep,k _ _ nL hL,r⟩,fun b o e=>k b o (fun q=>by obtain ⟨o',ho⟩:=ha _ q;have:=(N _ ho).2.2;rw [e] at this;cases this) (F.keep b o e),F.above⟩,?_,?_⟩
  · rintro ⟨a,o⟩ ⟨o',ho'⟩ hq p hp
    rw [List.mem_singleton] at hp;subst hp
    exact ⟨hq,(N _ ho').2⟩
  · rintro q hq hn p hp
    rw [List.mem_singleton] at hp;subst hp
    exact ⟨k _ _ hn (N _ hq).1,(N _ hq).2⟩
end Mine
end
section
open PySem PySem.W PySem.W.X PyProof.Rows PySem.Calls Builtin Builtin.ObjectAttr Builtin.Getset_descriptor
namespace Mine
section
variable {w:World} {A:Around} {E:Value→Shared→Prop} {s:Shared} {K:Frag} {C dC fN fI pN:Addr} {mc:Value} {cd:ClassData}
theorem cls_own {prog:Program} {lst:List Value} {nm:Str} {expr:Bool} {Q:Value→Shared→Prop} (X:K.In s.heap) (hr:readsIn K C mc=true) (hf:findCls K (.ref C) mc nm=some (.get (.builtin "staticmethod.__get__") (.ref pN) .none (.ref C))) (hp:recIn K pN "staticmethod"=some (.ref fN::lst))
    (h:Q (.ref fN) {s with toks:=s.toks+1}):wpAny (model prog w) A (getAttr (.ref C) nm expr) Q E s:=
  cls_bind X hr hf (wpAny_call (sm_get (s:={s with toks:=s.toks+1}) X hp (handed_on rfl h)))
theorem make_own {prog:Program} {rest lst:List Value} {Q:Value→Shared→Prop} {oc:Value} {od:Option Addr} {sl:Array (Option Value)} {v4:Value} (X:K.In s.heap)
    (hC:K.lookup C=some ⟨oc,od, .cls cd,sl⟩) (e4:cd.mro.isEmpty=false) (h4:(sl.toList[4]?).join=some v4) (hv4:(match v4 with| .builtin _=>true|_=>false)=false)
    (hcall:specialIn K (.ref C) "__call__"=some (some (.builtin "type.__call__"))) (htyp:instIn K (.ref C) (.type "type")=some true)
    (hr:readsIn K C mc=true) (hf:findCls K (.ref C) mc "__new__"=some (.get (.builtin "staticmethod.__get__") (.ref pN) .none (.ref C))) (hp:recIn K pN "staticmethod"=some (.ref fN::lst))
    (hself:mroIn K C (.ref C)=some true) (hi:findIn K (.ref C) "__init__"=some (some (.ref fI))) (hfi:typeIn K (.ref fI)=some (.type "function"))
    (h:codeAny (model prog w) (A.under (.builtin "type.__call__" ⟨.ref C::rest,[]⟩)) (.call (.ref fN) ⟨.ref C::rest,[]⟩) (fun r s'=>match r with
      | .ok (.ret v)=>∃x dx,v= .ref x∧K.In s'.heap∧s'.heap.get? x=some (instObj C dx)∧
        codeAny (model prog w) (A.under (.builtin "type.__call__" ⟨.ref C::rest,[]⟩)) (.call (.ref fI) ⟨.ref x::rest,[]⟩) (InitBack x fun r s'=>match r with| .ok (.ret v)=>Q v s'| .ok _=>False| .error e=>E e s') s'
      | .ok _=>False
      | .error e=>E e s') {s with toks:=s.toks+1}):
    wpAny (model prog w) A (call (.ref C) rest) Q E s:=by
  have call:=looks_specialIn (M:=model prog w) X hcall
  have typ:=looks_instIn (M:=model prog w) X htyp
  have hget:=X _ _ hC
  have hm:Looks (model prog w) s.heap (mroOf (.ref C)) cd.mro:=((Looks.ld (part:=none) hget).andThen .now).andThen .now
  obtain ⟨c,l,hl⟩:∃c l,cd.mro=c::l:=by cases q:cd.mro with|nil=>rw [q] at e4;cases e4|cons c l=>exact ⟨c,l,rfl⟩
  have made:Looks (model prog w) s.heap (Bind.madeBy (.ref C)) none:=by
    intro A Q E s k q
    unfold Bind.madeBy
    refine wpAny_bind (hm A _ E s k ?_)
    rw [hl,List.forIn_cons]
    refine wpAny_bind (wpAny_bind (wpAny_bind (wpAny_bind (wpAny_loadPart (k _ _ hget) (wpAny_pure ?_)))))
    rw [←Array.getElem?_toList,h4]
    cases v4<;>first|(cases hv4;done)|exact wpAny_pure (wpAny_pure (wpAny_pure q))
  refine wpAny_call (codeAny_of_tree ?_)
  show wpAny _ _ (callAny (.ref C) _) _ _ _
  refine nd_load hget ?_
  show wpAny _ _ (callAny.viaDunder (.ref C) _) _ _ _
  unfold callAny.viaDunder
  refine wpAny_bind (call.at ?_)
  dsimp only
  refine wpAny_bind (wpAny_pure (wpAny_bind (wpAny_pure ?_)))
  refine wpAny_pure (a:=Fin.again (.call (.builtin "type.__call__") ⟨.ref C::rest,[]⟩)) (And.intro rfl ?_)
  refine codeAny_call_builtin_at (Code.quiet_builtin _ (by decide+kernel)) entry_typeCall (check_slot tc_kind tc_split typ (tc_args _ _ _) ?_)
  unfold Builtin.«type.__call__»
  repeat (first|with_reducible refine cls_own X hr hf hp ?_|with_reducible refine wpAny_call ?_|simp only [e4,Bool.false_eq_true,if_false]|lk)
  refine codeAny_mono h fun r s' z=>?_
  rcases r with e|(_|_|_|v)<;>first|exact z|exact z.elim|skip
  obtain ⟨x,dx,rfl,X',hx,z⟩:=z
  have t1:Looks (model prog w) s'.heap (typeOf (.ref x)) (.ref C):=(Looks.ld hx).andThen .now
  have s1:=looks_mroIn (M:=model prog w) X' hself
  have i1:=looks_findIn (M:=model prog w) X' hi
  have b1:=bind_fn (M:=model prog w) X' (.ref x) hfi
  unfold isInstance callSpecial? specialOf
  repeat (first|with_reducible refine wpAny_call ?_|lk)
  refine codeAny_mono z fun r s' y=>?_
  rcases r with e|(_|_|_|v)<;>first|exact y|exact y.elim|skip
  obtain ⟨rfl,y⟩:=y
  exact wpAny_pure (wpAny_pure y)
end
end Mine
end
section
open PySem PySem.W PySem.W.X PyProof.Rows PySem.Calls
namespace Mine
noncomputable def K2 (P:Params):Frag:=[
  (nat_lit 149,⟨(.type "type"), .none,(.cls ⟨⟨⟨[73,79,66,97,115,101]⟩⟩,[(.type "object")],[(.ref 149),(.type "object")],148,⟨⟨[73,79,66,97,115,101]⟩⟩,Bool.true,[],[(.ref 164),(.ref 176)],Bool.false, .none,Bool.false⟩),⟨[.none, .none,(.some (.str ⟨⟨[73,79,66,97,115,101]⟩⟩ 739)),(.some (.str ⟨⟨[73,79,66,97,115,101]⟩⟩ 747)),(.some PySem.Value.none),(.some (.bool Bool.true))]⟩⟩),
  (nat_lit 176,⟨(.type "type"), .none,(.cls ⟨⟨⟨[84,101,120,116,73,79,66,97,115,101]⟩⟩,[(.ref 149)],[(.ref 176),(.ref 149),(.type "object")],175,⟨⟨[84,101,120,116,73,79,66,97,115,101]⟩⟩,Bool.true,[],[(.ref 653)],Bool.false, .none,Bool.false⟩),⟨[(.some (.ref 167)), .none,(.some (.str ⟨⟨[84,101,120,116,73,79,66,97,115,101]⟩⟩ 789)),(.some (.str ⟨⟨[84,101,120,116,73,79,66,97,115,101]⟩⟩ 797)),(.some PySem.Value.none),(.some (.bool Bool.true))]⟩⟩),
  (nat_lit 653,⟨(.type "type"), .none,(.cls ⟨⟨⟨[83,116,114,105,110,103,73,79]⟩⟩,[(.ref 176)],[(.ref 653),(.ref 176),(.ref 149),(.type "object")],652,⟨⟨[83,116,114,105,110,103,73,79]⟩⟩,Bool.true,[],[],Bool.false, .none,Bool.false⟩),⟨[(.some (.ref 409)), .none,(.some (.str ⟨⟨[83,116,114,105,110,103,73,79]⟩⟩ 1069)),(.some (.str ⟨⟨[83,116,114,105,110,103,73,79]⟩⟩ 1077)),(.some PySem.Value.none),(.some (.bool Bool.true))]⟩⟩)]
theorem in_of {K K':Frag} {h:Heap} (X:K.In h) (hk:∀a o,K'.lookup a=some o→K.lookup a=some o):K'.In h:=fun a o e=>X a o (hk a o e)
theorem look_of {K:Frag}:∀{K':Frag},(∀p∈K',K.lookup p.1=some p.2)→∀a o,K'.lookup a=some o→K.lookup a=some o
  | [],_,_,_,e=>nomatch e
  | (b,o')::r,h,a,o,e=>by
    by_cases z:a=b
    · subst z
      rw [List.lookup_cons_self] at e
      rw [←Option.some.inj e]
      exact h _ (.head _)
    · rw [List.lookup_cons,beq_false_of_ne z] at e
      exact look_of (fun p hp=>h p (.tail _ hp)) a o e
theorem k2_in {P:Params} {h:Heap} (X:(K P).In h):(K2 P).In h:=in_of X (look_of (by
  refine List.forall_mem_cons.mpr ⟨by kernel_rfl,?_⟩
  repeat (refine List.forall_mem_cons.mpr ⟨by kernel_rfl,?_⟩)
  exact List.forall_mem_nil _))
theorem mem_get {h h':Heap} {a:Addr} {o:Obj} {news:List (Addr × Obj)} (D:Mem h h' [] news) (hm:(a,o)∈news):h'.get? a=some o:=(D.nw _ hm).1
theorem mem_none {h h':Heap} {a:Addr} {o:Obj} {news:List (Addr × Obj)} (D:Mem h h' [] news) (hm:(a,o)∈news):h.get? a=none:=(D.nw _ hm).2
local macro_rules | `(tactic|x_close)=> `(tactic|((rename (∀_ _ _ _,Kept _ _→_)=>hR);(refine' hR _ _ _ _ ?k ?g1 ?g2 ?n1 ?n2);(case k=>exact mem_kept (by assumption));(case g1=>exact mem_get (by assumption) (by k_mem));(case g2=>exact mem_get (by assumption) (by k_mem));(case n1=>exact mem_none (by assumption) (by k_mem));(case n2=>exact mem_none (by assumption) (by k_mem))))
theorem on_sio {prog:Program} (w:World) {gd:Option (List Code)} {outer:List Env} {h:Heap} {g:Array GenState} {d:Drawn} {t:Nat} {os:OsState} {Q E:Value→Shared→Prop}
    (X:(K2 w.params).In h)
    (hret:∀(a b:Nat) (h':Heap) (t':Nat),Kept h h'→h'.get? a=some (instObj 653 b)→h'.get? b=some (dictOf [] 0)→h.get? a=none→h.get? b=none→Q (.ref a) ⟨h',g,d,t',os⟩):
    wpAny (model prog w) (ar 600 5900 gd outer) (call (.builtin "object.__new__") [.ref 653]) Q E ⟨h,g,d,t,os⟩:=by
  x_run
end Mine
end
section
open PySem
namespace Mine
open Mine.Re
theorem spec_plain {u:List Nat} (h:Plain u):∀x∈u,spec x=false:=fun x hx=>by
  have:=h x hx
  simp [spec,this.1,this.2]
theorem es_len (l:List Nat):l.length≤(Es l).length∧(Es l).length≤2*l.length:=by
  induction l with
  | nil=>exact ⟨Nat.le_refl _,Nat.le_refl _⟩
  | cons c t ih=>by_cases h:c=34∨c=92<;>simp [Es,h]<;>omega
theorem subr_j:∀(n:Nat) (r pre l:List Nat),r.length≤n→l=pre++r→∃ps,SubR cJesc l (fun x=>92::x) pre.length ps∧ps.flatten=Es r∧ps.length≤2*r.length+1∧(ps.map (·.length)).sum=(Es r).length:=by
  intro n
  induction n with
  | zero=>
    intro r pre l hn hl
    obtain rfl:r=[]:=List.eq_nil_of_length_eq_zero (by omega)
    refine ⟨_, .done (b:=10) (by rw [hl];simp) (jesc_miss (u:=[]) (pre:=pre) (by rw [hl]) rfl (fun _ h=>nomatch h)) (by omega),?_⟩
    rw [if_neg (by rw [hl];simp)]
    exact ⟨rfl,by simp,rfl⟩
  | succ n ih=>
    intro r pre l hn hl
    obtain ⟨u,r',er,hu,hh,ee⟩:=plain_cut r
    rcases hh with rfl|⟨c,r'',rfl,hc⟩
    · rw [List.append_nil] at er;subst er
      refine ⟨_, .done (b:=10) (by rw [hl];simp) (jesc_miss (u:=r) (pre:=pre) (by rw [hl]) rfl (spec_plain hu)) (by omega),?_⟩
      have e0:Es r=r:=by rw [ee];simp [Es]
      by_cases h0:pre.length<l.length
      · rw [if_pos h0,hl,List.drop_left,e0]
        simp
      · rw [if_neg h0,e0]
        have:r=[]:=List.eq_nil_of_length_eq_zero (by have:=congrArg List.length hl;rw [List.length_append] at this;omega)
        subst this;simp
    · have hlen:r.length=u.length+(r''.length+1):=by rw [er];simp
      have hl2:l=(pre++u++[c])++r'':=by rw [hl,er];simp
      obtain ⟨ps,W,e1,e2,e3⟩:=ih r'' (pre++u++[c]) l (by omega) hl2
      have hp:(pre++u++[c]).length=pre.length+u.length+1:=by simp;omega
      have hll:l.length=pre.length+u.length+1+r''.length:=by rw [hl2,List.length_append,hp]
      have hsc:spec c=true:=by rcases hc with rfl|rfl<;>rfl
      have W':=SubR.hit (f:=fun x=>92::x) (C:=cJesc) (l:=l) (p:=pre.length) (S:=pre.length+u.length) (H:=pre.length+u.length+1) (a1:=pre.length+u.length) (b1:=pre.length+u.length+1) (b:=10) (ps:=ps)
        (by omega) (by omega) (by omega) (by omega) (by omega) (jesc_hit (c:=c) (u:=u) (pre:=pre) (rest:=r'') hsc (by rw [hl,er]) rfl (spec_plain hu)) (by omega) (by rw [←hp];exact W)
      have cut:(l.drop (pre.length+u.length)).take (pre.length+u.length+1 - (pre.length+u.length))=[c]:=by
        rw [hl2,show pre++u++[c]++r''=(pre++u)++([c]++r'') by simp,show pre.length+u.length=(pre++u).length by simp,List.drop_left,show (pre++u).length+1 - (pre++u).length=1 by omega]
        rfl
      have cut2:(l.drop pre.length).take (pre.length+u.length - pre.length)=u:=by
        rw [hl,er,List.drop_left,show pre.length+u.length - pre.length=u.length by omega];simp
      rw [cut,cut2] at W'
      refine ⟨_,W',?_⟩
      have eE:Es (u++c::r'')=u++92::c::Es r'':=by rw [←er,ee];simp [Es,hc]
      rw [er,eE]
      by_cases h0:pre.length<pre.length+u.length
      · rw [if_pos h0]
        refine ⟨by simp [e1],by simp;omega,by simp [e3];omega⟩
      · rw [if_neg h0]
        have:u=[]:=List.eq_nil_of_length_eq_zero (by omega)
        subst this
        refine ⟨by simp [e1],by simp;omega,by simp [e3];omega⟩
theorem subr_e:∀(n:Nat) (r pre l:List Nat),r.length≤n→(∀x∈r,x≠10)→l.length≤100000→l=pre++Es r→∃ps,SubR cEsc l (fun x=>x) pre.length ps∧ps.flatten=r∧ps.length≤2*r.length+1∧(ps.map (·.length)).sum=r.length:=by
  intro n
  induction n with
  | zero=>
    intro r pre l hn h10 hz hl
    obtain rfl:r=[]:=List.eq_nil_of_length_eq_zero (by omega)
    refine ⟨_, .done (b:=10) (by rw [hl];simp [Es]) (esc_miss (u:=[]) (pre:=pre) (by rw [hl];rfl) rfl (fun _ h=>nomatch h)) (by omega),?_⟩
    rw [if_neg (by rw [hl];simp [Es])]
    exact ⟨rfl,by simp,rfl⟩
  | succ n ih=>
    intro r pre l hn h10 hz hl
    obtain ⟨u,r',er,hu,hh,ee⟩:=plain_cut r
    have hu92:∀x∈u,x≠92:=fun x hx=>(hu x hx).2
    rcases hh with rfl|⟨c,r'',rfl,hc⟩
    · rw [List.append_nil] at er;subst er
      have e0:Es r=r:=by rw [ee];simp [Es]
      have hll:l.length=pre.length+r.length:=by rw [hl,e0];simp
      refine ⟨_, .done (b:=2*r.length+10) (by rw [hl];simp) (esc_miss (u:=r) (pre:=pre) (by rw [hl,e0]) rfl hu92) (by omega),?_⟩
      by_cases h0:pre.length<l.length
      · rw [if_pos h0,hl,List.drop_left,e0]
        simp
      · rw [if_neg h0]
        have:r=[]:=List.eq_nil_of_length_eq_zero (by omega)
        subst this;simp
    · have hlen:r.length=u.length+(r''.length+1):=by rw [er];simp
      have eE:Es r=u++92::c::Es r'':=by rw [ee];simp [Es,hc]
      have hl2:l=(pre++u++[92,c])++Es r'':=by rw [hl,eE];simp
      obtain ⟨ps,W,e1,e2,e3⟩:=ih r'' (pre++u++[92,c]) l (by omega) (fun x hx=>h10 x (by rw [er];exact List.mem_append_right _ (.tail _ hx))) hz hl2
      have hp:(pre++u++[92,c]).length=pre.length+u.length+2:=by simp;omega
      have hll:l.length=pre.length+u.length+2+(Es r'').length:=by rw [hl2,List.length_append,hp]
      have W':=SubR.hit (f:=fun x=>x) (C:=cEsc) (l:=l) (p:=pre.length) (S:=pre.length+u.length) (H:=pre.length+u.length+2) (a1:=pre.length+u.length+1) (b1:=pre.length+u.length+2) (b:=3*u.length+10) (ps:=ps)
        (by omega) (by omega) (by omega) (by omega) (by omega) (esc_hit (c:=c) (u:=u) (pre:=pre) (rest:=Es r'') (h10 c (by rw [er];simp)) (by rw [hl,eE]) rfl hu92) (by omega) (by rw [←hp];exact W)
      have cut:(l.drop (pre.length+u.length+1)).take (pre.length+u.length+2 - (pre.length+u.length+1))=[c]:=by
        rw [hl2,show pre++u++[92,c]++Es r''=(pre++u++[92])++([c]++Es r'') by simp,show pre.length+u.length+1=(pre++u++[92]).length by simp;omega,List.drop_left]
        have:pre.length+u.length+2 - (pre++u++[92]).length=1:=by simp;omega
        rw [this];rfl
      have cut2:(l.drop pre.length).take (pre.length+u.length - pre.length)=u:=by
        rw [hl,eE,List.drop_left,show pre.length+u.length - pre.length=u.length by omega];simp
      rw [cut,cut2] at W'
      refine ⟨_,W',?_⟩
      rw [er]
      by_cases h0:pre.length<pre.length+u.length
      · rw [if_pos h0]
        refine ⟨by simp [e1],by simp;omega,by simp [e3];omega⟩
      · rw [if_neg h0]
        have:u=[]:=List.eq_nil_of_length_eq_zero (by omega)
        subst this
        refine ⟨by simp [e1],by simp;omega,by simp [e3];omega⟩
end Mine
end
section
open PySem PySem.W PySem.W.X PyProof.Rows PySem.Calls
namespace Mine
section
variable {prog:Program} {w:World} {A:Around} {K:Frag} {p:Program} {loose:List Str} {mean:ExcName→Option Value} {mg mb:Str→Option Value} {s:Shared} {base:Heap} {outer:List Env} {chg:List (Addr × Obj)} {R:Result→Shared→Prop}
theorem own_enterC {name qual:Str} {params:Arguments} {body:List Stmt} {scope:Scope} {dV kV doc pm cdv ct oc:Value} {an od:Option Addr} {osl:Array (Option Value)} {f:Addr} {args:Args} {binds:List (Str × Value)}
    (Bw:Below A base outer (hideAll s.heap (chg.map (·.1)))) (hc:∀q∈chg,s.heap.get? q.1=some q.2) (X:K.In (hideAll s.heap (chg.map (·.1)))) (T:Top p loose mean mg mb (hideAll s.heap (chg.map (·.1))))
    (ho:K.lookup f=some ⟨oc,od, .func (fnOf name qual params body scope dV kV doc pm an cdv ct),osl⟩) (hcd:codeIn K cdv qual=true) (hroom:A.depth<recursionLimit)
    (hbind:BindsTo s (fnOf name qual params body scope dV kV doc pm an cdv ct) args binds)
    (hkind:(binds.all fun y=>scope.names.lookup y.1==some .local||scope.names.lookup y.1==some .cell)=true)
    (hnd:((cellsFrom 0 scope.names []).map (·.1)).Nodup)
    (h:∀g L' h₁ tk cells,g=hideAll s.heap (chg.map (·.1))→L'=s.heap.objs.size→Fr g L' h₁ (bindL (envOfC qual scope L' f cdv).kindOf binds fun _=>none)→News g L' h₁ (cells++chg)→
      CellsAre (bindC (envOfC qual scope L' f cdv).kindOf binds fun _=>none) (cellsFrom (L'+1) scope.names []) cells→Below A base outer g→K.In g→Top p loose mean mg mb g→(∀q∈chg,q.1<L')→
      wpAny (model prog w) (A.deeper (envOfC qual scope L' f cdv)) (execs body (envOfC qual scope L' f cdv))
        (fun fl s'=>R (.ok (.ret (match fl with| .ret v=>v|_=> .none))) s')
        (fun e s'=>wpAny (model prog w) (A.deeper (envOfC qual scope L' f cdv)) (leaving (envOfC qual scope L' f cdv) e) (fun _ s''=>R (.error e) s'') (fun e' s''=>R (.error e') s'') s')
        {s with heap:=h₁,toks:=tk})
    (hco:scope.isCoroutine=false) (hgen:scope.isGenerator=false) (hk:scope.kind= .function):codeAny (model prog w) A (.call (.ref f) args) R s:=by
  have up:Kept (hideAll s.heap (chg.map (·.1))) s.heap:=fun b o e=>of_hideAll _ e
  refine codeAny_call_function hroom (up _ _ (X _ _ ho)) rfl hco hgen rfl (codeRec_of (X.keeps up) hcd) (hbind _ _ _ _ ?_)
  refine wpAny_newFunctionEnv_cells hk (kindsX hkind _) fun env' he s' x=>?_
  subst he
  refine ⟨(T.nolimit.keeps up).keeps x.toInCall.keep,codeAny_func ?_⟩
  obtain ⟨h₁,tk,rfl,_⟩:=x.done
  have hk₁:=x.toInCall.keep
  obtain ⟨cells,NC,Y⟩:=Cl.news (h₀:=s.heap) (Nat.le_refl _) fun n c hm=>⟨x.cell n c (lookup_of_mem_nodup (cellsFrom_names scope.names 0 (s.heap.objs.size+1) [] [] rfl▸hnd) hm),x.above n c hm⟩
  refine wpAny_mono (h _ s.heap.objs.size h₁ tk cells rfl rfl ⟨x.toInCall.ns,fun b o e=>hk₁ b o (of_hideAll _ e),Nat.le_of_eq (hideAll_size _ _)⟩ (fun q hq=>?_) Y Bw X T (fun q hq=>Heap.lt_size (hc q hq))) (fun _ _ x=>x) fun _ _ y=>y
  rcases List.mem_append.mp hq with hq|hq
  · refine ⟨(NC q hq).1,(NC q hq).2.1,?_⟩
    cases z:(hideAll s.heap (chg.map (·.1))).get? q.1 with
    | none=>rfl
    | some o=>have:=of_hideAll _ z;rw [(NC q hq).2.2] at this;cases this
  · exact ⟨hk₁ _ _ (hc q hq),Nat.ne_of_lt (Heap.lt_size (hc q hq)),hideAll_none _ (List.mem_map_of_mem hq)⟩
end
end Mine
end
end
open Mine
local macro_rules | `(tactic|walk_at "eval Name")=> `(tactic|(k_here;k_dflt (refine' Mine.nmL ?F ?v ?_ ?k;(case F=>k_asm);(case k=>exact rfl);(case v=>exact Eq.refl (some _));k_whole)))
local macro_rules | `(tactic|walk_at "spliced")=> `(tactic|(k_here;k_dflt (refine' Mine.pxs_args ?F ?v ?_;(case F=>k_asm);(case v=>exact Eq.refl (some _));k_whole);(try dsimp only [List.cons_append,List.nil_append])))
local macro_rules | `(tactic|walk_at "callWith")=> `(tactic|(k_here;k_dflt (refine' Mine.call_b ?F ?v ?_ ?a ?b;(case F=>k_asm);(case a=>exact rfl);(case b=>exact rfl);(case v=>exact Eq.refl (some _));k_whole)))
local macro_rules | `(tactic|walk_at "callWith ref")=> `(tactic|(k_here;k_dflt (refine' Mine.call_r ?X ?k ?F ?v ?_ ?a ?b;(case X=>k_asm);(case F=>k_asm);(case k=>k_is);(case a=>exact rfl);(case b=>exact rfl);(case v=>exact Eq.refl (some _));k_whole)))
local macro_rules | `(tactic|walk_at "storeName")=> `(tactic|(k_here;k_dflt (refine' Mine.st_L ?F ?N ?k ?_;(case F=>k_asm);(case N=>k_asm);(case k=>exact rfl);k_whole;intro m' h' F' N';(try k_sweep))))
local macro_rules | `(tactic|walk_at "eval List")=> `(tactic|(k_here;k_dflt (refine' Mine.list_p ?F ?N ?v ?z ?_;(case F=>k_asm);(case N=>k_asm);(case v=>exact Eq.refl (some _));(case z=>exact rfl);k_whole);intro l' nw' h' F' N' l1;(try k_sweep)))
local macro_rules | `(tactic|walk_at "eval Tuple")=> `(tactic|(k_here;k_dflt (refine' Mine.tup_p ?F ?N ?v ?z ?_;(case F=>k_asm);(case N=>k_asm);(case v=>exact Eq.refl (some _));(case z=>exact rfl);k_whole);intro l' nw' h' F' N' l1;(try k_sweep)))
local macro_rules | `(tactic|walk_at "newList")=> `(tactic|(k_here;k_dflt (refine' Mine.newl ?F ?N ?z ?_;(case F=>k_asm);(case N=>k_asm);(case z=>exact rfl);k_whole);intro l' nw' h' F' N' l1;(try k_sweep)))
local macro_rules | `(tactic|walk_at "newTuple")=> `(tactic|(k_here;k_dflt (refine' Mine.newt ?F ?N ?z ?_;(case F=>k_asm);(case N=>k_asm);(case z=>exact rfl);k_whole);intro l' nw' h' F' N' l1;(try k_sweep)))
set_option hygiene false
local macro_rules | `(tactic|k_ne)=> `(tactic|first|(first|with_reducible assumption|exact Mine.lt_ne (by with_reducible assumption) (by k_mem)|exact Mine.allNe_mem (by with_reducible assumption) (by k_mem))|(refine Ne.symm ?_;(first|with_reducible assumption|exact Mine.lt_ne (by with_reducible assumption) (by k_mem)|exact Mine.allNe_mem (by with_reducible assumption) (by k_mem)))|decide|(first|(apply And.left;((iterate 14 (first|done|with_reducible assumption|apply And.right));done))|((iterate 14 (first|done|with_reducible assumption|apply And.right));done))|(refine Ne.symm ?_;(first|(apply And.left;((iterate 14 (first|done|with_reducible assumption|apply And.right));done))|((iterate 14 (first|done|with_reducible assumption|apply And.right));done)))|(refine neN ?_;(try dsimp only);omega))
local macro_rules | `(tactic|k_lt $_h)=> `(tactic|skip)
local macro_rules | `(tactic|walk_at "execs cons")=> `(tactic|(k_here;first|k_fold|((with_reducible refine Mine.execs_q ?_);intro Q9 T9 tk9;try dsimp only)))
local macro_rules | `(tactic|kc_close)=> `(tactic|(rename Mine.Then _ _ _ _ _ _ _=>T8;first|((with_reducible refine T8.nx _ ?_);clear T8)|((with_reducible refine T8.rt _ _ ?_);clear T8)|((with_reducible refine T8.bk _ ?_);clear T8)|((with_reducible refine T8.ct _ ?_);clear T8)|(with_reducible refine Mine.Then.nx (by assumption) _ ?_)))
local macro_rules | `(tactic|k_room)=> `(tactic|exact Nat.le_of_ble_eq_true rfl)
section
open PySem PySem.W PySem.W.X PyProof.Rows PySem.Calls
variable {gd:Option (List Code)} {outer:List Env} {base:Heap} {mean:ExcName→Option Value} {mg mb:Str→Option Value} {loose:List Str} {s:Shared} {Q E:Value→Shared→Prop}
section
local macro_rules | `(tactic|omega)=> `(tactic|first|decide|lia)
section
namespace Mine
variable {j0 j1 j2:Int}
theorem c_rd (w:World) {io id xt pt it k u0 u1 u2 u3:Nat} {l:List Nat} {pv:Program}
    (Bw:Below (ar 700 7000 gd outer) base outer (hideAll s.heap [io,id])) (X:(K w.params).In (hideAll s.heap [io,id])) (T:Top pv loose mean mg mb (hideAll s.heap [io,id]))
    (hg0:s.heap.get? io=some (instObj 653 id)) (hg1:s.heap.get? id=some (ioD j0 j1 j2 u0 u1 u2 u3 (tx l) xt (k:Int) pt)) (hne:io≠id) (hx:l.length≤20000) (hk:k≤l.length)
    (hret:∀c h' tk' t' u3' pt',l[k]?=some c→(∀b o,b ∉ [io,id]→s.heap.get? b=some o→h'.get? b=some o)→h'.get? io=some (instObj 653 id)→h'.get? id=some (ioD j0 j1 j2 u0 u1 u2 u3' (tx l) xt ((k:Int)+1) pt')→Q (.str (tx [c]) t') {s with heap:=h',toks:=tk'})
    (hend:∀h' tk' t',k=l.length→(∀b o,b ∉ [io,id]→s.heap.get? b=some o→h'.get? b=some o)→h'.get? io=some (instObj 653 id)→h'.get? id=some (ioD j0 j1 j2 u0 u1 u2 u3 (tx l) xt (k:Int) pt)→Q (.str "" t') {s with heap:=h',toks:=tk'}):
    wpAny (model pw_il0090_01 w) (ar 700 7000 gd outer) (call (.ref 599) [.ref io, .int 1 it]) Q E s:=by
  have eK:rw_il0090_01=rw_il0090_01:=rfl
  revert eK X
  k_fill
  intro X eK
  refine wpAny_call ?_
  k_dflt (refine' own_enter (chg:=[(io,instObj 653 id),(id,ioD j0 j1 j2 u0 u1 u2 u3 (tx l) xt (k:Int) pt)]) ?k1 ?k2 ?k3 ?k4 ?k6 ?k7 ?k8 ?k9 ?kB ?_ ?c2 ?c3 ?c4 ?c5;(case k1=>exact Bw);(case k2=>intro q hq;simp only [List.mem_cons,List.not_mem_nil,or_false] at hq;rcases hq with rfl|rfl;exact hg0;exact hg1);(case k3=>exact X);(case k4=>exact T);(case k6=>k_is);(case k7=>k_is);(case k8=>exact Nat.le_of_ble_eq_true rfl);(case k9=>first|exact BindsTo.of_eq rfl|exact binds_K (Frag.In.keeps X fun b o e=>of_hideAll _ e) rfl (by k_is) rfl rfl rfl);(case c5=>decide);(case kB=>exact locs rfl);(case c2=>exact rfl);(case c3=>exact rfl);(case c4=>exact rfl);k_whole;intro g' L' h' hg' hL' F' N' B' X' T' hlt';(try dsimp only);(try k_fold))
  have hxl:=tx_len l
  (try (refine let_ctx ?_;intro A9 e9))
  repeat' (first|(k_unfold;(try dsimp only))|(k_end;kc_close)|walk1|(dsimp only;walk1)|(leave1;(try dsimp only)))
  all_goals first
    | (with_reducible show Q (Value.str (Txt.slice _ _ _) _) _
       have hl:k<l.length:=by omega
       obtain ⟨c,hc⟩:∃c,l[k]?=some c:=⟨_,List.getElem?_eq_getElem hl⟩
       have e9:=slice_one hc
       first|rw [e9]|(have e8:(((tx l).length:Nat):Int)=(k:Int)+1:=(by omega);rename News _ _ _ _=>N9;rw [e8] at N9;rw [e8,e9])
       exact hret _ _ _ _ _ _ hc (kept_hide hg' (by assumption)) (News.get (by assumption) (by k_mem)) (News.get (by assumption) (by k_mem)))
    | exact hend _ _ _ (by omega) (kept_hide hg' (by assumption)) (News.get (by assumption) (by k_mem)) (News.get (by assumption) (by k_mem))
theorem c_read (w:World) {io id xt pt it c k u0 u1 u2 u3:Nat} {l:List Nat} {pv:Program}
    (Bw:Below (ar 700 7000 gd outer) base outer (hideAll s.heap [io,id])) (X:(K w.params).In (hideAll s.heap [io,id])) (T:Top pv loose mean mg mb (hideAll s.heap [io,id]))
    (hg0:s.heap.get? io=some (instObj 653 id)) (hg1:s.heap.get? id=some (ioD j0 j1 j2 u0 u1 u2 u3 (tx l) xt (k:Int) pt)) (hne:io≠id) (hx:l.length≤20000) (hc:l[k]?=some c)
    (hret:∀h' tk' t' u3' pt',(∀b o,b ∉ [io,id]→s.heap.get? b=some o→h'.get? b=some o)→h'.get? io=some (instObj 653 id)→h'.get? id=some (ioD j0 j1 j2 u0 u1 u2 u3' (tx l) xt ((k:Int)+1) pt')→Q (.str (tx [c]) t') {s with heap:=h',toks:=tk'}):
    wpAny (model pw_il0090_01 w) (ar 700 7000 gd outer) (call (.ref 599) [.ref io, .int 1 it]) Q E s:=
  c_rd w Bw X T hg0 hg1 hne hx (Nat.le_of_lt (List.getElem?_eq_some_iff.mp hc).1) (fun c' h' tk' t' u3' pt' hc' k0 k1 k2=>by rw [hc] at hc';cases hc';exact hret h' tk' t' u3' pt' k0 k1 k2) fun _ _ _ e=>absurd e (Nat.ne_of_lt (List.getElem?_eq_some_iff.mp hc).1)
theorem c_readE (w:World) {io id xt pt it u0 u1 u2 u3:Nat} {l:List Nat} {pv:Program}
    (Bw:Below (ar 700 7000 gd outer) base outer (hideAll s.heap [io,id])) (X:(K w.params).In (hideAll s.heap [io,id])) (T:Top pv loose mean mg mb (hideAll s.heap [io,id]))
    (hg0:s.heap.get? io=some (instObj 653 id)) (hg1:s.heap.get? id=some (ioD j0 j1 j2 u0 u1 u2 u3 (tx l) xt (l.length:Int) pt)) (hne:io≠id) (hx:l.length≤20000)
    (hret:∀h' tk' t',(∀b o,b ∉ [io,id]→s.heap.get? b=some o→h'.get? b=some o)→h'.get? io=some (instObj 653 id)→h'.get? id=some (ioD j0 j1 j2 u0 u1 u2 u3 (tx l) xt (l.length:Int) pt)→Q (.str "" t') {s with heap:=h',toks:=tk'}):
    wpAny (model pw_il0090_01 w) (ar 700 7000 gd outer) (call (.ref 599) [.ref io, .int 1 it]) Q E s:=
  c_rd w Bw X T hg0 hg1 hne hx (Nat.le_refl _) (fun c' h' tk' t' u3' pt' hc'=>absurd (List.getElem?_eq_some_iff.mp hc').1 (Nat.lt_irrefl _)) fun h' tk' t' _ k0 k1 k2=>hret h' tk' t' k0 k1 k2
end Mine
end
section
namespace Mine
variable {j0 j1 j2:Int}
section
variable {w:World} {A A₀:Around} {base h₀:Heap} {env:Env} {outer:List Env} {L:Addr} {pv:Program} {m mg mb:Str→Option Value} {mean:ExcName→Option Value} {loose:List Str} {news:List (Addr × Obj)} {s:Shared} {Q E:Value→Shared→Prop}
theorem upd_news {h h':Heap} {news:List (Addr × Obj)} {G:Obj→List (Addr × Obj)} {io id:Nat} {oi o o':Obj} (F:Fr h₀ L h m) (N:News h₀ L h news) (m1:(io,oi)∈news) (U:UpdF id o news G)
    (k:∀b x,b ∉ [io,id]→h.get? b=some x→h'.get? b=some x) (k1:h'.get? io=some oi) (k2:h'.get? id=some o'):Fr h₀ L h' m∧News h₀ L h' (G o'):=by
  obtain ⟨pre,post,rfl,hG,n1,n2⟩:=U.split
  have mid:(id,o)∈pre++(id,o)::post:=List.mem_append_right _ (.head _)
  obtain ⟨F',nw,ol⟩:=mut_side (ads:=[io,id]) F N (fun a ha=>by
    simp only [List.mem_cons,List.not_mem_nil,or_false] at ha
    rcases ha with rfl|rfl
    · exact ⟨_,m1⟩
    · exact ⟨_,mid⟩) k
  refine ⟨F',?_⟩
  rw [hG]
  have old:∀q∈pre++(id,o)::post,q.1≠id→h'.get? q.1=some q.2∧q.1≠L∧h₀.get? q.1=none:=by
    intro q hq hn
    by_cases hio:q.1=io
    · refine ⟨?_,(N q hq).2⟩
      have e1:=(N q hq).1
      have e2:=(N _ m1).1
      rw [hio] at e1 ⊢
      rw [e2] at e1
      rw [k1];exact e1
    · exact ⟨k _ _ (by simp [hio,hn]) (N q hq).1,(N q hq).2⟩
  intro q hq
  rcases List.mem_append.mp hq with hq|hq
  · exact old q (List.mem_append_left _ hq) (n1 q hq)
  · rcases List.mem_cons.mp hq with rfl|hq
    · exact ⟨k2,(N _ mid).2⟩
    · exact old q (List.mem_append_right _ (.tail _ hq)) (n2 q hq)
theorem use_read {G:Obj→List (Addr × Obj)} {io id xt pt it c k u0 u1 u2 u3:Nat} {l:List Nat} (F:Fr h₀ L s.heap m) (N:News h₀ L s.heap news) (X:(K w.params).In h₀) (T:Top pv loose mean mg mb h₀) (B:Below A₀ base outer h₀) (hA:A.frames=some (env::outer)) (hf:env.frame=some L) (hke:env.scope.kind= .function) (hh:A.handled=none) (hd:Nat.ble A.depth 700=true) (hu:Nat.ble A.units 7000=true) (m1:(io,instObj 653 id)∈news) (U:UpdF id (ioD j0 j1 j2 u0 u1 u2 u3 (tx l) xt (k:Int) pt) news G) (hne:io≠id) (hx:l.length≤20000) (hc:l[k]?=some c) (ret:∀h' tk' t' u3' pt',Fr h₀ L h' m→News h₀ L h' (G (ioD j0 j1 j2 u0 u1 u2 u3' (tx l) xt ((k:Int)+1) pt'))→Q (.str (tx [c]) t') {s with heap:=h',toks:=tk'}):
    wpAny (model pw_il0090_01 w) A (call (.ref 599) [.ref io, .int 1 it]) Q E s:=by
  obtain ⟨pre,post,e,hG,n1,n2⟩:=U.split
  have mid:(id,ioD j0 j1 j2 u0 u1 u2 u3 (tx l) xt (k:Int) pt)∈news:=by rw [e];exact List.mem_append_right _ (.head _)
  have N2:News h₀ L s.heap [(io,instObj 653 id),(id,ioD j0 j1 j2 u0 u1 u2 u3 (tx l) xt (k:Int) pt)]:=fun q hq=>by
    simp only [List.mem_cons,List.not_mem_nil,or_false] at hq
    rcases hq with rfl|rfl
    · exact N _ m1
    · exact N _ mid
  obtain ⟨_,BG,st,_⟩:=groundX (R:=fun _ _=>True) B F N2 hA hf hke
  refine weaken (A':=ar 700 7000 A.guards (env::outer)) hh (Nat.le_of_ble_eq_true hd) hA.symm rfl (Nat.le_of_ble_eq_true hu) ?_
  refine c_read w ⟨rfl,BG.stays,BG.frames⟩ (X.keeps st) (T.keeps st) (N _ m1).1 (N _ mid).1 hne hx hc fun h' tk' t' u3' pt' k0 k1 k2=>?_
  obtain ⟨F',N'⟩:=upd_news F N m1 U k0 k1 k2
  exact ret h' tk' t' u3' pt' F' N'
theorem use_readE {G:Obj→List (Addr × Obj)} {io id xt pt it u0 u1 u2 u3:Nat} {l:List Nat} (F:Fr h₀ L s.heap m) (N:News h₀ L s.heap news) (X:(K w.params).In h₀) (T:Top pv loose mean mg mb h₀) (B:Below A₀ base outer h₀) (hA:A.frames=some (env::outer)) (hf:env.frame=some L) (hke:env.scope.kind= .function) (hh:A.handled=none) (hd:Nat.ble A.depth 700=true) (hu:Nat.ble A.units 7000=true) (m1:(io,instObj 653 id)∈news) (U:UpdF id (ioD j0 j1 j2 u0 u1 u2 u3 (tx l) xt (l.length:Int) pt) news G) (hne:io≠id) (hx:l.length≤20000) (ret:∀h' tk' t',Fr h₀ L h' m→News h₀ L h' (G (ioD j0 j1 j2 u0 u1 u2 u3 (tx l) xt (l.length:Int) pt))→Q (.str "" t') {s with heap:=h',toks:=tk'}):
    wpAny (model pw_il0090_01 w) A (call (.ref 599) [.ref io, .int 1 it]) Q E s:=by
  obtain ⟨pre,post,e,hG,n1,n2⟩:=U.split
  have mid:(id,ioD j0 j1 j2 u0 u1 u2 u3 (tx l) xt (l.length:Int) pt)∈news:=by rw [e];exact List.mem_append_right _ (.head _)
  have N2:News h₀ L s.heap [(io,instObj 653 id),(id,ioD j0 j1 j2 u0 u1 u2 u3 (tx l) xt (l.length:Int) pt)]:=fun q hq=>by
    simp only [List.mem_cons,List.not_mem_nil,or_false] at hq
    rcases hq with rfl|rfl
    · exact N _ m1
    · exact N _ mid
  obtain ⟨_,BG,st,_⟩:=groundX (R:=fun _ _=>True) B F N2 hA hf hke
  refine weaken (A':=ar 700 7000 A.guards (env::outer)) hh (Nat.le_of_ble_eq_true hd) hA.symm rfl (Nat.le_of_ble_eq_true hu) ?_
  refine c_readE w ⟨rfl,BG.stays,BG.frames⟩ (X.keeps st) (T.keeps st) (N _ m1).1 (N _ mid).1 hne hx fun h' tk' t' k0 k1 k2=>?_
  obtain ⟨F',N'⟩:=upd_news F N m1 U k0 k1 k2
  exact ret h' tk' t' F' N'
end
section
variable {prog:Program} {w:World} {A:Around} {E:Value→Shared→Prop} {s:Shared} {x y:Str} {t u:Nat} {b:Bool} {Q:Value→Shared→Prop}
theorem eq_b (e:(x==y)=b) (h:Q (.bool b) s):wpAny (model prog w) A (compareOp .Eq (.str x t) (.str y u)) Q E s:=eq_str (by rw [e];exact h)
theorem notIn_b (e:(!(!(Builtin.Str.occurrences x y 0 x.length 1).isEmpty))=b) (h:Q (.bool b) s):wpAny (model prog w) A (compareOp .NotIn (.str y u) (.str x t)) Q E s:=notIn_str (by rw [e];exact h)
theorem in_b (e:(!(Builtin.Str.occurrences x y 0 x.length 1).isEmpty)=b) (h:Q (.bool b) s):wpAny (model prog w) A (compareOp .In (.str y u) (.str x t)) Q E s:=in_str (by rw [e];exact h)
end
theorem truthy_tx {prog:Program} {w:World} {A:Around} {E:Value→Shared→Prop} {s:Shared} {l:List Nat} {t:Nat} {Q:Bool→Shared→Prop} (h1:1≤l.length) (h2:l.length≤20000) (h:∀k,Q true {s with toks:=k}):wpAny (model prog w) A (PySem.truthy (.str (tx l) t)) Q E s:=
  KXt.truthy_pos (K:=20000) (by rw [tx_len];exact h1) (by rw [tx_len];exact h2) (Nat.le_of_ble_eq_true rfl) h
noncomputable abbrev RM (nx:Option Value) (es:Str) (te:Nat) (q:Bool) (lx:Nat):Str→Option Value:=fun y=>if y=(.ofString "nextchar":Str) then nx else if y=(.ofString "escapedstate":Str) then some (.str es te) else if y=(.ofString "quoted":Str) then some (.bool q) else if y=(.ofString "self":Str) then some (.ref lx) else none
theorem rm_norm {m:Str→Option Value} {nx:Option Value} {es:Str} {te:Nat} {q:Bool} {lx:Nat} (h1:m "nextchar"=nx) (h2:m "escapedstate"=some (.str es te)) (h3:m "quoted"=some (.bool q)) (h4:m "self"=some (.ref lx))
    (h5:∀y,y≠(.ofString "nextchar":Str)→y≠(.ofString "escapedstate":Str)→y≠(.ofString "quoted":Str)→y≠(.ofString "self":Str)→m y=none):m=RM nx es te q lx:=by
  funext y
  by_cases a:y=(.ofString "nextchar":Str)
  · rw [a,h1];rfl
  by_cases b:y=(.ofString "escapedstate":Str)
  · rw [b,h2];rfl
  by_cases c:y=(.ofString "quoted":Str)
  · rw [c,h3];rfl
  by_cases d:y=(.ofString "self":Str)
  · rw [d,h4];rfl
  rw [h5 y a b c d]
  simp only [RM,if_neg a,if_neg b,if_neg c,if_neg d]
theorem fr_norm {g h:Heap} {L:Addr} {m:Str→Option Value} {nx:Option Value} {es:Str} {te:Nat} {q:Bool} {lx:Nat} (F:Fr g L h m) (h1:m "nextchar"=nx) (h2:m "escapedstate"=some (.str es te)) (h3:m "quoted"=some (.bool q)) (h4:m "self"=some (.ref lx))
    (h5:∀y,y≠(.ofString "nextchar":Str)→y≠(.ofString "escapedstate":Str)→y≠(.ofString "quoted":Str)→y≠(.ofString "self":Str)→m y=none):Fr g L h (RM nx es te q lx):=rm_norm h1 h2 h3 h4 h5▸F
noncomputable abbrev lexL (P:Params) (j0 j1 j2:Int) (t:Nat→Nat) (lx ld io id pb fs:Nat) (u0 u1 u2 u3:Nat) (l:List Nat) (xt:Nat) (st tok:Value) (k:Int) (pt:Nat):List (Addr × Obj):=
  [(lx,instObj 788 ld),(ld,lexD P t io pb fs true "" st tok),(io,instObj 653 id),(id,ioD j0 j1 j2 u0 u1 u2 u3 (tx l) xt k pt)]
theorem lex_out {g h:Heap} {L:Addr} {news:List (Addr × Obj)} {P:Params} {t:Nat→Nat} {lx ld io id pb fs u0 u1 u2 u3 xt pt:Nat} {l:List Nat} {st tok:Value} {k:Int} (N:News g L h news)
    (m1:(lx,instObj 788 ld)∈news) (m2:(ld,lexD P t io pb fs true "" st tok)∈news) (m3:(io,instObj 653 id)∈news) (m4:(id,ioD j0 j1 j2 u0 u1 u2 u3 (tx l) xt k pt)∈news):News g L h (lexL P j0 j1 j2 t lx ld io id pb fs u0 u1 u2 u3 l xt st tok k pt):=fun q hq=>by
  simp only [List.mem_cons,List.not_mem_nil,or_false] at hq
  rcases hq with rfl|rfl|rfl|rfl
  · exact N _ m1
  · exact N _ m2
  · exact N _ m3
  · exact N _ m4
end Mine
end
section
namespace Mine
inductive PV|none|bool (b:Bool)|int (i:Int)|str (z:Str)|tok (l:List Nat) (b:Nat) (ne:Bool)|chr (c:Nat) (no:List Nat)|ref (a:Addr)
noncomputable def toV:PV→Nat→Value
  | .none,_=> .none
  | .bool b,_=> .bool b
  | .int i,t=> .int i t
  | .str z,t=> .str z t
  | .tok l _ _,t=> .str (tx l) t
  | .chr c _,t=> .str (tx [c]) t
  | .ref a,_=> .ref a
noncomputable def good:PV→Prop
  | .tok l b ne=>l.length≤b∧(ne=true→1≤l.length)
  | .chr c no=>∀d∈no,c≠d
  | _=>True
structure Sl where
  x:Str
  kt:Option Nat
  p:PV
  t:Option Nat
structure Sg where
  vs:List Sl
  as:List Sl
noncomputable def fit (o:Option Nat) (t:Nat):Prop:=o.getD t=t
noncomputable def look (y:Str):List Sl→Option Sl
  | []=>none
  | s::r=>cond (s.x==y) (some s) (look y r)
noncomputable def setS (y:Str) (p:PV):List Sl→List Sl
  | []=>[⟨y,none,p,none⟩]
  | s::r=>cond (s.x==y) (⟨s.x,s.kt,p,none⟩::r) (s::setS y p r)
section
variable {y:Str} {p:PV} {s:Sl} {r:List Sl}
theorem look_t (e:(s.x==y)=true):look y (s::r)=some s:=by show cond _ _ _=_;rw [e];rfl
theorem look_f (e:(s.x==y)=false):look y (s::r)=look y r:=by show cond _ _ _=_;rw [e];rfl
theorem set_t (e:(s.x==y)=true):setS y p (s::r)=⟨s.x,s.kt,p,none⟩::r:=by show cond _ _ _=_;rw [e];rfl
theorem set_f (e:(s.x==y)=false):setS y p (s::r)=s::setS y p r:=by show cond _ _ _=_;rw [e];rfl
end
noncomputable def EnR (P:Params) (es:List DictEntry):List Sl→Prop
  | []=>es=[]
  | s::ss=>∃a b r,(fit s.kt a∧fit s.t b∧good s.p)∧es=enK P s.x a (toV s.p b)::r∧EnR P r ss
noncomputable def MpR (m:Str→Option Value) (vs:List Sl):Prop:=∀y s,look y vs=some s→(∃b,fit s.t b∧m y=some (toV s.p b))∧good s.p
theorem mp_set {m:Str→Option Value} {y:Str} {p:PV} {t:Nat} {vs:List Sl} (hp:good p) (h:MpR m vs):MpR (fun a=>if a=y then some (toV p t) else m a) (setS y p vs):=by
  intro z s hs
  by_cases e:z=y
  · subst e
    have key:∃x kt,look z (setS z p vs)=some ⟨x,kt,p,none⟩:=by
      clear h hs
      induction vs with
      | nil=>exact ⟨_,_,look_t (beq_self_eq_true _)⟩
      | cons q r ih=>
        cases e:q.x==z with
        | true=>rw [set_t e];exact ⟨_,_,look_t e⟩
        | false=>rw [set_f e,look_f e];exact ih
    obtain ⟨x,kt,hk⟩:=key
    rw [hk] at hs
    cases hs
    exact ⟨⟨t,rfl,if_pos rfl⟩,hp⟩
  · have key:look z (setS y p vs)=look z vs:=by
      clear h hs
      have e1:(y==z)=false:=beq_eq_false_iff_ne.mpr (Ne.symm e)
      induction vs with
      | nil=>exact look_f e1
      | cons q r ih=>
        cases e2:q.x==y with
        | true=>rw [set_t e2,look_f (by rw [eq_of_beq e2];exact e1),look_f (by rw [eq_of_beq e2];exact e1)]
        | false=>
          rw [set_f e2]
          cases e3:q.x==z with
          | true=>rw [look_t e3,look_t e3]
          | false=>rw [look_f e3,look_f e3];exact ih
    rw [key] at hs
    obtain ⟨⟨b,hb,hm⟩,hg⟩:=h z s hs
    exact ⟨⟨b,hb,(if_neg e).trans hm⟩,hg⟩
section
variable {P:Params} {y:Str} {p:PV} {t u:Nat} {as:List Sl}
theorem enr_len:∀{es:List DictEntry},EnR P es as→es.length=as.length:=by
  induction as with
  | nil=>intro es h;rw [show es=[] from h];rfl
  | cons s r ih=>rintro _ ⟨_,_,_,_,rfl,h⟩;exact congrArg (·+1) (ih h)
theorem enr_get {s:Sl}:∀{es:List DictEntry},EnR P es as→look y as=some s→∃b,good s.p∧getL y es=some (some (toV s.p b)):=by
  induction as with
  | nil=>intro es _ h;exact nomatch h
  | cons q r ih=>
    rintro _ ⟨_,b,es,⟨_,_,hg⟩,rfl,h⟩ hl
    have fc:∀{c:Bool} {a:Nat},(q.x==y)=c→getL y (enK P q.x a (toV q.p b)::es)=cond c (some (some (toV q.p b))) (getL y es):=by
      intro c a e
      show (match (match Value.isStr (.str q.x a) y with|true=>some _|false=>List.find? _ es) with|some e=>some (some e.val)|none=>_)=_
      rw [show Value.isStr (.str q.x a) y=c from e]
      cases c with
      | true=>rfl
      | false=>rfl
    cases e:q.x==y with
    | true=>rw [look_t e] at hl;cases hl;exact ⟨b,hg,fc e⟩
    | false=>rw [look_f e] at hl;obtain ⟨b',hg',h'⟩:=ih h hl;exact ⟨b',hg',(fc e).trans h'⟩
theorem enr_some:∀{es:List DictEntry},EnR P es as→(getL y es).isSome=true:=by
  induction as with
  | nil=>intro es h;rw [show es=[] from h];rfl
  | cons q r ih=>
    rintro _ ⟨_,b,es,_,rfl,h⟩
    show (Option.isSome (match (match Value.isStr (.str q.x _) y with|true=>some _|false=>List.find? _ es) with|some e=>some (some e.val)|none=>_))=true
    cases Value.isStr (.str q.x _) y with
    | true=>rfl
    | false=>exact ih h
theorem enr_put (hp:good p):∀{es:List DictEntry},EnR P es as→EnR P (putL y (PyData.keyHash P y) (.str y t) (toV p u) es) (setS y p as):=by
  induction as with
  | nil=>intro es h;rw [show es=[] from h];exact ⟨t,u,_,⟨rfl,rfl,hp⟩,rfl,rfl⟩
  | cons s r ih=>
    rintro _ ⟨a,b,es,hs,rfl,h⟩
    show EnR P (if Value.isStr (.str s.x a) y then _ else _) _
    cases e:s.x==y with
    | true=>rw [show Value.isStr (.str s.x a) y=true from e,set_t e];exact ⟨a,u,_,⟨hs.1,rfl,hp⟩,rfl,h⟩
    | false=>rw [show Value.isStr (.str s.x a) y=false from e,set_f e];exact ⟨a,b,_,hs,rfl,ih h⟩
theorem enr_putN:∀{es:List DictEntry} (n:Nat),EnR P es as→putN y es (n+as.length)=n+(setS y p as).length:=by
  induction as with
  | nil=>intro es n h;rw [show es=[] from h];rfl
  | cons s r ih=>
    rintro _ n ⟨a,b,es,_,rfl,h⟩
    show (if (Value.isStr (.str s.x a) y||es.any _) then _ else _)=_
    cases e:s.x==y with
    | true=>rw [show Value.isStr (.str s.x a) y=true from e,set_t e];rfl
    | false=>
      rw [show Value.isStr (.str s.x a) y=false from e,set_f e,Bool.false_or]
      have:=ih (n+1) h
      rw [Nat.add_assoc,Nat.add_assoc,Nat.add_comm 1,Nat.add_comm 1] at this
      exact this
end
noncomputable def ents (P:Params):List Sl→(Nat→Nat)→List DictEntry
  | [],_=>[]
  | s::r,τ=>enK P s.x (s.kt.getD (τ 0)) (toV s.p (s.t.getD (τ 1)))::ents P r fun i=>τ (i+2)
theorem enr_ents {P:Params} {as:List Sl}:∀{es:List DictEntry},EnR P es as→∃τ,es=ents P as τ:=by
  induction as with
  | nil=>intro es h;exact ⟨fun i=>i,h⟩
  | cons s r ih=>
    rintro _ ⟨a,b,es,⟨h1,h2,_⟩,rfl,h⟩
    obtain ⟨τ,e⟩:=ih h
    refine ⟨fun i=>Nat.casesOn i a fun i=>Nat.casesOn i b τ,?_⟩
    show _=enK P s.x (s.kt.getD a) (toV s.p (s.t.getD b))::ents P r τ
    rw [h1,h2,e]
theorem ents_enr {P:Params} {as:List Sl}:∀{τ:Nat→Nat},(∀s∈as,good s.p)→EnR P (ents P as τ) as:=by
  induction as with
  | nil=>intro τ _;exact rfl
  | cons s r ih=>intro τ h;exact ⟨_,_,_,⟨by cases s.kt<;>rfl,by cases s.t<;>rfl,h s (.head _)⟩,rfl,ih fun q hq=>h q (.tail _ hq)⟩
theorem setS_len {y:Str} {p:PV} {as:List Sl}:(setS y p as).length≤as.length+1:=by
  induction as with
  | nil=>exact Nat.le_refl _
  | cons s r ih=>
    cases e:s.x==y with
    | true=>rw [set_t e];exact Nat.le_succ _
    | false=>rw [set_f e];exact Nat.succ_le_succ ih
end Mine
end
section
namespace Mine
noncomputable def atts:List Str:=["state","debug","token","posix","whitespace","commenters","escape","wordchars","quotes","whitespace_split","escapedquotes","eof","source","lineno","infile","_punctuation_chars","instream","pushback","filestack"]
theorem at_ok (w:World) {nm:Str} (h:atts.contains nm=true):plainGet (K w.params) 788 nm=true∧hasDictIn (K w.params) 788=true∧findIn (K w.params) (.ref 788) nm=some none∧noGet (K w.params) none=true∧takerIn (K w.params) 788 nm=some none:=by
  have h:=List.contains_iff_mem.mp h
  have key:∀x∈atts,(plainGet (K w.params) 788 x && hasDictIn (K w.params) 788 && findIn (K w.params) (.ref 788) x==some none && noGet (K w.params) none && takerIn (K w.params) 788 x==some none)=true:=List.all_eq_true.mp (by kernel_rfl)
  have:=key nm h
  simp only [Bool.and_eq_true,beq_iff_eq] at this
  exact ⟨this.1.1.1.1,this.1.1.1.2,this.1.1.2,this.1.2,this.2⟩
theorem lex_set (w:World):findIn (K w.params) (.ref 788) "__setattr__"=some (some (.builtin "object.__setattr__"))∧plainOver (K w.params) 788=true:=
  ⟨by kernel_rfl,by kernel_rfl⟩
structure Cf where
  w:World
  A:Around
  cn:Str
  cs:Scope
  L:Addr
  a:Addr
  ccd:Value
  cl:List (Str × Addr)
  h₀:Heap
  lx:Addr
  ld:Addr
  R:List (Addr × Obj)
  ns:List Str
  hp:Bool
noncomputable abbrev Cf.en (g:Cf):Env:=envX g.cn g.cs g.L g.a g.ccd g.cl
noncomputable abbrev Cf.wp {α:Type} (g:Cf) (t:Sem α) (Q:α→Shared→Prop) (E:Value→Shared→Prop) (s:Shared):Prop:=wpAny (model pw_il0090_01 g.w) g.A t Q E s
inductive Inv (g:Cf) (σ:Sg) (h:Heap):Prop
  | mk (m:Str→Option Value) (es:List DictEntry) (F:Fr g.h₀ g.L h m) (N:News g.h₀ g.L h ((g.lx,instObj 788 g.ld)::(g.ld,dictOf es σ.as.length)::g.R)) (M:MpR m σ.vs) (D:EnR g.w.params es σ.as) (S:m "self"=some (.ref g.lx)∧∀y,g.ns.contains y=false→m y=none):Inv g σ h
structure Cx (g:Cf):Prop where
  X:(K g.w.params).In g.h₀
  ne:g.lx≠g.ld
  nR:∀q∈g.R,q.1≠g.ld
  fn:(g.cs.kind== .function)=true
  prop:g.hp=true→∀{σ:Sg} {s:Shared} {E Q:Value→Shared→Prop} {s1:Sl} {z:Str},Inv g σ s.heap→look "_punctuation_chars" σ.as=some s1→s1.p= .str z→(∀t h' k,Inv g σ h'→Q (.str z t) {s with heap:=h',toks:=k})→g.wp (getAttr (.ref g.lx) "punctuation_chars" true) Q E s
noncomputable def SV (g:Cf) (σ:Sg) (e:Expr) (p:PV):Prop:=
  ∀{E:Value→Shared→Prop} {s:Shared} {Q:Value→Shared→Prop},Inv g σ s.heap→(∀t h' k,good p→Inv g σ h'→Q (toV p t) {s with heap:=h',toks:=k})→g.wp (eval e g.en) Q E s
noncomputable def fitB:Option Bool→Bool→Prop
  | some c,b=>b=c
  | none,_=>True
noncomputable def ST (g:Cf) (σ:Sg) (e:Expr) (r:Option Bool):Prop:=
  ∀{E:Value→Shared→Prop} {s:Shared} {Q:Bool→Shared→Prop},Inv g σ s.heap→(∀b h' k,fitB r b→Inv g σ h'→Q b {s with heap:=h',toks:=k})→g.wp (isTrue e g.en (eval e g.en)) Q E s
section
variable {g:Cf} {σ:Sg}
theorem name_sv {x:Str} {pos:Pos} {v:Sl} (h1:okL g.cs x=true) (h2:look x σ.vs=some v):SV g σ (.Name x pos) v.p:=fun I h=>by
  obtain ⟨m,es,F,N,M,D,S⟩:=I
  obtain ⟨⟨b,_,e⟩,hg⟩:=M x _ h2
  exact nmL F e (h _ _ _ hg ⟨m,es,F,N,M,D,S⟩) h1
theorem handed_toV {p:PV} {t:Nat}:handedIn (toV p t)=true:=by cases p<;>rfl
theorem self_name {x:Str} {pos:Pos} {E:Value→Shared→Prop} {s:Shared} {Q:Value→Shared→Prop} (h1:okL g.cs x=true) (h0:(x==(.ofString "self":Str))=true) (I:Inv g σ s.heap) (h:Q (.ref g.lx) s):g.wp (eval (.Name x pos) g.en) Q E s:=by
  obtain ⟨m,es,F,N,M,D,S⟩:=I
  obtain rfl:=beq_iff_eq.mp h0
  exact nmL F S.1 h h1
theorem attr_get {nm:Str} {v:Sl} {E:Value→Shared→Prop} {s:Shared} {Q:Value→Shared→Prop} (c:Cx g) (h2:atts.contains nm=true) (h4:look nm σ.as=some v) (I:Inv g σ s.heap) (h:∀t h' k,good v.p→Inv g σ h'→Q (toV v.p t) {s with heap:=h',toks:=k}):g.wp (getAttr (.ref g.lx) nm true) Q E s:=by
  obtain ⟨m,es,F,N,M,D,S⟩:=I
  obtain ⟨c1,c2,c3,c4,_⟩:=at_ok g.w h2
  obtain ⟨b,hg,e⟩:=enr_get D h4
  exact get_own F c.X (InstAt.of_news N (.head _) (.tail _ (.head _))) c1 c2 c3 c4 e handed_toV (h _ _ _ hg ⟨m,es,F,N,M,D,S⟩)
theorem attr_set {nm:Str} {p:PV} {t:Nat} {E:Value→Shared→Prop} {s:Shared} {Q:Unit→Shared→Prop} (c:Cx g) (h2:atts.contains nm=true) (hz:Nat.ble σ.as.length 900=true) (hp:good p) (I:Inv g σ s.heap) (h:∀h' k,Inv g ⟨σ.vs,setS nm p σ.as⟩ h'→Q () {s with heap:=h',toks:=k}):g.wp (setAttr (.ref g.lx) nm (toV p t)) Q E s:=by
  obtain ⟨m,es,F,N,M,D,S⟩:=I
  obtain ⟨_,c2,_,_,c5⟩:=at_ok g.w h2
  have e0:=enr_putN (y:=nm) (p:=p) 0 D
  rw [Nat.zero_add,Nat.zero_add] at e0
  refine set_dict F c.X N (InstAt.of_news N (.head _) (.tail _ (.head _))) rfl (lex_set g.w).1 (lex_set g.w).2 c5 c2 (enr_some D) (n':=(setS nm p σ.as).length) (Prod.ext rfl e0) (.tail c.ne (.head c.nR)) ?_ fun h' F' N'=>h _ _ ⟨m,_,F',N',M,enr_put hp D,S⟩
  rw [enr_len (enr_put (t:=s.toks+1) (u:=t) (y:=nm) hp D)]
  exact Nat.le_trans setS_len (Nat.le_trans (Nat.succ_le_succ (Nat.le_of_ble_eq_true hz)) (by decide))
theorem attr_sv {x nm:Str} {xp pos:Pos} {v:Sl} (c:Cx g) (h1:okL g.cs x=true) (h0:(x==(.ofString "self":Str))=true) (h2:atts.contains nm=true) (h4:look nm σ.as=some v):SV g σ (.Attribute (.Name x xp) nm pos) v.p:=
  fun I h=>Attribute_Name_ (self_name h1 h0 I (attr_get c h2 h4 I h))
theorem prop_sv {x nm:Str} {xp pos:Pos} {v:Sl} {z:Str} (c:Cx g) (hh:g.hp=true) (h1:okL g.cs x=true) (h0:(x==(.ofString "self":Str))=true) (h2:(nm==("punctuation_chars":Str))=true) (h4:look "_punctuation_chars" σ.as=some v) (h5:v.p= .str z):SV g σ (.Attribute (.Name x xp) nm pos) (.str z):=fun I h=>by
  obtain rfl:=beq_iff_eq.mp h2
  exact Attribute_Name_ (self_name h1 h0 I (c.prop hh I h4 h5 fun t h' k I'=>h _ _ _ trivial I'))
inductive XV|name (x:Str)|const (k:Const)|attr (x nm:Str)|cmp (l:Expr) (op:CmpOp) (r:Expr)|tcmp (l:Expr) (op:CmpOp) (elts:List Expr)|bool (op:BoolOp) (xs:List Expr)|not (op:UnaryOp) (x:Expr)|other
noncomputable def XV.Is (e:Expr):XV→Prop
  | .name x=>∃p,e= .Name x p
  | .const k=>∃a p,e= .Constant k a p
  | .attr x nm=>∃p q,e= .Attribute (.Name x p) nm q
  | .cmp l op r=>∃p,e= .Compare l [op] [r] p
  | .tcmp l op elts=>∃n q p,e= .Compare l [op] [.Tuple elts n q] p
  | .bool op xs=>∃p,e= .BoolOp op xs p
  | .not op x=>∃p,e= .UnaryOp op x p
  | .other=>True
noncomputable def nameOf (e:Expr):{r:Option Str // ∀x,r=some x→∃p,e= .Name x p}:=match e with
  | .Name x p=>⟨some x,fun _ h=>by cases h;exact ⟨p,rfl⟩⟩
  | _=>⟨none,nofun⟩
noncomputable def tupOf (e:Expr):{r:Option (List Expr) // ∀x,r=some x→∃n p,e= .Tuple x n p}:=match e with
  | .Tuple x n p=>⟨some x,fun _ h=>by cases h;exact ⟨n,p,rfl⟩⟩
  | _=>⟨none,nofun⟩
noncomputable def xv (e:Expr):{v // XV.Is e v}:=match e with
  | .Name x p=>⟨.name x,p,rfl⟩
  | .Constant k a p=>⟨.const k,a,p,rfl⟩
  | .Attribute o nm q=>match nameOf o with
    | ⟨some x,h⟩=>⟨.attr x nm,by obtain ⟨p,rfl⟩:=h x rfl;exact ⟨p,q,rfl⟩⟩
    | ⟨none,_⟩=>⟨.other,trivial⟩
  | .Compare l ops rs p=>match ops with
    | [op]=>match rs with
      | [r]=>match tupOf r with
        | ⟨some elts,h⟩=>⟨.tcmp l op elts,by obtain ⟨n,q,rfl⟩:=h _ rfl;exact ⟨n,q,p,rfl⟩⟩
        | ⟨none,_⟩=>⟨.cmp l op r,p,rfl⟩
      | _=>⟨.other,trivial⟩
    | _=>⟨.other,trivial⟩
  | .BoolOp op xs p=>⟨.bool op xs,p,rfl⟩
  | .UnaryOp op x p=>⟨.not op x,p,rfl⟩
  | _=>⟨.other,trivial⟩
theorem const_sv {k:Const} {a:Nat} {p:Pos} {v:PV} (h:(match k with| .none=>v= .none| .bool b=>v= .bool b| .int i=>v= .int i| .str z=>v= .str z|_=>False)):SV g σ (.Constant k a p) v:=by
  cases k<;>first|exact h.elim|subst h
  · exact fun I h=>wpAny_Constant_none (h 0 _ _ trivial I)
  · exact fun I h=>fun _ _ _=>h 0 _ _ trivial I
  · exact fun I h=>wpAny_Constant_int (h _ _ _ trivial I)
  · exact fun I h=>Constant_str (h _ _ _ trivial I)
noncomputable def kv (k:Const):Option {v:PV // match k with| .none=>v= .none| .bool b=>v= .bool b| .int i=>v= .int i| .str z=>v= .str z|_=>False}:=match k with
  | .none=>some ⟨.none,rfl⟩
  | .bool b=>some ⟨.bool b,rfl⟩
  | .int i=>some ⟨.int i,rfl⟩
  | .str z=>some ⟨.str z,rfl⟩
  | _=>none
noncomputable def pv (c:Cx g) (σ:Sg) (e:Expr):Option {p // SV g σ e p}:=match xv e with
  | ⟨.name x,h⟩=>match h1:okL g.cs x with
    | true=>match h2:look x σ.vs with
      | some v=>some ⟨v.p,by obtain ⟨p,rfl⟩:=h;exact name_sv h1 h2⟩
      | none=>none
    | false=>none
  | ⟨.const k,h⟩=>match kv k with
    | some ⟨v,hv⟩=>some ⟨v,by obtain ⟨a,p,rfl⟩:=h;exact const_sv hv⟩
    | none=>none
  | ⟨.attr x nm,h⟩=>match h1:okL g.cs x with
    | true=>match h0:x==(.ofString "self":Str) with
      | true=>match h2:atts.contains nm with
        | true=>match h4:look nm σ.as with
          | some v=>some ⟨v.p,by obtain ⟨p,q,rfl⟩:=h;exact attr_sv c h1 h0 h2 h4⟩
          | none=>none
        | false=>match h2:nm==("punctuation_chars":Str) with
          | true=>match h4:look "_punctuation_chars" σ.as with
            | some v=>match h5:v.p with
              | .str z=>match hh:g.hp with
                | true=>some ⟨.str z,by obtain ⟨p,q,rfl⟩:=h;exact prop_sv c hh h1 h0 h2 h4 h5⟩
                | false=>none
              | _=>none
            | none=>none
          | false=>none
      | false=>none
    | false=>none
  | _=>none
end
end Mine
end
section
namespace Mine
section
variable {g:Cf} {σ:Sg}
noncomputable def SC (g:Cf) (op:CmpOp) (p q:PV) (r:Option Bool):Prop:=∀{E:Value→Shared→Prop} {s:Shared} {t u:Nat} {Q:Value→Shared→Prop},(∀b,fitB r b→Q (.bool b) s)→good p→g.wp (compareOp op (toV p t) (toV q u)) Q E s
noncomputable def textOf (p:PV):Option {z // ∀t,toV p t= .str z t}:=match p with
  | .str z=>some ⟨z,fun _=>rfl⟩
  | .tok l _ _=>some ⟨tx l,fun _=>rfl⟩
  | .chr c _=>some ⟨tx [c],fun _=>rfl⟩
  | _=>none
noncomputable def notOne (no:List Nat) (y:Str):Bool:=match y.cps.toList with
  | [d]=>no.contains d
  | _=>false
theorem notOne_ok {c:Nat} {no:List Nat} {y:Str} (hg:good (.chr c no)) (h:notOne no y=true):(tx [c]==y)=false:=by
  rw [beq_eq_false_iff_ne]
  intro e
  subst e
  exact hg c (List.contains_iff_mem.mp h) rfl
noncomputable def eqs (op:CmpOp):Bool:=match op with| .Eq=>true|_=>false
noncomputable def cmp (g:Cf) (op:CmpOp) (p q:PV):Option {r // SC g op p q r}:=match op with
  | .Eq=>match p with
    | .str x=>match q with
      | .str y=>some ⟨some (x==y),fun h _=>eq_b rfl (h _ rfl)⟩
      | _=>none
    | .chr c no=>match q with
      | .str y=>match h1:notOne no y with
        | true=>some ⟨some false,fun h hg=>eq_b (notOne_ok hg h1) (h _ rfl)⟩
        | false=>none
      | _=>none
    | _=>none
  | .In=>match p with
    | .str y=>match q with
      | .str x=>some ⟨some (!(Builtin.Str.occurrences x y 0 x.length 1).isEmpty),fun h _=>in_b rfl (h _ rfl)⟩
      | _=>none
    | .chr c _=>match q with
      | .str x=>some ⟨none,fun h _=>in_b rfl (h _ trivial)⟩
      | _=>none
    | _=>none
  | .NotIn=>match p with
    | .str y=>match q with
      | .str x=>some ⟨some (!(!(Builtin.Str.occurrences x y 0 x.length 1).isEmpty)),fun h _=>notIn_b rfl (h _ rfl)⟩
      | _=>none
    | _=>none
  | .GtE=>match p with
    | .int a=>match q with
      | .int b=>some ⟨some (decide (a≥b)),fun h _=>P.ge_int (h _ rfl)⟩
      | _=>none
    | _=>none
  | .Gt=>match p with
    | .int a=>match q with
      | .int b=>some ⟨some (decide (a>b)),fun h _=>P.gt_int (h _ rfl)⟩
      | _=>none
    | _=>none
  | .Is=>match q with
    | .none=>match p with
      | .none=>some ⟨some true,fun h _=>wpAny_is_plain rfl (h _ rfl)⟩
      | .str _=>some ⟨some false,fun h _=>wpAny_is_plain rfl (h _ rfl)⟩
      | _=>none
    | _=>none
  | .IsNot=>match q with
    | .none=>match p with
      | .none=>some ⟨some false,fun h _=>wpAny_isNot_plain rfl (h _ rfl)⟩
      | .str _=>some ⟨some true,fun h _=>wpAny_isNot_plain rfl (h _ rfl)⟩
      | .ref _=>some ⟨some true,fun h _=>wpAny_isNot_plain rfl (h _ rfl)⟩
      | _=>none
    | _=>none
  | _=>none
noncomputable def SU (g:Cf) (p:PV) (r:Option Bool):Prop:=∀{E:Value→Shared→Prop} {s:Shared} {t:Nat} {Q:Bool→Shared→Prop},(∀b k,fitB r b→Q b {s with toks:=k})→good p→g.wp (PySem.truthy (toV p t)) Q E s
noncomputable def tru (g:Cf) (p:PV):Option {r // SU g p r}:=match p with
  | .none=>some ⟨some false,fun h _=>wpAny_pure (h _ _ rfl)⟩
  | .bool b=>some ⟨some b,fun h _=>wpAny_truthy_bool (h _ _ rfl)⟩
  | .int i=>some ⟨some (i !=0),fun h _=>P.truthy_int (h _ _ rfl)⟩
  | .str z=>match hz:Nat.ble z.length 16777216 with
    | true=>some ⟨some ((z.length:Int) !=0),fun h _=>KXt.truthy rfl (Nat.le_of_ble_eq_true hz) (fun k=>h _ k rfl)⟩
    | false=>none
  | .tok l b ne=>match hb:Nat.ble b 20002 with
    | true=>match hn:ne with
      | true=>some ⟨some true,fun h hg=>KXt.truthy_pos (K:=20002) (by rw [tx_len];exact hg.2 rfl) (by rw [tx_len];exact Nat.le_trans hg.1 (Nat.le_of_ble_eq_true hb)) (Nat.le_of_ble_eq_true rfl) fun k=>h _ k rfl⟩
      | false=>none
    | false=>none
  | .chr c no=>some ⟨some true,fun h _=>KXt.truthy (b:=true) (by rfl) (Nat.le_of_ble_eq_true rfl) (fun k=>h _ k rfl)⟩
  | _=>none
noncomputable def SL (g:Cf) (σ:Sg) (op:BoolOp) (xs:List Expr) (r:Option Bool):Prop:=
  ∀{E:Value→Shared→Prop} {s:Shared} {pos:Pos} {whole:Sem Value} {Q:Bool→Shared→Prop},Inv g σ s.heap→(∀b h' k,fitB r b→Inv g σ h'→Q b {s with heap:=h',toks:=k})→g.wp (isTrue (.BoolOp op xs pos) g.en whole) Q E s
noncomputable def and3:Option Bool→Option Bool→Option Bool
  | some false,_=>some false
  | some true,r=>r
  | none,some false=>some false
  | none,_=>none
noncomputable def or3:Option Bool→Option Bool→Option Bool
  | some true,_=>some true
  | some false,r=>r
  | none,some true=>some true
  | none,_=>none
theorem fit_and {r1 r2:Option Bool} {b:Bool} (h:fitB r2 b) (h1:fitB r1 true):fitB (and3 r1 r2) b:=by
  match r1,r2 with
  | some false,_=>exact nomatch h1
  | some true,_=>exact h
  | none,some false=>exact h
  | none,some true=>trivial
  | none,none=>trivial
theorem fit_and0 {r1 r2:Option Bool} (h1:fitB r1 false):fitB (and3 r1 r2) false:=by
  match r1,r2 with
  | some false,_=>exact rfl
  | some true,_=>exact nomatch h1
  | none,some false=>exact rfl
  | none,some true=>trivial
  | none,none=>trivial
theorem fit_or {r1 r2:Option Bool} {b:Bool} (h:fitB r2 b) (h1:fitB r1 false):fitB (or3 r1 r2) b:=by
  match r1,r2 with
  | some true,_=>exact nomatch h1
  | some false,_=>exact h
  | none,some true=>exact h
  | none,some false=>trivial
  | none,none=>trivial
theorem fit_or1 {r1 r2:Option Bool} (h1:fitB r1 true):fitB (or3 r1 r2) true:=by
  match r1,r2 with
  | some true,_=>exact rfl
  | some false,_=>exact nomatch h1
  | none,some true=>exact rfl
  | none,some false=>trivial
  | none,none=>trivial
noncomputable def allB (f:(e:Expr)→Option {r // ST g σ e r}):(xs:List Expr)→Option {r // SL g σ .And xs r}
  | []=>some ⟨some true,fun I h=>isTrue_and_nil (h _ _ _ rfl I)⟩
  | x::r=>match f x with
    | some ⟨some false,h1⟩=>some ⟨some false,fun I h=>isTrue_and (h1 I fun b h' k hb I'=>by subst hb;exact h _ _ _ rfl I')⟩
    | some ⟨b1,h1⟩=>match allB f r with
      | some ⟨b2,h2⟩=>some ⟨and3 b1 b2,fun I h=>isTrue_and (h1 I fun b h' k hb I'=>by
          cases b
          · exact h _ _ _ (fit_and0 hb) I'
          · exact h2 (s:={heap:=_,gens:=_,drawn:=_,toks:=k,os:=_}) I' fun b' h'' k' hb' I''=>h _ _ _ (fit_and hb' hb) I'')⟩
      | none=>none
    | none=>none
noncomputable def anyB (f:(e:Expr)→Option {r // ST g σ e r}):(xs:List Expr)→Option {r // SL g σ .Or xs r}
  | []=>some ⟨some false,fun I h=>isTrue_or_nil (h _ _ _ rfl I)⟩
  | x::r=>match f x with
    | some ⟨some true,h1⟩=>some ⟨some true,fun I h=>isTrue_or (h1 I fun b h' k hb I'=>by subst hb;exact h _ _ _ rfl I')⟩
    | some ⟨b1,h1⟩=>match anyB f r with
      | some ⟨b2,h2⟩=>some ⟨or3 b1 b2,fun I h=>isTrue_or (h1 I fun b h' k hb I'=>by
          cases b
          · exact h2 (s:={heap:=_,gens:=_,drawn:=_,toks:=k,os:=_}) I' fun b' h'' k' hb' I''=>h _ _ _ (fit_or hb' hb) I''
          · exact h _ _ _ (fit_or1 hb) I')⟩
      | none=>none
    | none=>none
theorem plain_st {e:Expr} {p:PV} {r:Option Bool} (h1:SV g σ e p) (h2:SU g p r) (he:∀env whole,isTrue e env whole=(do let v ←whole;standAt e.pos;holding [v] (PySem.truthy v))):ST g σ e r:=
  fun I h=>isTrue_plain (h1 I fun t h' k hg I'=>h2 (s:={heap:=_,gens:=_,drawn:=_,toks:=k,os:=_}) (fun b k' hb=>h b h' k' hb I') hg) (he _ _)
theorem cmp_st {l r:Expr} {op:CmpOp} {pos:Pos} {p q:PV} {b:Option Bool} (hm:behindInMarks op r=false) (h1:SV g σ l p) (h2:SV g σ r q) (h3:SC g op p q b):ST g σ (.Compare l [op] [r] pos) b:=
  fun I h=>wpAny_isTrue_Compare1 (h1 I fun t h' k hg I'=>h2 (s:={heap:=_,gens:=_,drawn:=_,toks:=k,os:=_}) I' fun t2 h2' k2 _ I2=>h3 (fun b' hb'=>wpAny_truthy_bool (h _ _ _ hb' I2)) hg) hm
noncomputable def ZsOk (es:List Expr) (zs:List Str):Prop:=∀{M:Model} {A:Around} {env:Env} {pos:Pos} {E:Value→Shared→Prop} {s:Shared} {Q:List Value→Shared→Prop},(∀vs k,StrsAre vs zs→vs.length=es.length→Q vs {s with toks:=k})→wpAny M A (spliced (backTo pos (starEach es env))) Q E s
theorem zs_cons {e:Expr} {r:List Expr} {z:Str} {zs:List Str} (h:XV.Is e (.const (.str z))) (ih:ZsOk r zs):ZsOk (e::r) (z::zs):=fun {_ _ _ _ _ s _} k=>by
  obtain ⟨a,p,rfl⟩:=h
  exact args_cons (Constant_str (ih (s:={s with toks:=s.toks+1}) fun vs k' hv hl=>k _ k' (.cons _ _ hv) (congrArg (·+1) hl))) rfl
noncomputable def zsOf (es:List Expr):Option {zs // ZsOk es zs}:=List.rec (motive:=fun es=>Option {zs // ZsOk es zs}) (some ⟨[],fun {_ _ _ _ _ s _} k=>args_nil (k [] s.toks .nil rfl)⟩)
  (fun e _ ih=>match ih with
    | some ⟨zs,h2⟩=>match xv e with
      | ⟨.const k,h⟩=>match k with
        | .str z=>some ⟨z::zs,zs_cons h h2⟩
        | _=>none
      | _=>none
    | none=>none) es
theorem tup_st {l:Expr} {op:CmpOp} {elts:List Expr} {n:Nat} {tp pos:Pos} {z:Str} {zs:List Str} (hm:behindInMarks .In (.Tuple elts n tp)=false) (h1:SV g σ l (.str z)) (h2:ZsOk elts zs) (h3:Nat.ble elts.length 100=true) (ho:op= .In):ST g σ (.Compare l [op] [.Tuple elts n tp] pos) (some (zs.any (·==z))):=fun I h=>by
  subst ho
  refine wpAny_isTrue_Compare1 (h1 I fun t h' k hg I'=>Tuple_ (h2 (s:={heap:=h',gens:=_,drawn:=_,toks:=k,os:=_}) fun vs k2 hv hl=>?_)) hm
  obtain ⟨m,es,F,N,M,D,S⟩:=I'
  refine kup_newTuple (s:={heap:=h',gens:=_,drawn:=_,toks:=k2,os:=_}) F N (fun D' h'' F' N' _=>in_tuple_strs (N'.isTup (.head _)) hv (wpAny_truthy_bool (h _ _ _ rfl ⟨m,es,F',fun q hq=>N' q (.tail _ hq),M,D,S⟩))) ?_
  rw [hl]
  exact Nat.le_trans (Nat.le_of_ble_eq_true h3) (Nat.le_of_ble_eq_true rfl)
theorem not_st {e x:Expr} {op:UnaryOp} {b:Bool} (h:XV.Is e (.not op x)) (ho:op= .Not) (h1:ST g σ x (some b)):ST g σ e (some (!b)):=fun I q=>by
  obtain ⟨p,rfl⟩:=h
  subst ho
  exact isTrue_not (h1 I fun b' h' k hb I'=>q _ _ _ (congrArg (!·) hb) I')
theorem bool_st {e:Expr} {xs:List Expr} {op:BoolOp} {r:Option Bool} (h:XV.Is e (.bool op xs)) (h1:SL g σ op xs r):ST g σ e r:=fun I q=>by
  obtain ⟨p,rfl⟩:=h
  exact h1 I q
theorem isName {e:Expr} {x:Str} (h:XV.Is e (.name x)) (env:Env) (whole:Sem Value):isTrue e env whole=(do let v ←whole;standAt e.pos;holding [v] (PySem.truthy v)):=by
  obtain ⟨_,rfl⟩:=h;rfl
theorem isAttr {e:Expr} {x nm:Str} (h:XV.Is e (.attr x nm)) (env:Env) (whole:Sem Value):isTrue e env whole=(do let v ←whole;standAt e.pos;holding [v] (PySem.truthy v)):=by
  obtain ⟨_,_,rfl⟩:=h;rfl
noncomputable def plT (c:Cx g) (σ:Sg) (e:Expr) (h:∀env whole,isTrue e env whole=(do let v ←whole;standAt e.pos;holding [v] (PySem.truthy v))):Option {r // ST g σ e r}:=match pv c σ e with
  | some ⟨_,h1⟩=>match tru g _ with
    | some ⟨b,h2⟩=>some ⟨b,plain_st h1 h2 h⟩
    | none=>none
  | none=>none
noncomputable def tst (c:Cx g) (σ:Sg) (n:Nat):(e:Expr)→Option {r // ST g σ e r}:=Nat.rec (motive:=fun _=>(e:Expr)→Option {r // ST g σ e r}) (fun _=>none) (fun _ ih e=>match xv e with
  | ⟨.tcmp l op elts,h⟩=>match pv c σ l with
    | some ⟨p,h1⟩=>match p with
      | .str z=>match op with
        | .In=>match zsOf elts with
          | some ⟨zs,h2⟩=>match h3:Nat.ble elts.length 100 with
            | true=>some ⟨some (zs.any (·==z)),by obtain ⟨n,q,p,rfl⟩:=h;exact tup_st rfl h1 h2 h3 rfl⟩
            | false=>none
          | none=>none
        | _=>none
      | _=>none
    | none=>none
  | ⟨.cmp l op r,h⟩=>match hm:behindInMarks op r with
    | false=>match pv c σ l with
      | some ⟨p,h1⟩=>match pv c σ r with
        | some ⟨q,h2⟩=>match cmp g op p q with
          | some ⟨b,h3⟩=>some ⟨b,by obtain ⟨p,rfl⟩:=h;exact cmp_st hm h1 h2 h3⟩
          | none=>none
        | none=>none
      | none=>none
    | true=>none
  | ⟨.bool op xs,h⟩=>match op with
    | .And=>match allB ih xs with
      | some ⟨b,h1⟩=>some ⟨b,bool_st h h1⟩
      | none=>none
    | .Or=>match anyB ih xs with
      | some ⟨b,h1⟩=>some ⟨b,bool_st h h1⟩
      | none=>none
  | ⟨.not op x,h⟩=>match ho:op with
    | .Not=>match ih x with
      | some ⟨some b,h1⟩=>some ⟨some (!b),not_st h rfl h1⟩
      | _=>none
    | _=>none
  | ⟨.name _,h⟩=>plT c σ e (isName h)
  | ⟨.attr _ _,h⟩=>plT c σ e (isAttr h)
  | _=>none) n
noncomputable def SA (g:Cf) (p q r:PV):Prop:=∀{E:Value→Shared→Prop} {s:Shared} {t u:Nat} {Q:Value→Shared→Prop},good p→good q→(∀t k,good r→Q (toV r t) {s with toks:=k})→g.wp (inplaceOp .Add (toV p t) (toV q u)) Q E s
noncomputable def addP (g:Cf) (p q:PV):Option {r // SA g p q r}:=match p with
  | .str x=>match q with
    | .str y=>match hz:Nat.ble (x.length+y.length) 16777216 with
      | true=>some ⟨.str (x++y),fun _ _ h=>SBL.iadd (fun t k _=>h t k trivial) (Nat.le_of_ble_eq_true hz)⟩
      | false=>none
    | _=>none
  | .tok l b ne=>match hb:Nat.ble b 20002 with
    | true=>match q with
      | .chr c _=>some ⟨.tok (l++[c]) (b+1) true,fun hp _ h=>SBL.iadd (fun t k _=>(by
          have:=h t k ⟨by rw [List.length_append];exact Nat.succ_le_succ hp.1,fun _=>by rw [List.length_append];exact Nat.le_add_left _ _⟩
          rw [toV,←tx_append] at this
          exact this)) (by rw [tx_len,tx_len];exact Nat.le_trans (Nat.succ_le_succ (Nat.le_trans hp.1 (Nat.le_of_ble_eq_true hb))) (Nat.le_of_ble_eq_true rfl))⟩
      | .str z=>match hz:Nat.ble z.cps.toList.length 16 with
        | true=>some ⟨.tok (l++z.cps.toList) (b+z.cps.toList.length) ne,fun hp _ h=>SBL.iadd (fun t k _=>(by
          have:=h t k ⟨by rw [List.length_append];exact Nat.add_le_add_right hp.1 _,fun hn=>by rw [List.length_append];exact Nat.le_trans (hp.2 hn) (Nat.le_add_right _ _)⟩
          rw [toV,←tx_append] at this
          exact this)) (by rw [tx_len];exact Nat.le_trans (Nat.add_le_add (Nat.le_trans hp.1 (Nat.le_of_ble_eq_true hb)) (Nat.le_of_ble_eq_true hz)) (Nat.le_of_ble_eq_true rfl))⟩
        | false=>none
      | _=>none
    | false=>none
  | _=>none
noncomputable def plainX:XV→Bool
  | .name _=>true
  | .const _=>true
  | .attr _ _=>true
  | _=>false
theorem no_swap {e:Expr} {v:XV} {t:Expr} {line:Nat} {env:Env} (h:XV.Is e v) (hp:plainX v=true):swapsWith e (some t) line env=pure false:=by
  cases v<;>first|(cases hp;done)|(obtain ⟨_,rfl⟩:=h;rfl)|(obtain ⟨_,_,rfl⟩:=h;rfl)
noncomputable def S1 (g:Cf) (σ:Sg) (st:Stmt) (r:Flow × Sg):Prop:=∀{E:Value→Shared→Prop} {s:Shared} {Q:Flow→Shared→Prop},Inv g σ s.heap→(∀h' k,Inv g r.2 h'→Q r.1 {s with heap:=h',toks:=k})→g.wp (exec st g.en) Q E s
noncomputable def SS (g:Cf) (σ:Sg) (l:List Stmt) (r:Flow × Sg):Prop:=∀{E:Value→Shared→Prop} {s:Shared} {Q:Flow→Shared→Prop},Inv g σ s.heap→(∀h' k,Inv g r.2 h'→Q r.1 {s with heap:=h',toks:=k})→g.wp (execs l g.en) Q E s
theorem s_name {x:Str} {xp pos:Pos} {v:Expr} {p:PV} (c:Cx g) (h1:okL g.cs x=true) (h0:(x==(.ofString "self":Str))=false) (hn:g.ns.contains x=true) (hv:plainX (xv v).1=true) (h2:SV g σ v p):S1 g σ (.Assign [.Name x xp] v pos) (.next,⟨setS x p σ.vs,σ.as⟩):=fun I h=>by
  refine wpAny_Assign_Name (h2 I fun t h' k hg I'=>?_) (no_swap (xv v).2 hv)
  obtain ⟨m,es,F,N,M,D,S,O⟩:=I'
  simp only [okL,Bool.and_eq_true,Bool.not_eq_true',beq_iff_eq] at h1
  exact storeX_L (s:={heap:=h',gens:=_,drawn:=_,toks:=k,os:=_}) F N (fun h'' F' N'=>h _ _ ⟨_,es,F',N',mp_set hg M,D,(if_neg (Ne.symm (beq_eq_false_iff_ne.mp h0))).trans S,fun y hy=>(if_neg fun q=>(by rw [q,hn] at hy;exact nomatch hy)).trans (O y hy)⟩) (beq_iff_eq.mp c.fn) h1.1.2
theorem s_attr {x nm:Str} {xp ap pos:Pos} {v:Expr} {p:PV} (c:Cx g) (h1:okL g.cs x=true) (h0:(x==(.ofString "self":Str))=true) (ha:atts.contains nm=true) (hz:Nat.ble σ.as.length 900=true) (hv:plainX (xv v).1=true) (h2:SV g σ v p):S1 g σ (.Assign [.Attribute (.Name x xp) nm ap] v pos) (.next,⟨σ.vs,setS nm p σ.as⟩):=fun I h=>
  plainObj_wpAny_Assign_Attribute (h2 I fun t h' k hg I'=>self_name (s:={heap:=h',gens:=_,drawn:=_,toks:=k,os:=_}) h1 h0 I' (attr_set c ha hz hg I' h)) (no_swap (xv v).2 hv)
theorem s_aug {x nm:Str} {xp ap pos:Pos} {v:Expr} {q r:PV} {s1:Sl} (c:Cx g) (h1:okL g.cs x=true) (h0:(x==(.ofString "self":Str))=true) (ha:atts.contains nm=true) (hl:look nm σ.as=some s1) (hz:Nat.ble σ.as.length 900=true) (h2:SV g σ v q) (h3:SA g s1.p q r):S1 g σ (.AugAssign (.Attribute (.Name x xp) nm ap) .Add v pos) (.next,⟨σ.vs,setS nm r σ.as⟩):=fun I h=>
  wpAny_AugAssign_AttributeAny (self_name h1 h0 I (attr_get c ha hl I fun t h' k hg I'=>h2 (s:={heap:=h',gens:=_,drawn:=_,toks:=k,os:=_}) I' fun t2 h2' k2 hg2 I2=>h3 hg hg2 fun t3 k3 hg3=>attr_set (s:={heap:=h2',gens:=_,drawn:=_,toks:=k3,os:=_}) c ha hz hg3 I2 h))
noncomputable def evs (f:(σ:Sg)→(st:Stmt)→Option {r // S1 g σ st r}):(l:List Stmt)→(σ:Sg)→Option {r // SS g σ l r}
  | [],σ=>some ⟨(.next,σ),fun I h=>wpAny_execs_nil (h _ _ I)⟩
  | st::l,σ=>match f σ st with
    | some ⟨(.next,σ1),h1⟩=>match evs f l σ1 with
      | some ⟨r,h2⟩=>some ⟨r,fun I h=>wpAny_execs_cons (h1 I fun h' k I'=>h2 (s:={heap:=h',gens:=_,drawn:=_,toks:=k,os:=_}) I' h)⟩
      | none=>none
    | some ⟨(.brk,σ1),h1⟩=>some ⟨(.brk,σ1),fun I h=>wpAny_execs_cons (h1 I h)⟩
    | some ⟨(.cont,σ1),h1⟩=>some ⟨(.cont,σ1),fun I h=>wpAny_execs_cons (h1 I h)⟩
    | _=>none
noncomputable def ev (c:Cx g) (n:Nat):(σ:Sg)→(st:Stmt)→Option {r // S1 g σ st r}:=Nat.rec (motive:=fun _=>(σ:Sg)→(st:Stmt)→Option {r // S1 g σ st r}) (fun _ _=>none) (fun _ ih σ st=>match st with
  | .If test body orelse _=>match tst c σ 9 test with
    | some ⟨some b,h1⟩=>match evs ih (cond b body orelse) σ with
      | some ⟨r,h2⟩=>some ⟨r,fun I h=>wpAny_If (h1 I fun b' h' k hb I'=>by
          rw [show b'=b from hb]
          cases b<;>exact h2 (s:={heap:=h',gens:=_,drawn:=_,toks:=k,os:=_}) I' h)⟩
      | none=>none
    | _=>none
  | .Assign ts v _=>match ts with
    | [t]=>match hv:plainX (xv v).1 with
      | true=>match pv c σ v with
        | some ⟨p,h2⟩=>match xv t with
          | ⟨.name x,h⟩=>match h1:okL g.cs x with
            | true=>match h0:x==(.ofString "self":Str) with
              | false=>match hn:g.ns.contains x with
                | true=>some ⟨(.next,⟨setS x p σ.vs,σ.as⟩),by obtain ⟨q,rfl⟩:=h;exact s_name c h1 h0 hn hv h2⟩
                | false=>none
              | true=>none
            | false=>none
          | ⟨.attr x nm,h⟩=>match h1:okL g.cs x with
            | true=>match h0:x==(.ofString "self":Str) with
              | true=>match ha:atts.contains nm with
                | true=>match hz:Nat.ble σ.as.length 900 with
                  | true=>some ⟨(.next,⟨σ.vs,setS nm p σ.as⟩),by obtain ⟨q,q',rfl⟩:=h;exact s_attr c h1 h0 ha hz hv h2⟩
                  | false=>none
                | false=>none
              | false=>none
            | false=>none
          | _=>none
        | none=>none
      | false=>none
    | _=>none
  | .AugAssign t op v _=>match op with
    | .Add=>match xv t with
      | ⟨.attr x nm,h⟩=>match h1:okL g.cs x with
        | true=>match h0:x==(.ofString "self":Str) with
          | true=>match ha:atts.contains nm with
            | true=>match hl:look nm σ.as with
              | some s1=>match hz:Nat.ble σ.as.length 900 with
                | true=>match pv c σ v with
                  | some ⟨q,h2⟩=>match addP g s1.p q with
                    | some ⟨r,h3⟩=>some ⟨(.next,⟨σ.vs,setS nm r σ.as⟩),by obtain ⟨q,q',rfl⟩:=h;exact s_aug c h1 h0 ha hl hz h2 h3⟩
                    | none=>none
                  | none=>none
                | false=>none
              | none=>none
            | false=>none
          | false=>none
        | false=>none
      | _=>none
    | _=>none
  | .Break _=>some ⟨(.brk,σ),fun I h=>wpAny_Break (h _ _ I)⟩
  | .Continue _=>some ⟨(.cont,σ),fun I h=>wpAny_Continue (h _ _ I)⟩
  | _=>none) n
noncomputable def SP (g:Cf) (σ:Sg) (l:List Stmt) (r:Sg × List Stmt):Prop:=∀{E:Value→Shared→Prop} {s:Shared} {Q:Flow→Shared→Prop},Inv g σ s.heap→(∀h' k,Inv g r.1 h'→g.wp (execs r.2 g.en) Q E {s with heap:=h',toks:=k})→g.wp (execs l g.en) Q E s
noncomputable def evp (f:(σ:Sg)→(st:Stmt)→Option {r // S1 g σ st r}):(n:Nat)→(l:List Stmt)→(σ:Sg)→Option {r // SP g σ l r}
  | 0,l,σ=>some ⟨(σ,l),fun {_ s _} I h=>h s.heap s.toks I⟩
  | n+1,l,σ=>match l with
    | []=>none
    | st::l=>match f σ st with
      | some ⟨(.next,σ1),h1⟩=>match evp f n l σ1 with
        | some ⟨r,h2⟩=>some ⟨r,fun I h=>wpAny_execs_cons (h1 I fun h' k I'=>h2 (s:={heap:=h',gens:=_,drawn:=_,toks:=k,os:=_}) I' h)⟩
        | none=>none
      | _=>none
noncomputable def valP {p:Sg × List Stmt→Prop}:Option {r // p r}→Option (Sg × List Stmt)
  | some ⟨r,_⟩=>some r
  | none=>none
theorem valP_ok {p:Sg × List Stmt→Prop} {r:Sg × List Stmt}:∀{x:Option {r // p r}},valP x=some r→p r
  | some ⟨_,h⟩,hp=>by cases hp;exact h
noncomputable def valT {p:Option Bool→Prop}:Option {r // p r}→Option (Option Bool)
  | some ⟨b,_⟩=>some b
  | none=>none
noncomputable def valS {p:Flow × Sg→Prop}:Option {r // p r}→Option (Flow × Sg)
  | some ⟨r,_⟩=>some r
  | none=>none
theorem valT_ok {p:Option Bool→Prop} {b:Option Bool}:∀{x:Option {r // p r}},valT x=some b→p b
  | some ⟨_,r⟩,hp=>by cases hp;exact r
theorem valS_ok {p:Flow × Sg→Prop} {r:Flow × Sg}:∀{x:Option {r // p r}},valS x=some r→p r
  | some ⟨_,h⟩,hp=>by cases hp;exact h
theorem if_ev {test:Expr} {body orelse:List Stmt} {pos:Pos} {b:Bool} {E:Value→Shared→Prop} {s:Shared} {Q:Flow→Shared→Prop} (c:Cx g) (I:Inv g σ s.heap) (hp:valT (tst c σ 9 test)=some (some b)) (h:∀h' k,Inv g σ h'→g.wp (execs (if b=true then body else orelse) g.en) Q E {s with heap:=h',toks:=k}):
    g.wp (exec (.If test body orelse pos) g.en) Q E s:=
  wpAny_If (valT_ok hp I fun b' h' k hb I'=>by have:=h h' k I';rw [show b'=b from hb];cases b;exact this;exact this)
end
end Mine
end
section
namespace Mine
variable {j0 j1 j2:Int}
section
variable {w:World} {gd:Option (List Code)} {outer:List Env} {base g:Heap} {L:Nat} {pv:Program} {mg mb:Str→Option Value} {mean:ExcName→Option Value} {loose:List Str} {s:Shared}
theorem lex_prop {name:Str} {nms:List (Str × NameKind)} {ge co:Bool} {mo:List (Str × Const)} {a:Addr} {ccd:Value} {cl:List (Str × Addr)} {lx ld n t:Nat} {es:List DictEntry} {z:Str} {m:Str→Option Value} {R:List (Addr × Obj)} {Q E:Value→Shared→Prop}
    (B:Below (ar 600 6000 gd outer) base outer g) (X:(K w.params).In g) (T:Top pv loose mean mg mb g) (F:Fr g L s.heap m) (N:News g L s.heap ((lx,instObj 788 ld)::(ld,dictOf es n)::R)) (hl:getL "_punctuation_chars" es=some (some (.str z t)))
    (h:∀h' k,Fr g L h' m→News g L h' ((lx,instObj 788 ld)::(ld,dictOf es n)::R)→Q (.str z t) {s with heap:=h',toks:=k}):
    wpAny (model pw_il0090_01 w) ((ar 600 6000 gd outer).deeper (envX name ⟨.function,nms,ge,co,mo⟩ L a ccd cl)) (getAttr (.ref lx) "punctuation_chars" true) Q E s:=by
  have eK:rw_il0090_01=rw_il0090_01:=rfl
  revert eK X
  k_fill
  intro X eK
  (try (refine let_ctx ?_;intro A9 e9))
  repeat' (first|(k_unfold;(try dsimp only))|(k_here;(with_reducible show wpAny _ _ (getAttr (Value.ref lx) (Str.ofString "_punctuation_chars") true) _ _ _);k_dflt (refine' get_own (v:= .str z t) (by k_asm) (by k_asm) (InstAt.of_news (by k_asm) (by k_mem) (by k_mem)) (by k_is) (by k_is) (by k_is) (by k_is) (by exact hl) (by exact rfl) ?_;k_whole))|(k_end;kc_close)|walk1|(dsimp only;walk1)|(leave1;(try dsimp only)))
  exact h _ _ (by k_asm) (by k_asm)
noncomputable abbrev rtEnv (L:Nat):Env:=envOf "shlex.read_token" (fnScope (mK 33 6)) L 756 (.ref 755)
noncomputable abbrev rtG (w:World) (gd:Option (List Code)) (outer:List Env) (g:Heap) (L lx ld:Nat) (R:List (Addr × Obj)):Cf:=
  {w:=w,A:=(ar 600 6000 gd outer).deeper (rtEnv L),cn:= .ofString "shlex.read_token",cs:=fnScope (mK 33 6),L:=L,a:=756,ccd:= .ref 755,cl:=[],h₀:=g,lx:=lx,ld:=ld,R:=R,ns:=["nextchar","escapedstate","quoted","self"],hp:=true}
theorem rt_cx {lx ld:Nat} {R:List (Addr × Obj)} (B:Below (ar 600 6000 gd outer) base outer g) (X:(K w.params).In g) (T:Top pv loose mean mg mb g) (l1:lx≠ld) (hR:∀q∈R,q.1≠ld):Cx (rtG w gd outer g L lx ld R) where
  X:=X
  ne:=l1
  nR:=hR
  fn:=by kernel_rfl
  prop:=fun _=>by
    intro σ s E Q s1 z I hl hp h
    obtain ⟨m,es,F,N,M,D,S⟩:=I
    obtain ⟨b,_,e⟩:=enr_get D hl
    rw [hp] at e
    with_unfolding_all exact lex_prop (name:= .ofString "shlex.read_token") B X T F N e (fun h' k F' N'=>h _ _ _ ⟨m,es,F',N',M,D,S⟩)
noncomputable def lexS (t:Nat→Nat) (io pb fs:Nat) (st tok:PV):List Sl:=
  [⟨"instream",some (t 0), .ref io,none⟩,⟨"infile",some (t 1), .none,none⟩,⟨"posix",some (t 2), .bool true,none⟩,⟨"eof",some (t 3), .none,none⟩,⟨"commenters",some (t 4), .str "",some (t 5)⟩,⟨"wordchars",some (t 6), .str wordC,some (t 7)⟩,
   ⟨"whitespace",some (t 8), .str " \t\r\n",some (t 9)⟩,⟨"whitespace_split",some (t 10), .bool true,none⟩,⟨"quotes",some (t 11), .str "'\"",some (t 12)⟩,⟨"escape",some (t 13), .str "\\",some (t 14)⟩,
   ⟨"escapedquotes",some (t 15), .str "\"",some (t 16)⟩,⟨"state",some (t 17),st,none⟩,⟨"pushback",some (t 18), .ref pb,none⟩,⟨"lineno",some (t 19), .int 1,some (t 20)⟩,⟨"debug",some (t 21), .int 0,some (t 22)⟩,⟨"token",some (t 23),tok,none⟩,
   ⟨"filestack",some (t 24), .ref fs,none⟩,⟨"source",some (t 25), .none,none⟩,⟨"_punctuation_chars",some (t 26), .str "",some (t 27)⟩]
theorem lex_in {P:Params} {t:Nat→Nat} {io pb fs st tt:Nat} {ps pt:PV} (h1:good ps) (h2:good pt):∃es,EnR P es (lexS t io pb fs ps pt)∧dictOf es 19=lexD P t io pb fs true "" (toV ps st) (toV pt tt):=by
  refine ⟨ents P _ fun i=>cond (Nat.beq i 23) st tt,ents_enr ?_,rfl⟩
  simp only [lexS,List.forall_mem_cons]
  exact ⟨trivial,trivial,trivial,trivial,trivial,trivial,trivial,trivial,trivial,trivial,trivial,h1,trivial,trivial,trivial,h2,trivial,trivial,trivial,fun _ h=>nomatch h⟩
theorem lex_back {P:Params} {t:Nat→Nat} {io pb fs:Nat} {ps pt:PV} {es:List DictEntry} (h:EnR P es (lexS t io pb fs ps pt)):∃st tt,dictOf es 19=lexD P t io pb fs true "" (toV ps st) (toV pt tt):=by
  obtain ⟨τ,rfl⟩:=enr_ents h
  exact ⟨_,_,rfl⟩
end
end Mine
end
section
namespace Mine
variable {j0 j1 j2:Int}
section
variable {w:World} {gd:Option (List Code)} {outer:List Env} {base g:Heap} {L:Nat} {pv:Program} {mg mb:Str→Option Value} {mean:ExcName→Option Value} {loose:List Str} {s:Shared}
noncomputable def rtV (es:Str) (te:Nat) (q:Bool) (l:List Sl):List Sl:=⟨"escapedstate",none, .str es,some te⟩::⟨"quoted",none, .bool q,none⟩::l
theorem contains_no {y:Str} {l:List Str} (h:l.contains y=false):∀z∈l,y≠z:=fun z hz e=>by
  subst e
  rw [List.contains_iff_mem.mpr hz] at h
  exact nomatch h
theorem inv_in {t:Nat→Nat} {lx ld io pb fs st tt te:Nat} {ps pt:PV} {q:Bool} {es:Str} {nx:Option Value} {h:Heap} {R:List (Addr × Obj)} {l:List Sl} (h1:good ps) (h2:good pt) (F:Fr g L h (RM nx es te q lx)) (N:News g L h ((lx,instObj 788 ld)::(ld,lexD w.params t io pb fs true "" (toV ps st) (toV pt tt))::R))
    (hl:MpR (RM nx es te q lx) l):Inv (rtG w gd outer g L lx ld R) ⟨rtV es te q l,lexS t io pb fs ps pt⟩ h:=by
  obtain ⟨el,hD,hd⟩:=lex_in (P:=w.params) (t:=t) (io:=io) (pb:=pb) (fs:=fs) (st:=st) (tt:=tt) h1 h2
  refine ⟨_,el,F,?_,fun y s hs=>?_,hD,rfl,fun y hy=>?_⟩
  · show News g L h ((lx,instObj 788 ld)::(ld,dictOf el 19)::R)
    rw [hd];exact N
  · cases e:(("escapedstate":Str)==y) with
    | true=>rw [rtV,look_t e] at hs;cases hs;rw [←eq_of_beq e];exact ⟨⟨te,rfl,rfl⟩,trivial⟩
    | false=>
      rw [rtV,look_f e] at hs
      cases e:(("quoted":Str)==y) with
      | true=>rw [look_t e] at hs;cases hs;rw [←eq_of_beq e];exact ⟨⟨0,rfl,rfl⟩,trivial⟩
      | false=>rw [look_f e] at hs;exact hl _ _ hs
  · have hh:=contains_no hy
    exact (if_neg (hh _ (.head _))).trans ((if_neg (hh _ (.tail _ (.head _)))).trans ((if_neg (hh _ (.tail _ (.tail _ (.head _))))).trans (if_neg (hh _ (.tail _ (.tail _ (.tail _ (.head _))))))))
theorem mp_one {x:Str} {p:PV} {m:Str→Option Value} {b:Nat} (h:m x=some (toV p b)) (hp:good p):MpR m [⟨x,none,p,none⟩]:=fun y s hs=>by
  cases e:(x==y) with
  | true=>rw [look_t e] at hs;cases hs;rw [←eq_of_beq e];exact ⟨⟨b,rfl,h⟩,hp⟩
  | false=>rw [look_f e] at hs;exact nomatch hs
theorem inv_out {t:Nat→Nat} {lx ld io pb fs te:Nat} {ps pt:PV} {q:Bool} {es:Str} {h:Heap} {R:List (Addr × Obj)} {l:List Sl} (I:Inv (rtG w gd outer g L lx ld R) ⟨rtV es te q l,lexS t io pb fs ps pt⟩ h):
    ∃nx t2 t3,Fr g L h (RM nx es te q lx)∧News g L h ((lx,instObj 788 ld)::(ld,lexD w.params t io pb fs true "" (toV ps t2) (toV pt t3))::R)∧∀s,look "nextchar" l=some s→∃b,nx=some (toV s.p b):=by
  obtain ⟨m,el,F,N,M,D,S,O⟩:=I
  obtain ⟨t2,t3,e⟩:=lex_back D
  obtain ⟨⟨_,e1,m1⟩,_⟩:=M "escapedstate" _ rfl
  obtain ⟨⟨_,_,m2⟩,_⟩:=M "quoted" _ rfl
  rw [←e1] at m1
  refine ⟨_,t2,t3,fr_norm F rfl m1 m2 S fun y a b c d=>O y (Bool.eq_false_iff.mpr fun hc=>?_),e▸N,fun s hs=>?_⟩
  · have:=List.contains_iff_mem.mp hc
    simp only [List.mem_cons,List.not_mem_nil,or_false] at this
    rcases this with r|r|r|r
    all_goals (first|exact a r|exact b r|exact c r|exact d r)
  · obtain ⟨⟨b,_,e⟩,_⟩:=M "nextchar" s hs
    exact ⟨b,e⟩
theorem turn_c {Q:Flow→Shared→Prop} {E:Value→Shared→Prop} {lx ld io id pb fs:Nat} {t:Nat→Nat} {u0 u1 u2 u3:Nat} {l:List Nat} {xt p0 st te tt k c:Nat} {q q':Bool} {es:Str} {nx:Option Value} {ps pt ps' pt' p:PV} {fl:Flow} (hx:l.length≤20000)
    (B:Below (ar 600 6000 gd outer) base outer g) (F:Fr g L s.heap (RM nx es te q lx)) (X:(K w.params).In g) (T:Top pv loose mean mg mb g)
    (N:News g L s.heap (lexL w.params j0 j1 j2 t lx ld io id pb fs u0 u1 u2 u3 l xt (toV ps st) (toV pt tt) (k:Int) p0))
    (l1:lx≠ld) (l4:ld≠io) (l5:ld≠id) (l6:io≠id) (l2:lx≠io) (l3:lx≠id) (hc:l[k]?=some c) (g1:good ps) (g2:good pt) (g3:good p) (hp:∀t,toV p t= .str (tx [c]) t)
    (hv:∀R (c:Cx (rtG w gd outer g L lx ld R)),valS (evs (ev c 30) (rtB.drop 1) ⟨rtV es te q [⟨"nextchar",none,p,none⟩],lexS t io pb fs ps pt⟩)=some (fl,⟨rtV es te q' [⟨"nextchar",none,p,none⟩],lexS t io pb fs ps' pt'⟩))
    (hret:∀(h':Heap) (tk' t1 t2 t3 u3' p0':Nat),Fr g L h' (RM (some (toV p t1)) es te q' lx)→News g L h' (lexL w.params j0 j1 j2 t lx ld io id pb fs u0 u1 u2 u3' l xt (toV ps' t2) (toV pt' t3) ((k:Int)+1) p0')→Q fl {s with heap:=h',toks:=tk'}):
    wpAny (model pw_il0090_01 w) ((ar 600 6000 gd outer).deeper (rtEnv L)) (execs rtB (rtEnv L)) Q E s:=by
  have hR:∀u a b,∀q∈[(io,instObj 653 id),(id,ioD j0 j1 j2 u0 u1 u2 u (tx l) xt a b)],q.1≠ld:=fun u a b q hq=>by
    simp only [List.mem_cons,List.not_mem_nil,or_false] at hq
    rcases hq with rfl|rfl
    · exact Ne.symm l4
    · exact Ne.symm l5
  have I:=inv_in (gd:=gd) (outer:=outer) (l:=[]) g1 g2 F N fun _ _ h=>nomatch h
  have fin:∀(h':Heap) (tk' t1 t2 t3 u p0':Nat),Fr g L h' (RM (some (toV p t1)) es te q lx)→News g L h' (lexL w.params j0 j1 j2 t lx ld io id pb fs u0 u1 u2 u l xt (toV ps t2) (toV pt t3) ((k:Int)+1) p0')→wpAny (model pw_il0090_01 w) ((ar 600 6000 gd outer).deeper (rtEnv L)) (execs (rtB.drop 1) (rtEnv L)) Q E {s with heap:=h',toks:=tk'}:=by
    intro h' tk' t1 t2 t3 u p0' F' N'
    refine valS_ok (hv _ (rt_cx B X T l1 (hR u _ _))) (s:={heap:=h',gens:=_,drawn:=_,toks:=tk',os:=_}) (inv_in g1 g2 F' N' (mp_one rfl g3)) fun h'' k'' I''=>?_
    obtain ⟨nx',t2',t3',F2,N2,hn⟩:=inv_out I''
    obtain ⟨t1',rfl⟩:=hn _ rfl
    exact hret _ _ _ _ _ _ _ F2 N2
  refine wpAny_execs_cons (if_ev (rt_cx B X T l1 (hR _ _ _)) I (b:=false) (by kernel_rfl) fun h0 k0 I0=>?_)
  obtain ⟨nx0,t2,t3,F0,N0, -⟩:=inv_out I0
  clear hv hret I I0 F N
  with_unfolding_all show wpAny _ ((ar 600 6000 gd outer).deeper (envOf _ ⟨_,_,_,_,_⟩ _ _ _)) (execs (_::[]) (envOf _ ⟨_,_,_,_,_⟩ _ _ _)) _ _ _
  have eK:rw_il0090_01=rw_il0090_01:=rfl
  revert eK X
  k_fill
  intro X eK
  repeat' (first|((with_reducible show wpAny _ _ (execs [_,_,_] _) _ _ _);(rename News _ _ _ _=>N9);(try dsimp only);with_unfolding_all exact fin _ _ _ _ _ _ _ (fr_norm (by k_asm) (by rw [hp];rfl) rfl rfl rfl (fun y a b c d=>by simp (zetaDelta:=true) only [if_neg a,if_neg b,if_neg c,if_neg d])) N9)|(k_unfold;(try dsimp only))|((fail_if_success (fail_if_success (with_reducible refine is_call ?_)));(k_here;(with_reducible show wpAny _ _ (call (Value.ref 599) [Value.ref _,Value.int _ _]) _ _ _);k_dflt (refine' use_read (by k_asm) (by k_asm) (by k_asm) (by k_asm) (by k_asm) (by exact rfl) (by exact rfl) (by exact rfl) (by exact rfl) (by exact rfl) (by exact rfl) (by k_mem) (by k_updF) (by assumption) (by assumption) (by assumption) ?_;k_whole);intro h' tk' t' u3' pt' F' N';(try dsimp only at N')))|(k_end;kc_close)|walk1|(dsimp only;walk1))
theorem turn_e {Q:Flow→Shared→Prop} {E:Value→Shared→Prop} {lx ld io id pb fs:Nat} {t:Nat→Nat} {u0 u1 u2 u3:Nat} {l:List Nat} {xt p0 st te tt k c:Nat} {q q':Bool} {es:Str} {nx:Option Value} {ps pt ps' pt' p:PV} {fl:Flow} (hx:l.length≤20000)
    (B:Below (ar 600 6000 gd outer) base outer g) (F:Fr g L s.heap (RM nx es te q lx)) (X:(K w.params).In g) (T:Top pv loose mean mg mb g)
    (N:News g L s.heap (lexL w.params j0 j1 j2 t lx ld io id pb fs u0 u1 u2 u3 l xt (toV ps st) (toV pt tt) (l.length:Int) p0))
    (l1:lx≠ld) (l4:ld≠io) (l5:ld≠id) (l6:io≠id) (l2:lx≠io) (l3:lx≠id) (g1:good ps) (g2:good pt) (g3:good p) (hp:∀t,toV p t= .str "" t)
    (hv:∀R (c:Cx (rtG w gd outer g L lx ld R)),valS (evs (ev c 30) (rtB.drop 1) ⟨rtV es te q [⟨"nextchar",none,p,none⟩],lexS t io pb fs ps pt⟩)=some (fl,⟨rtV es te q' [⟨"nextchar",none,p,none⟩],lexS t io pb fs ps' pt'⟩))
    (hret:∀(h':Heap) (tk' t1 t2 t3 u3' p0':Nat),Fr g L h' (RM (some (toV p t1)) es te q' lx)→News g L h' (lexL w.params j0 j1 j2 t lx ld io id pb fs u0 u1 u2 u3' l xt (toV ps' t2) (toV pt' t3) (l.length:Int) p0')→Q fl {s with heap:=h',toks:=tk'}):
    wpAny (model pw_il0090_01 w) ((ar 600 6000 gd outer).deeper (rtEnv L)) (execs rtB (rtEnv L)) Q E s:=by
  have hR:∀u a b,∀q∈[(io,instObj 653 id),(id,ioD j0 j1 j2 u0 u1 u2 u (tx l) xt a b)],q.1≠ld:=fun u a b q hq=>by
    simp only [List.mem_cons,List.not_mem_nil,or_false] at hq
    rcases hq with rfl|rfl
    · exact Ne.symm l4
    · exact Ne.symm l5
  have I:=inv_in (gd:=gd) (outer:=outer) (l:=[]) g1 g2 F N fun _ _ h=>nomatch h
  have fin:∀(h':Heap) (tk' t1 t2 t3 u p0':Nat),Fr g L h' (RM (some (toV p t1)) es te q lx)→News g L h' (lexL w.params j0 j1 j2 t lx ld io id pb fs u0 u1 u2 u l xt (toV ps t2) (toV pt t3) (l.length:Int) p0')→wpAny (model pw_il0090_01 w) ((ar 600 6000 gd outer).deeper (rtEnv L)) (execs (rtB.drop 1) (rtEnv L)) Q E {s with heap:=h',toks:=tk'}:=by
    intro h' tk' t1 t2 t3 u p0' F' N'
    refine valS_ok (hv _ (rt_cx B X T l1 (hR u _ _))) (s:={heap:=h',gens:=_,drawn:=_,toks:=tk',os:=_}) (inv_in g1 g2 F' N' (mp_one rfl g3)) fun h'' k'' I''=>?_
    obtain ⟨nx',t2',t3',F2,N2,hn⟩:=inv_out I''
    obtain ⟨t1',rfl⟩:=hn _ rfl
    exact hret _ _ _ _ _ _ _ F2 N2
  refine wpAny_execs_cons (if_ev (rt_cx B X T l1 (hR _ _ _)) I (b:=false) (by kernel_rfl) fun h0 k0 I0=>?_)
  obtain ⟨nx0,t2,t3,F0,N0, -⟩:=inv_out I0
  clear hv hret I I0 F N
  with_unfolding_all show wpAny _ ((ar 600 6000 gd outer).deeper (envOf _ ⟨_,_,_,_,_⟩ _ _ _)) (execs (_::[]) (envOf _ ⟨_,_,_,_,_⟩ _ _ _)) _ _ _
  have eK:rw_il0090_01=rw_il0090_01:=rfl
  revert eK X
  k_fill
  intro X eK
  repeat' (first|((with_reducible show wpAny _ _ (execs [_,_,_] _) _ _ _);(rename News _ _ _ _=>N9);(try dsimp only);with_unfolding_all exact fin _ _ _ _ _ _ _ (fr_norm (by k_asm) (by rw [hp];rfl) rfl rfl rfl (fun y a b c d=>by simp (zetaDelta:=true) only [if_neg a,if_neg b,if_neg c,if_neg d])) N9)|(k_unfold;(try dsimp only))|((fail_if_success (fail_if_success (with_reducible refine is_call ?_)));(k_here;(with_reducible show wpAny _ _ (call (Value.ref 599) [Value.ref _,Value.int _ _]) _ _ _);k_dflt (refine' use_readE (by k_asm) (by k_asm) (by k_asm) (by k_asm) (by k_asm) (by exact rfl) (by exact rfl) (by exact rfl) (by exact rfl) (by exact rfl) (by exact rfl) (by k_mem) (by k_updF) (by assumption) (by assumption) ?_;k_whole);intro h' tk' t' F' N';(try dsimp only at N')))|(k_end;kc_close)|walk1|(dsimp only;walk1))
end
end Mine
end
section
namespace Mine
noncomputable abbrev rtE {w:World} {gd:Option (List Code)} {outer:List Env} {g:Heap} {L lx ld:Nat} {R:List (Addr × Obj)} (c:Cx (rtG w gd outer g L lx ld R)) (es:Str) (te:Nat) (q:Bool) (p:PV) (t:Nat→Nat) (io pb fs:Nat) (ps pt:PV):Option (Flow × Sg):=valS (evs (ev c 30) (rtB.drop 1) ⟨rtV es te q [⟨"nextchar",none,p,none⟩],lexS t io pb fs ps pt⟩)
noncomputable abbrev rtO (es:Str) (te:Nat) (q:Bool) (p:PV) (t:Nat→Nat) (io pb fs:Nat) (ps pt:PV) (fl:Flow):Option (Flow × Sg):=some (fl,⟨rtV es te q [⟨"nextchar",none,p,none⟩],lexS t io pb fs ps pt⟩)
section
variable {w:World} {gd:Option (List Code)} {outer:List Env} {g:Heap} {L lx ld:Nat} {R:List (Addr × Obj)} (c:Cx (rtG w gd outer g L lx ld R)) {es:Str} {te:Nat} {q:Bool} {p:PV} {t:Nat→Nat} {io pb fs:Nat} {tl:List Nat} {ne:Bool}
theorem e_q_app {d:Nat} {no:List Nat}:rtE c es te q (.chr d (39::10::no)) t io pb fs (.str "'") (.tok tl 20000 ne)=rtO es te true (.chr d (39::10::no)) t io pb fs (.str "'") (.tok (tl++[d]) 20001 true) .next:=by kernel_rfl
theorem e_q_q:rtE c es te q (.str (tx [39])) t io pb fs (.str "'") (.tok tl 20000 ne)=rtO es te true (.str (tx [39])) t io pb fs (.str "a") (.tok tl 20000 ne) .next:=by kernel_rfl
theorem e_w_q:rtE c es te q (.str (tx [39])) t io pb fs (.str " ") (.tok tl 20000 ne)=rtO es te q (.str (tx [39])) t io pb fs (.str (tx [39])) (.tok tl 20000 ne) .next:=by kernel_rfl
theorem e_w_7:rtE c es te q (.str (tx [55])) t io pb fs (.str " ") (.tok tl 20000 ne)=rtO es te q (.str (tx [55])) t io pb fs (.str "a") (.str (tx [55])) .next:=by kernel_rfl
theorem e_w_x:rtE c es te q (.str (tx [120])) t io pb fs (.str " ") (.tok tl 20000 ne)=rtO es te q (.str (tx [120])) t io pb fs (.str "a") (.str (tx [120])) .next:=by kernel_rfl
theorem e_a_dq:rtE c es te q (.str (tx [34])) t io pb fs (.str "a") (.tok tl 20000 ne)=rtO es te q (.str (tx [34])) t io pb fs (.str (tx [34])) (.tok tl 20000 ne) .next:=by kernel_rfl
theorem e_a_q:rtE c es te q (.str (tx [39])) t io pb fs (.str "a") (.tok tl 20000 ne)=rtO es te q (.str (tx [39])) t io pb fs (.str (tx [39])) (.tok tl 20000 ne) .next:=by kernel_rfl
theorem e_a_m:rtE c es te q (.str (tx [45])) t io pb fs (.str "a") (.tok tl 20000 ne)=rtO es te q (.str (tx [45])) t io pb fs (.str "a") (.tok (tl++[45]) 20001 ne) .next:=by kernel_rfl
theorem e_a_y:rtE c es te q (.str (tx [121])) t io pb fs (.str "a") (.tok tl 20000 ne)=rtO es te q (.str (tx [121])) t io pb fs (.str "a") (.tok (tl++[121]) 20001 ne) .next:=by kernel_rfl
theorem e_a_sp:rtE c es te q (.str (tx [32])) t io pb fs (.str "a") (.tok tl 20000 true)=rtO es te q (.str (tx [32])) t io pb fs (.str " ") (.tok tl 20000 true) .brk:=by kernel_rfl
theorem e_a_e:rtE c es te q (.str "") t io pb fs (.str "a") (.tok tl 20000 ne)=rtO es te q (.str "") t io pb fs .none (.tok tl 20000 ne) .brk:=by kernel_rfl
theorem e_d_q:rtE c es te q (.str (tx [39])) t io pb fs (.str "\"") (.tok tl 20000 ne)=rtO es te true (.str (tx [39])) t io pb fs (.str "\"") (.tok (tl++[39]) 20001 ne) .next:=by kernel_rfl
theorem e_d_dq:rtE c es te q (.str (tx [34])) t io pb fs (.str "\"") (.tok tl 20000 ne)=rtO es te true (.str (tx [34])) t io pb fs (.str "a") (.tok tl 20000 ne) .next:=by kernel_rfl
theorem e_n_e:rtE c es te q (.str "") t io pb fs .none (.tok tl 20000 ne)=rtO es te q (.str "") t io pb fs .none (.str "") .brk:=by kernel_rfl
end
end Mine
end
section
namespace Mine
variable {j0 j1 j2:Int}
noncomputable def whTest:Stmt→Expr
  | .While e _ _ _=>e
  | _=>default
noncomputable def rtT:Expr:=whTest (stAt (fnBody (mK 33 6)) 2)
theorem rtT_true {w:World} {A:Around} {env:Env} {Q:Bool→Shared→Prop} {E:Value→Shared→Prop} {s:Shared} (h:Q true s):wpAny (model pw_il0090_01 w) A (isTrue rtT env (eval rtT env)) Q E s:=by
  with_unfolding_all show wpAny _ _ (isTrue (Expr.Constant _ _ _) env (eval (Expr.Constant _ _ _) env)) _ _ _
  (try (refine let_ctx ?_;intro A9 e9))
  repeat' (first|(k_unfold;(try dsimp only))|(k_end;kc_close)|walk1|(dsimp only;walk1)|(leave1;(try dsimp only)))
  exact h
noncomputable def stV:Nat→Nat→Value
  | 0,t=> .str " " t
  | 1,t=> .str "'" t
  | 2,t=> .str "a" t
  | 3,t=> .str "\"" t
  | _,_=> .none
inductive Rn (l:List Nat) (s':Nat) (tl':List Nat) (q':Bool) (k':Nat):Nat→List Nat→Bool→Nat→Prop
  | q_app {tl q k c}:tl.length≤20000→l[k]?=some c→c≠39→c≠10→Rn l s' tl' q' k' 1 (tl++[c]) true (k+1)→Rn l s' tl' q' k' 1 tl q k
  | q_q {tl q k}:tl.length≤20000→l[k]?=some 39→Rn l s' tl' q' k' 2 tl true (k+1)→Rn l s' tl' q' k' 1 tl q k
  | w_q {tl q k}:tl.length≤20000→l[k]?=some 39→Rn l s' tl' q' k' 1 tl q (k+1)→Rn l s' tl' q' k' 0 tl q k
  | w_7 {tl q k}:tl.length≤20000→l[k]?=some 55→Rn l s' tl' q' k' 2 [55] q (k+1)→Rn l s' tl' q' k' 0 tl q k
  | w_x {tl q k}:tl.length≤20000→l[k]?=some 120→Rn l s' tl' q' k' 2 [120] q (k+1)→Rn l s' tl' q' k' 0 tl q k
  | a_dq {tl q k}:tl.length≤20000→l[k]?=some 34→Rn l s' tl' q' k' 3 tl q (k+1)→Rn l s' tl' q' k' 2 tl q k
  | a_q {tl q k}:tl.length≤20000→l[k]?=some 39→Rn l s' tl' q' k' 1 tl q (k+1)→Rn l s' tl' q' k' 2 tl q k
  | a_m {tl q k}:tl.length≤20000→l[k]?=some 45→Rn l s' tl' q' k' 2 (tl++[45]) q (k+1)→Rn l s' tl' q' k' 2 tl q k
  | a_y {tl q k}:tl.length≤20000→l[k]?=some 121→Rn l s' tl' q' k' 2 (tl++[121]) q (k+1)→Rn l s' tl' q' k' 2 tl q k
  | d_q {tl q k}:tl.length≤20000→l[k]?=some 39→Rn l s' tl' q' k' 3 (tl++[39]) true (k+1)→Rn l s' tl' q' k' 3 tl q k
  | d_dq {tl q k}:tl.length≤20000→l[k]?=some 34→Rn l s' tl' q' k' 2 tl true (k+1)→Rn l s' tl' q' k' 3 tl q k
  | a_sp {tl q k}:tl.length≤20000→l[k]?=some 32→1≤tl.length→s'=0→tl'=tl→q'=q→k'=k+1→Rn l s' tl' q' k' 2 tl q k
  | a_e {tl q k}:tl.length≤20000→k=l.length→s'=4→tl'=tl→q'=q→k'=k→Rn l s' tl' q' k' 2 tl q k
  | n_e {tl q k}:tl.length≤20000→k=l.length→s'=4→tl'=[]→q'=q→k'=k→Rn l s' tl' q' k' 4 tl q k
section
variable {w:World} {gd:Option (List Code)} {outer:List Env} {base g:Heap} {L:Nat} {pv:Program} {mg mb:Str→Option Value} {mean:ExcName→Option Value} {loose:List Str} {s:Shared} {Q:Flow→Shared→Prop} {E:Value→Shared→Prop}
    {lx ld io id pb fs:Nat} {t:Nat→Nat} {u0 u1 u2:Nat} {l:List Nat} {xt te:Nat} {es:Str}
theorem rn_loop (hx:l.length≤20000) (B:Below (ar 600 6000 gd outer) base outer g) (X:(K w.params).In g) (T:Top pv loose mean mg mb g)
    (l1:lx≠ld) (l2:lx≠io) (l3:lx≠id) (l4:ld≠io) (l5:ld≠id) (l6:io≠id) (hE:PassesOwn (model pw_il0090_01 w) ((ar 600 6000 gd outer).deeper (rtEnv L)) (rtEnv L) E)
    {s1:Nat} {tl1:List Nat} {q1:Bool} {k1:Nat}
    (hret:∀(h':Heap) (tk' t2 t3 u3' pt':Nat) (nx':Option Value),Fr g L h' (RM nx' es te q1 lx)→News g L h' (lexL w.params j0 j1 j2 t lx ld io id pb fs u0 u1 u2 u3' l xt (stV s1 t2) (.str (tx tl1) t3) (k1:Int) pt')→Q .next {s with heap:=h',toks:=tk'})
    {s0:Nat} {tl0:List Nat} {q0:Bool} {k0:Nat} (R:Rn l s1 tl1 q1 k1 s0 tl0 q0 k0):∀(h:Heap) (tk st tt u3 pt:Nat) (nx:Option Value),Fr g L h (RM nx es te q0 lx)→News g L h (lexL w.params j0 j1 j2 t lx ld io id pb fs u0 u1 u2 u3 l xt (stV s0 st) (.str (tx tl0) tt) (k0:Int) pt)→
      WhlRest pw_il0090_01 w ((ar 600 6000 gd outer).deeper (rtEnv L)) E (rtEnv L) rtT rtB [] Q 1 {s with heap:=h,toks:=tk}:=by
  induction R with
  | @q_app tl q k c ht hc h1 h2 _ ih=>
    intro h tk st tt u3 pt nx F N
    refine whl_turn hE (rtT_true (WhlIf.yes rfl ?_))
    exact turn_c (ps:=(.str "'")) (pt:= .tok tl 20000 false) (p:= .chr c [39,10]) (s:={s with heap:=h,toks:=tk}) hx B F X T N l1 l4 l5 l6 l2 l3 hc trivial ⟨ht,nofun⟩ (fun d hd=>by simp only [List.mem_cons,List.not_mem_nil,or_false] at hd;rcases hd with rfl|rfl;exact h1;exact h2) (fun _=>rfl) (fun R cx=>e_q_app cx) fun h' tk' t1 t2 t3 u3' pt' F' N'=>ih h' tk' t2 t3 u3' pt' _ F' N'
  | @q_q tl q k ht hc _ ih=>
    intro h tk st tt u3 pt nx F N
    refine whl_turn hE (rtT_true (WhlIf.yes rfl ?_))
    exact turn_c (ps:=(.str "'")) (pt:= .tok tl 20000 false) (p:= .str (tx [39])) (s:={s with heap:=h,toks:=tk}) hx B F X T N l1 l4 l5 l6 l2 l3 hc trivial ⟨ht,nofun⟩ trivial (fun _=>rfl) (fun R cx=>e_q_q cx) fun h' tk' t1 t2 t3 u3' pt' F' N'=>ih h' tk' t2 t3 u3' pt' _ F' N'
  | @w_q tl q k ht hc _ ih=>
    intro h tk st tt u3 pt nx F N
    refine whl_turn hE (rtT_true (WhlIf.yes rfl ?_))
    exact turn_c (ps:=(.str " ")) (pt:= .tok tl 20000 false) (p:= .str (tx [39])) (s:={s with heap:=h,toks:=tk}) hx B F X T N l1 l4 l5 l6 l2 l3 hc trivial ⟨ht,nofun⟩ trivial (fun _=>rfl) (fun R cx=>e_w_q cx) fun h' tk' t1 t2 t3 u3' pt' F' N'=>ih h' tk' t2 t3 u3' pt' _ F' N'
  | @w_7 tl q k ht hc _ ih=>
    intro h tk st tt u3 pt nx F N
    refine whl_turn hE (rtT_true (WhlIf.yes rfl ?_))
    exact turn_c (ps:=(.str " ")) (pt:= .tok tl 20000 false) (p:= .str (tx [55])) (s:={s with heap:=h,toks:=tk}) hx B F X T N l1 l4 l5 l6 l2 l3 hc trivial ⟨ht,nofun⟩ trivial (fun _=>rfl) (fun R cx=>e_w_7 cx) fun h' tk' t1 t2 t3 u3' pt' F' N'=>ih h' tk' t2 t3 u3' pt' _ F' N'
  | @w_x tl q k ht hc _ ih=>
    intro h tk st tt u3 pt nx F N
    refine whl_turn hE (rtT_true (WhlIf.yes rfl ?_))
    exact turn_c (ps:=(.str " ")) (pt:= .tok tl 20000 false) (p:= .str (tx [120])) (s:={s with heap:=h,toks:=tk}) hx B F X T N l1 l4 l5 l6 l2 l3 hc trivial ⟨ht,nofun⟩ trivial (fun _=>rfl) (fun R cx=>e_w_x cx) fun h' tk' t1 t2 t3 u3' pt' F' N'=>ih h' tk' t2 t3 u3' pt' _ F' N'
  | @a_dq tl q k ht hc _ ih=>
    intro h tk st tt u3 pt nx F N
    refine whl_turn hE (rtT_true (WhlIf.yes rfl ?_))
    exact turn_c (ps:=(.str "a")) (pt:= .tok tl 20000 false) (p:= .str (tx [34])) (s:={s with heap:=h,toks:=tk}) hx B F X T N l1 l4 l5 l6 l2 l3 hc trivial ⟨ht,nofun⟩ trivial (fun _=>rfl) (fun R cx=>e_a_dq cx) fun h' tk' t1 t2 t3 u3' pt' F' N'=>ih h' tk' t2 t3 u3' pt' _ F' N'
  | @a_q tl q k ht hc _ ih=>
    intro h tk st tt u3 pt nx F N
    refine whl_turn hE (rtT_true (WhlIf.yes rfl ?_))
    exact turn_c (ps:=(.str "a")) (pt:= .tok tl 20000 false) (p:= .str (tx [39])) (s:={s with heap:=h,toks:=tk}) hx B F X T N l1 l4 l5 l6 l2 l3 hc trivial ⟨ht,nofun⟩ trivial (fun _=>rfl) (fun R cx=>e_a_q cx) fun h' tk' t1 t2 t3 u3' pt' F' N'=>ih h' tk' t2 t3 u3' pt' _ F' N'
  | @a_m tl q k ht hc _ ih=>
    intro h tk st tt u3 pt nx F N
    refine whl_turn hE (rtT_true (WhlIf.yes rfl ?_))
    exact turn_c (ps:=(.str "a")) (pt:= .tok tl 20000 false) (p:= .str (tx [45])) (s:={s with heap:=h,toks:=tk}) hx B F X T N l1 l4 l5 l6 l2 l3 hc trivial ⟨ht,nofun⟩ trivial (fun _=>rfl) (fun R cx=>e_a_m cx) fun h' tk' t1 t2 t3 u3' pt' F' N'=>ih h' tk' t2 t3 u3' pt' _ F' N'
  | @a_y tl q k ht hc _ ih=>
    intro h tk st tt u3 pt nx F N
    refine whl_turn hE (rtT_true (WhlIf.yes rfl ?_))
    exact turn_c (ps:=(.str "a")) (pt:= .tok tl 20000 false) (p:= .str (tx [121])) (s:={s with heap:=h,toks:=tk}) hx B F X T N l1 l4 l5 l6 l2 l3 hc trivial ⟨ht,nofun⟩ trivial (fun _=>rfl) (fun R cx=>e_a_y cx) fun h' tk' t1 t2 t3 u3' pt' F' N'=>ih h' tk' t2 t3 u3' pt' _ F' N'
  | @d_q tl q k ht hc _ ih=>
    intro h tk st tt u3 pt nx F N
    refine whl_turn hE (rtT_true (WhlIf.yes rfl ?_))
    exact turn_c (ps:=(.str "\"")) (pt:= .tok tl 20000 false) (p:= .str (tx [39])) (s:={s with heap:=h,toks:=tk}) hx B F X T N l1 l4 l5 l6 l2 l3 hc trivial ⟨ht,nofun⟩ trivial (fun _=>rfl) (fun R cx=>e_d_q cx) fun h' tk' t1 t2 t3 u3' pt' F' N'=>ih h' tk' t2 t3 u3' pt' _ F' N'
  | @d_dq tl q k ht hc _ ih=>
    intro h tk st tt u3 pt nx F N
    refine whl_turn hE (rtT_true (WhlIf.yes rfl ?_))
    exact turn_c (ps:=(.str "\"")) (pt:= .tok tl 20000 false) (p:= .str (tx [34])) (s:={s with heap:=h,toks:=tk}) hx B F X T N l1 l4 l5 l6 l2 l3 hc trivial ⟨ht,nofun⟩ trivial (fun _=>rfl) (fun R cx=>e_d_dq cx) fun h' tk' t1 t2 t3 u3' pt' F' N'=>ih h' tk' t2 t3 u3' pt' _ F' N'
  | @a_sp tl q k ht hc hp e1 e2 e3 e4=>
    subst e1 e2 e3 e4
    intro h tk st tt u3 pt nx F N
    refine whl_turn hE (rtT_true (WhlIf.yes rfl ?_))
    exact turn_c (ps:=(.str "a")) (pt:= .tok _ 20000 true) (p:= .str (tx [32])) (s:={s with heap:=h,toks:=tk}) hx B F X T N l1 l4 l5 l6 l2 l3 hc trivial ⟨ht,fun _=>hp⟩ trivial (fun _=>rfl) (fun R cx=>e_a_sp cx) fun h' tk' t1 t2 t3 u3' pt' F' N'=>hret h' tk' t2 t3 u3' pt' _ F' N'
  | @a_e tl q k ht hk e1 e2 e3 e4=>
    subst e1 e2 e3 e4 hk
    intro h tk st tt u3 pt nx F N
    refine whl_turn hE (rtT_true (WhlIf.yes rfl ?_))
    exact turn_e (ps:=(.str "a")) (pt:= .tok _ 20000 false) (p:= .str "") (k:=0) (c:=0) (s:={s with heap:=h,toks:=tk}) hx B F X T N l1 l4 l5 l6 l2 l3 trivial ⟨ht,nofun⟩ trivial (fun _=>rfl) (fun R cx=>e_a_e cx) fun h' tk' t1 t2 t3 u3' pt' F' N'=>hret h' tk' t2 t3 u3' pt' _ F' N'
  | @n_e tl q k ht hk e1 e2 e3 e4=>
    subst e1 e2 e3 e4 hk
    intro h tk st tt u3 pt nx F N
    refine whl_turn hE (rtT_true (WhlIf.yes rfl ?_))
    exact turn_e (ps:= .none) (pt:= .tok tl 20000 false) (p:= .str "") (k:=0) (c:=0) (st:=0) (s:={s with heap:=h,toks:=tk}) hx B F X T N l1 l4 l5 l6 l2 l3 trivial ⟨ht,nofun⟩ trivial (fun _=>rfl) (fun R cx=>e_n_e cx) fun h' tk' t1 t2 t3 u3' pt' F' N'=>hret h' tk' t2 t3 u3' pt' _ F' N'
end
end Mine
end
section
namespace Mine
variable {j0 j1 j2:Int}
theorem use_loop {w:World} {gd:Option (List Code)} {outer:List Env} {base g:Heap} {L:Nat} {pv:Program} {m mg mb:Str→Option Value} {mean:ExcName→Option Value} {loose:List Str} {s:Shared} {Q:Flow→Shared→Prop} {E:Value→Shared→Prop}
    {lx ld io id pb fs:Nat} {t:Nat→Nat} {u0 u1 u2 u3:Nat} {l:List Nat} {xt te st tt pt:Nat} {es:Str} {nx:Option Value} {pos:Pos} {s1 s0:Nat} {tl1 tl0:List Nat} {q1 q0:Bool} {k1 k0:Nat}
    (R:Rn l s1 tl1 q1 k1 s0 tl0 q0 k0) (F:Fr g L s.heap m) (N:News g L s.heap (lexL w.params j0 j1 j2 t lx ld io id pb fs u0 u1 u2 u3 l xt (stV s0 st) (.str (tx tl0) tt) (k0:Int) pt)) (X:(K w.params).In g) (T:Top pv loose mean mg mb g) (B:Below (ar 600 6000 gd outer) base outer g)
    (h1:m "nextchar"=nx) (h2:m "escapedstate"=some (.str es te)) (h3:m "quoted"=some (.bool q0)) (h4:m "self"=some (.ref lx))
    (h5:∀y,y≠(.ofString "nextchar":Str)→y≠(.ofString "escapedstate":Str)→y≠(.ofString "quoted":Str)→y≠(.ofString "self":Str)→m y=none)
    (hx:l.length≤20000) (l1:lx≠ld) (l2:lx≠io) (l3:lx≠id) (l4:ld≠io) (l5:ld≠id) (l6:io≠id) (hE:PassesOwn (model pw_il0090_01 w) ((ar 600 6000 gd outer).deeper (rtEnv L)) (rtEnv L) E)
    (hret:∀(h':Heap) (tk' t2 t3 u3' pt':Nat) (nx':Option Value),Fr g L h' (RM nx' es te q1 lx)→News g L h' (lexL w.params j0 j1 j2 t lx ld io id pb fs u0 u1 u2 u3' l xt (stV s1 t2) (.str (tx tl1) t3) (k1:Int) pt')→Q .next {s with heap:=h',toks:=tk'}):
    wpAny (model pw_il0090_01 w) ((ar 600 6000 gd outer).deeper (rtEnv L)) (exec (.While rtT rtB [] pos) (rtEnv L)) Q E s:=
  whl_start 1 (rn_loop hx B X T l1 l2 l3 l4 l5 l6 hE hret R s.heap s.toks st tt u3 pt nx (fr_norm F h1 h2 h3 h4 h5) N)
theorem ofString_nil:(Str.ofString "")=tx []:=by decide
theorem c_rt (w:World) {lx ld io id pb fs:Nat} {t:Nat→Nat} {u0 u1 u2 u3 xt pt st tt s0 s1 k0 k1:Nat} {l tl1:List Nat} {q1:Bool} {pv:Program}
    (Bw:Below (ar 600 6000 gd outer) base outer (hideAll s.heap [lx,ld,io,id])) (X:(K w.params).In (hideAll s.heap [lx,ld,io,id])) (T:Top pv loose mean mg mb (hideAll s.heap [lx,ld,io,id]))
    (hg0:s.heap.get? lx=some (instObj 788 ld)) (hg1:s.heap.get? ld=some (lexD w.params t io pb fs true "" (stV s0 st) (.str "" tt))) (hg2:s.heap.get? io=some (instObj 653 id)) (hg3:s.heap.get? id=some (ioD j0 j1 j2 u0 u1 u2 u3 (tx l) xt (k0:Int) pt)) (l1:lx≠ld) (l2:lx≠io) (l3:lx≠id) (l4:ld≠io) (l5:ld≠id) (l6:io≠id) (hx:l.length≤20000) (R:Rn l s1 tl1 q1 k1 s0 [] false k0) (hp:1≤tl1.length)
    (hret:∀(h':Heap) (tk' t1 t2 t3 u3' pt':Nat),(∀b o,b ∉ [lx,ld,io,id]→s.heap.get? b=some o→h'.get? b=some o)→(∀q∈lexL w.params j0 j1 j2 t lx ld io id pb fs u0 u1 u2 u3' l xt (stV s1 t2) (.str "" t3) (k1:Int) pt',h'.get? q.1=some q.2)→Q (.str (tx tl1) t1) {s with heap:=h',toks:=tk'}):
    wpAny (model pw_il0090_01 w) (ar 600 6000 gd outer) (call (.ref 756) [.ref lx]) Q E s:=by
  have eK:rw_il0090_01=rw_il0090_01:=rfl
  revert eK X
  k_fill
  intro X eK
  refine wpAny_call ?_
  k_dflt (refine' own_enter (chg:=[(lx,instObj 788 ld),(ld,lexD w.params t io pb fs true "" (stV s0 st) (.str "" tt)),(io,instObj 653 id),(id,ioD j0 j1 j2 u0 u1 u2 u3 (tx l) xt (k0:Int) pt)]) ?k1 ?k2 ?k3 ?k4 ?k6 ?k7 ?k8 ?k9 ?kB ?_ ?c2 ?c3 ?c4 ?c5;(case k1=>exact Bw);(case k2=>intro q hq;simp only [List.mem_cons,List.not_mem_nil,or_false] at hq;rcases hq with rfl|rfl|rfl|rfl;exact hg0;exact hg1;exact hg2;exact hg3);(case k3=>exact X);(case k4=>exact T);(case k6=>k_is);(case k7=>k_is);(case k8=>exact Nat.le_of_ble_eq_true rfl);(case k9=>first|exact BindsTo.of_eq rfl|exact binds_K (Frag.In.keeps X fun b o e=>of_hideAll _ e) rfl (by k_is) rfl rfl rfl);(case c5=>decide);(case kB=>exact locs rfl);(case c2=>exact rfl);(case c3=>exact rfl);(case c4=>exact rfl);k_whole;intro g' L' h' hg' hL' F' N' B' X' T' hlt';(try dsimp only);(try k_fold))
  rw [ofString_nil] at N'
  have he:(tx tl1==Str.ofString "")=false:=by
    rw [ofString_nil,beq_eq_false_iff_ne]
    intro e
    have:tl1=[]:=by simpa [tx] using congrArg (fun y:Str=>y.cps.toList) e
    rw [this] at hp;simp at hp
  (try (refine let_ctx ?_;intro A9 e9))
  repeat' (first|(k_unfold;(try dsimp only))|((fail_if_success (fail_if_success (with_reducible refine is_cmp ?_)));first|((with_reducible show wpAny _ _ (compareOp CmpOp.Eq (Value.str _ _) (Value.str _ _)) _ _ _);(first|refine eq_b (b:=false) (by first|assumption|decide+kernel) ?_|refine eq_b (b:=true) (by first|assumption|decide+kernel) ?_)))|((fail_if_success (fail_if_success (with_reducible refine is_exec ?_)));first|((with_reducible show wpAny _ _ (exec (Stmt.While ..) _) _ _ _);(k_dflt (with_unfolding_all (refine' use_loop (by assumption) (by k_asm) (by k_asm) (by k_asm) (by k_asm) (by k_asm) (by exact rfl) (by exact rfl) (by exact rfl) (by exact rfl) (by intro y a b c d;refine (if_neg b).trans ((if_neg c).trans ?_);(with_unfolding_all show List.lookup y [(Str.ofString "self",_)]=none);rw [List.lookup_cons,beq_eq_false_iff_ne.mpr d];rfl) (by assumption) (by assumption) (by assumption) (by assumption) (by assumption) (by assumption) (by assumption) (by with_unfolding_all passes_own) ?_));intro h' tk' t2 t3 u3' pt' nx' F' N')))|(k_end;kc_close)|walk1|(dsimp only;walk1)|(leave1;(try dsimp only)))
  all_goals (
    show Q _ _
    (rename News _ _ _ _=>N9)
    exact hret _ _ _ _ _ _ _ (kept_hide hg' (by assumption)) (fun q hq=>(lex_out N9 (by k_mem) (by k_mem) (by k_mem) (by k_mem) q hq).1))
theorem c_rtN (w:World) {lx ld io id pb fs:Nat} {t:Nat→Nat} {u0 u1 u2 u3 xt pt st tt s0 s1 k0 k1:Nat} {l:List Nat} {pv:Program}
    (Bw:Below (ar 600 6000 gd outer) base outer (hideAll s.heap [lx,ld,io,id])) (X:(K w.params).In (hideAll s.heap [lx,ld,io,id])) (T:Top pv loose mean mg mb (hideAll s.heap [lx,ld,io,id]))
    (hg0:s.heap.get? lx=some (instObj 788 ld)) (hg1:s.heap.get? ld=some (lexD w.params t io pb fs true "" (stV s0 st) (.str "" tt))) (hg2:s.heap.get? io=some (instObj 653 id)) (hg3:s.heap.get? id=some (ioD j0 j1 j2 u0 u1 u2 u3 (tx l) xt (k0:Int) pt)) (l1:lx≠ld) (l2:lx≠io) (l3:lx≠id) (l4:ld≠io) (l5:ld≠id) (l6:io≠id) (hx:l.length≤20000) (R:Rn l s1 [] false k1 s0 [] false k0)
    (hret:∀(h':Heap) (tk' t1 t2 t3 u3' pt':Nat),(∀b o,b ∉ [lx,ld,io,id]→s.heap.get? b=some o→h'.get? b=some o)→(∀q∈lexL w.params j0 j1 j2 t lx ld io id pb fs u0 u1 u2 u3' l xt (stV s1 t2) (.str "" t3) (k1:Int) pt',h'.get? q.1=some q.2)→Q .none {s with heap:=h',toks:=tk'}):
    wpAny (model pw_il0090_01 w) (ar 600 6000 gd outer) (call (.ref 756) [.ref lx]) Q E s:=by
  have eK:rw_il0090_01=rw_il0090_01:=rfl
  revert eK X
  k_fill
  intro X eK
  refine wpAny_call ?_
  k_dflt (refine' own_enter (chg:=[(lx,instObj 788 ld),(ld,lexD w.params t io pb fs true "" (stV s0 st) (.str "" tt)),(io,instObj 653 id),(id,ioD j0 j1 j2 u0 u1 u2 u3 (tx l) xt (k0:Int) pt)]) ?k1 ?k2 ?k3 ?k4 ?k6 ?k7 ?k8 ?k9 ?kB ?_ ?c2 ?c3 ?c4 ?c5;(case k1=>exact Bw);(case k2=>intro q hq;simp only [List.mem_cons,List.not_mem_nil,or_false] at hq;rcases hq with rfl|rfl|rfl|rfl;exact hg0;exact hg1;exact hg2;exact hg3);(case k3=>exact X);(case k4=>exact T);(case k6=>k_is);(case k7=>k_is);(case k8=>exact Nat.le_of_ble_eq_true rfl);(case k9=>first|exact BindsTo.of_eq rfl|exact binds_K (Frag.In.keeps X fun b o e=>of_hideAll _ e) rfl (by k_is) rfl rfl rfl);(case c5=>decide);(case kB=>exact locs rfl);(case c2=>exact rfl);(case c3=>exact rfl);(case c4=>exact rfl);k_whole;intro g' L' h' hg' hL' F' N' B' X' T' hlt';(try dsimp only);(try k_fold))
  rw [ofString_nil] at N'
  (try (refine let_ctx ?_;intro A9 e9))
  repeat' (first|(k_unfold;(try dsimp only))|((fail_if_success (fail_if_success (with_reducible refine is_cmp ?_)));first|((with_reducible show wpAny _ _ (compareOp CmpOp.Eq (Value.str _ _) (Value.str _ _)) _ _ _);(first|refine eq_b (b:=false) (by first|assumption|decide+kernel) ?_|refine eq_b (b:=true) (by first|assumption|decide+kernel) ?_)))|((fail_if_success (fail_if_success (with_reducible refine is_exec ?_)));first|((with_reducible show wpAny _ _ (exec (Stmt.While ..) _) _ _ _);(k_dflt (with_unfolding_all (refine' use_loop (by assumption) (by k_asm) (by k_asm) (by k_asm) (by k_asm) (by k_asm) (by exact rfl) (by exact rfl) (by exact rfl) (by exact rfl) (by intro y a b c d;refine (if_neg b).trans ((if_neg c).trans ?_);(with_unfolding_all show List.lookup y [(Str.ofString "self",_)]=none);rw [List.lookup_cons,beq_eq_false_iff_ne.mpr d];rfl) (by assumption) (by assumption) (by assumption) (by assumption) (by assumption) (by assumption) (by assumption) (by with_unfolding_all passes_own) ?_));intro h' tk' t2 t3 u3' pt' nx' F' N')))|(k_end;kc_close)|walk1|(dsimp only;walk1)|(leave1;(try dsimp only)))
  all_goals (
    show Q _ _
    (rename News _ _ _ _=>N9)
    exact hret _ _ 0 _ _ _ _ (kept_hide hg' (by assumption)) (fun q hq=>(lex_out N9 (by k_mem) (by k_mem) (by k_mem) (by k_mem) q hq).1))
end Mine
end
section
namespace Mine
variable {j0 j1 j2:Int}
theorem mut_news {h₀ h h':Heap} {L:Addr} {m:Str→Option Value} {chg chg' rest:List (Addr × Obj)} (F:Fr h₀ L h m) (N:News h₀ L h chg) (Nr:News h₀ L h rest) (hadr:chg'.map (·.1)=chg.map (·.1)) (hr:∀q∈rest,q.1 ∉ chg.map (·.1))
    (k:∀b o,b ∉ chg.map (·.1)→h.get? b=some o→h'.get? b=some o) (k1:∀q∈chg',h'.get? q.1=some q.2):Fr h₀ L h' m∧News h₀ L h' (chg'++rest):=by
  obtain ⟨F',nw,ol⟩:=mut_side (ads:=chg.map (·.1)) F N (fun a ha=>by
    obtain ⟨q,hq,rfl⟩:=List.mem_map.mp ha
    exact ⟨q.2,hq⟩) k
  refine ⟨F',fun q hq=>?_⟩
  rcases List.mem_append.mp hq with hq|hq
  · have hm:q.1∈chg.map (·.1):=by rw [←hadr];exact List.mem_map_of_mem hq
    obtain ⟨q',hq',e⟩:=List.mem_map.mp hm
    refine ⟨k1 q hq,?_⟩
    rw [←e]
    exact (N q' hq').2
  · exact ⟨k _ _ (hr q hq) (Nr q hq).1,(Nr q hq).2⟩
theorem obj_apart {h:Heap} {a b:Addr} {o o':Obj} (h1:h.get? a=some o) (h2:h.get? b=some o') (hne:o.cls≠o'.cls):a≠b:=fun e=>by
  subst e
  rw [h1] at h2
  cases h2
  exact hne rfl
section
variable {w:World} {A A₀:Around} {base h₀:Heap} {env:Env} {outer:List Env} {L:Addr} {pv:Program} {m mg mb:Str→Option Value} {mean:ExcName→Option Value} {loose:List Str} {news:List (Addr × Obj)} {s:Shared} {Q E:Value→Shared→Prop}
    {lx ld io id pb fs:Nat} {t:Nat→Nat} {u0 u1 u2 u3 xt pt st tt s0 s1 k0 k1:Nat} {l tl1:List Nat} {q1:Bool}
theorem dq_apart {P:Params} {h:Heap} {a:Nat} {stv tok:Value} {k:Int} (N:News h₀ L h (lexL P j0 j1 j2 t lx ld io id pb fs u0 u1 u2 u3 l xt stv tok k pt)) (ho:h.get? a=some dqO):a ∉ [lx,ld,io,id]:=by
  have n1:=obj_apart ho (N _ (.head _)).1 (by intro e;cases e)
  have n2:=obj_apart ho (N _ (.tail _ (.head _))).1 (by intro e;simp at e)
  have n3:=obj_apart ho (N _ (.tail _ (.tail _ (.head _)))).1 (by intro e;cases e)
  have n4:=obj_apart ho (N _ (.tail _ (.tail _ (.tail _ (.head _))))).1 (by intro e;simp at e)
  simp only [List.mem_cons,List.not_mem_nil,or_false,not_or]
  exact ⟨n1,n2,n3,n4⟩
theorem use_rt (F:Fr h₀ L s.heap m) (N:News h₀ L s.heap (lexL w.params j0 j1 j2 t lx ld io id pb fs u0 u1 u2 u3 l xt (stV s0 st) (.str "" tt) (k0:Int) pt)) (Np:News h₀ L s.heap [(pb,dqO),(fs,dqO)]) (X:(K w.params).In h₀) (T:Top pv loose mean mg mb h₀) (B:Below A₀ base outer h₀)
    (hA:A.frames=some (env::outer)) (hf:env.frame=some L) (hke:env.scope.kind= .function) (hh:A.handled=none) (hd:Nat.ble A.depth 600=true) (hu:Nat.ble A.units 6000=true)
    (l1:lx≠ld) (l2:lx≠io) (l3:lx≠id) (l4:ld≠io) (l5:ld≠id) (l6:io≠id) (hx:l.length≤20000) (R:Rn l s1 tl1 q1 k1 s0 [] false k0) (hp:1≤tl1.length)
    (ret:∀(h':Heap) (tk' t1 t2 t3 u3' pt':Nat),Fr h₀ L h' m→News h₀ L h' (lexL w.params j0 j1 j2 t lx ld io id pb fs u0 u1 u2 u3' l xt (stV s1 t2) (.str "" t3) (k1:Int) pt'++[(pb,dqO),(fs,dqO)])→Q (.str (tx tl1) t1) {s with heap:=h',toks:=tk'}):
    wpAny (model pw_il0090_01 w) A (call (.ref 756) [.ref lx]) Q E s:=by
  obtain ⟨_,BG,sg,_⟩:=groundX (R:=fun _ _=>True) B F N hA hf hke
  refine weaken (A':=ar 600 6000 A.guards (env::outer)) hh (Nat.le_of_ble_eq_true hd) hA.symm rfl (Nat.le_of_ble_eq_true hu) ?_
  refine c_rt w ⟨rfl,BG.stays,BG.frames⟩ (X.keeps sg) (T.keeps sg) (N _ (.head _)).1 (N _ (.tail _ (.head _))).1 (N _ (.tail _ (.tail _ (.head _)))).1 (N _ (.tail _ (.tail _ (.tail _ (.head _))))).1 l1 l2 l3 l4 l5 l6 hx R hp fun h' tk' t1 t2 t3 u3' pt' k0 k1=>?_
  obtain ⟨F',N'⟩:=mut_news F N Np (chg':=lexL w.params j0 j1 j2 t lx ld io id pb fs u0 u1 u2 u3' l xt (stV s1 t2) (.str "" t3) _ pt') rfl (fun q hq=>by
    simp only [List.mem_cons,List.not_mem_nil,or_false] at hq
    rcases hq with rfl|rfl
    · exact dq_apart N (Np _ (.head _)).1
    · exact dq_apart N (Np _ (.tail _ (.head _))).1) k0 k1
  exact ret h' tk' t1 t2 t3 u3' pt' F' N'
theorem use_rtN (F:Fr h₀ L s.heap m) (N:News h₀ L s.heap (lexL w.params j0 j1 j2 t lx ld io id pb fs u0 u1 u2 u3 l xt (stV s0 st) (.str "" tt) (k0:Int) pt)) (Np:News h₀ L s.heap [(pb,dqO),(fs,dqO)]) (X:(K w.params).In h₀) (T:Top pv loose mean mg mb h₀) (B:Below A₀ base outer h₀)
    (hA:A.frames=some (env::outer)) (hf:env.frame=some L) (hke:env.scope.kind= .function) (hh:A.handled=none) (hd:Nat.ble A.depth 600=true) (hu:Nat.ble A.units 6000=true)
    (l1:lx≠ld) (l2:lx≠io) (l3:lx≠id) (l4:ld≠io) (l5:ld≠id) (l6:io≠id) (hx:l.length≤20000) (R:Rn l s1 [] false k1 s0 [] false k0)
    (ret:∀(h':Heap) (tk' t1 t2 t3 u3' pt':Nat),Fr h₀ L h' m→News h₀ L h' (lexL w.params j0 j1 j2 t lx ld io id pb fs u0 u1 u2 u3' l xt (stV s1 t2) (.str "" t3) (k1:Int) pt'++[(pb,dqO),(fs,dqO)])→Q .none {s with heap:=h',toks:=tk'}):
    wpAny (model pw_il0090_01 w) A (call (.ref 756) [.ref lx]) Q E s:=by
  obtain ⟨_,BG,sg,_⟩:=groundX (R:=fun _ _=>True) B F N hA hf hke
  refine weaken (A':=ar 600 6000 A.guards (env::outer)) hh (Nat.le_of_ble_eq_true hd) hA.symm rfl (Nat.le_of_ble_eq_true hu) ?_
  refine c_rtN w ⟨rfl,BG.stays,BG.frames⟩ (X.keeps sg) (T.keeps sg) (N _ (.head _)).1 (N _ (.tail _ (.head _))).1 (N _ (.tail _ (.tail _ (.head _)))).1 (N _ (.tail _ (.tail _ (.tail _ (.head _))))).1 l1 l2 l3 l4 l5 l6 hx R fun h' tk' t1 t2 t3 u3' pt' k0 k1=>?_
  obtain ⟨F',N'⟩:=mut_news F N Np (chg':=lexL w.params j0 j1 j2 t lx ld io id pb fs u0 u1 u2 u3' l xt (stV s1 t2) (.str "" t3) _ pt') rfl (fun q hq=>by
    simp only [List.mem_cons,List.not_mem_nil,or_false] at hq
    rcases hq with rfl|rfl
    · exact dq_apart N (Np _ (.head _)).1
    · exact dq_apart N (Np _ (.tail _ (.head _))).1) k0 k1
  exact ret h' tk' t1 t2 t3 u3' pt' F' N'
end
end Mine
end
section
namespace Mine
variable {j0 j1 j2:Int}
theorem two_out {g h:Heap} {L:Addr} {news:List (Addr × Obj)} {a b:Nat} {o o':Obj} (N:News g L h news) (m1:(a,o)∈news) (m2:(b,o')∈news):News g L h [(a,o),(b,o')]:=fun q hq=>by
  simp only [List.mem_cons,List.not_mem_nil,or_false] at hq
  rcases hq with rfl|rfl
  · exact N _ m1
  · exact N _ m2
theorem lex6_out {g h:Heap} {L:Addr} {news:List (Addr × Obj)} {P:Params} {t:Nat→Nat} {lx ld io id pb fs u0 u1 u2 u3 xt pt:Nat} {l:List Nat} {st tok:Value} {k:Int} (N:News g L h news)
    (m1:(lx,instObj 788 ld)∈news) (m2:(ld,lexD P t io pb fs true "" st tok)∈news) (m3:(io,instObj 653 id)∈news) (m4:(id,ioD j0 j1 j2 u0 u1 u2 u3 (tx l) xt k pt)∈news) (m5:(pb,dqO)∈news) (m6:(fs,dqO)∈news):
    ∀q∈lexL P j0 j1 j2 t lx ld io id pb fs u0 u1 u2 u3 l xt st tok k pt++[(pb,dqO),(fs,dqO)],h.get? q.1=some q.2:=fun q hq=>by
  rcases List.mem_append.mp hq with hq|hq
  · exact (lex_out N m1 m2 m3 m4 q hq).1
  · exact (two_out N m5 m6 q hq).1
theorem c_gtN (w:World) {lx ld io id pb fs:Nat} {t:Nat→Nat} {u0 u1 u2 u3 xt pt st tt s0 s1 k0 k1:Nat} {l:List Nat} {pv:Program}
    (Bw:Below (ar 580 5900 gd outer) base outer (hideAll s.heap [lx,ld,io,id,pb,fs])) (X:(K w.params).In (hideAll s.heap [lx,ld,io,id,pb,fs])) (T:Top pv loose mean mg mb (hideAll s.heap [lx,ld,io,id,pb,fs]))
    (hg0:s.heap.get? lx=some (instObj 788 ld)) (hg1:s.heap.get? ld=some (lexD w.params t io pb fs true "" (stV s0 st) (.str "" tt))) (hg2:s.heap.get? io=some (instObj 653 id)) (hg3:s.heap.get? id=some (ioD j0 j1 j2 u0 u1 u2 u3 (tx l) xt (k0:Int) pt)) (hg4:s.heap.get? pb=some (dqO)) (hg5:s.heap.get? fs=some (dqO)) (l1:lx≠ld) (l2:lx≠io) (l3:lx≠id) (l4:ld≠io) (l5:ld≠id) (l6:io≠id) (hx:l.length≤20000) (R:Rn l s1 [] false k1 s0 [] false k0)
    (hret:∀(h':Heap) (tk' t1 t2 t3 u3' pt':Nat),(∀b o,b ∉ [lx,ld,io,id,pb,fs]→s.heap.get? b=some o→h'.get? b=some o)→(∀q∈lexL w.params j0 j1 j2 t lx ld io id pb fs u0 u1 u2 u3' l xt (stV s1 t2) (.str "" t3) (k1:Int) pt'++[(pb,dqO),(fs,dqO)],h'.get? q.1=some q.2)→Q .none {s with heap:=h',toks:=tk'}):
    wpAny (model pw_il0090_01 w) (ar 580 5900 gd outer) (call (.ref 749) [.ref lx]) Q E s:=by
  have eK:rw_il0090_01=rw_il0090_01:=rfl
  revert eK X
  k_fill
  intro X eK
  refine wpAny_call ?_
  k_dflt (refine' own_enter (chg:=[(lx,instObj 788 ld),(ld,lexD w.params t io pb fs true "" (stV s0 st) (.str "" tt)),(io,instObj 653 id),(id,ioD j0 j1 j2 u0 u1 u2 u3 (tx l) xt (k0:Int) pt),(pb,dqO),(fs,dqO)]) ?k1 ?k2 ?k3 ?k4 ?k6 ?k7 ?k8 ?k9 ?kB ?_ ?c2 ?c3 ?c4 ?c5;(case k1=>exact Bw);(case k2=>intro q hq;simp only [List.mem_cons,List.not_mem_nil,or_false] at hq;rcases hq with rfl|rfl|rfl|rfl|rfl|rfl;exact hg0;exact hg1;exact hg2;exact hg3;exact hg4;exact hg5);(case k3=>exact X);(case k4=>exact T);(case k6=>k_is);(case k7=>k_is);(case k8=>exact Nat.le_of_ble_eq_true rfl);(case k9=>first|exact BindsTo.of_eq rfl|exact binds_K (Frag.In.keeps X fun b o e=>of_hideAll _ e) rfl (by k_is) rfl rfl rfl);(case c5=>decide);(case kB=>exact locs rfl);(case c2=>exact rfl);(case c3=>exact rfl);(case c4=>exact rfl);k_whole;intro g' L' h' hg' hL' F' N' B' X' T' hlt';clear X T Bw;(try dsimp only);(try k_fold))
  (try (refine let_ctx ?_;intro A9 e9))
  repeat' (first|(k_unfold;(try dsimp only))|((fail_if_success (fail_if_success (with_reducible refine is_call ?_)));first|(k_here;(try dsimp only [List.append_nil,List.nil_append,List.cons_append]);(with_reducible show wpAny _ _ (call (Value.ref 756) [Value.ref _]) _ _ _);k_dflt (refine' use_rtN (by k_asm) (by exact lex_out (by k_asm) (by k_mem) (by k_mem) (by k_mem) (by k_mem)) (by exact two_out (by k_asm) (by k_mem) (by k_mem)) (by k_asm) (by k_asm) (by k_asm) (by exact rfl) (by exact rfl) (by exact rfl) (by exact rfl) (by exact rfl) (by exact rfl) (by assumption) (by assumption) (by assumption) (by assumption) (by assumption) (by assumption) (by assumption) (by assumption) ?_;k_whole);intro h' tk' t1 t2 t3 u3' pt' F' N';(try simp only [List.cons_append,List.nil_append] at N')))|((fail_if_success (fail_if_success (with_reducible refine is_tr ?_)));first|(k_here;(with_reducible show wpAny _ _ (truthy (Value.ref _)) _ _ _);k_dflt (refine' truthy_dq (by exact News.get (by k_asm) (by k_mem)) ?_);intro _))|(k_end;kc_close)|walk1|(dsimp only;walk1)|(leave1;(try dsimp only)))
  all_goals (
    show Q _ _
    (rename News _ _ _ _=>N9)
    exact hret _ _ 0 _ _ _ _ (kept_hide hg' (by assumption)) (lex6_out N9 (by k_mem) (by k_mem) (by k_mem) (by k_mem) (by k_mem) (by k_mem)))
theorem c_gt (w:World) {lx ld io id pb fs:Nat} {t:Nat→Nat} {u0 u1 u2 u3 xt pt st tt s0 s1 k0 k1:Nat} {l tl1:List Nat} {q1:Bool} {pv:Program}
    (Bw:Below (ar 580 5900 gd outer) base outer (hideAll s.heap [lx,ld,io,id,pb,fs])) (X:(K w.params).In (hideAll s.heap [lx,ld,io,id,pb,fs])) (T:Top pv loose mean mg mb (hideAll s.heap [lx,ld,io,id,pb,fs]))
    (hg0:s.heap.get? lx=some (instObj 788 ld)) (hg1:s.heap.get? ld=some (lexD w.params t io pb fs true "" (stV s0 st) (.str "" tt))) (hg2:s.heap.get? io=some (instObj 653 id)) (hg3:s.heap.get? id=some (ioD j0 j1 j2 u0 u1 u2 u3 (tx l) xt (k0:Int) pt)) (hg4:s.heap.get? pb=some (dqO)) (hg5:s.heap.get? fs=some (dqO)) (l1:lx≠ld) (l2:lx≠io) (l3:lx≠id) (l4:ld≠io) (l5:ld≠id) (l6:io≠id) (hx:l.length≤20000) (R:Rn l s1 tl1 q1 k1 s0 [] false k0) (hp:1≤tl1.length)
    (hret:∀(h':Heap) (tk' t1 t2 t3 u3' pt':Nat),(∀b o,b ∉ [lx,ld,io,id,pb,fs]→s.heap.get? b=some o→h'.get? b=some o)→(∀q∈lexL w.params j0 j1 j2 t lx ld io id pb fs u0 u1 u2 u3' l xt (stV s1 t2) (.str "" t3) (k1:Int) pt'++[(pb,dqO),(fs,dqO)],h'.get? q.1=some q.2)→Q (.str (tx tl1) t1) {s with heap:=h',toks:=tk'}):
    wpAny (model pw_il0090_01 w) (ar 580 5900 gd outer) (call (.ref 749) [.ref lx]) Q E s:=by
  have eK:rw_il0090_01=rw_il0090_01:=rfl
  revert eK X
  k_fill
  intro X eK
  refine wpAny_call ?_
  k_dflt (refine' own_enter (chg:=[(lx,instObj 788 ld),(ld,lexD w.params t io pb fs true "" (stV s0 st) (.str "" tt)),(io,instObj 653 id),(id,ioD j0 j1 j2 u0 u1 u2 u3 (tx l) xt (k0:Int) pt),(pb,dqO),(fs,dqO)]) ?k1 ?k2 ?k3 ?k4 ?k6 ?k7 ?k8 ?k9 ?kB ?_ ?c2 ?c3 ?c4 ?c5;(case k1=>exact Bw);(case k2=>intro q hq;simp only [List.mem_cons,List.not_mem_nil,or_false] at hq;rcases hq with rfl|rfl|rfl|rfl|rfl|rfl;exact hg0;exact hg1;exact hg2;exact hg3;exact hg4;exact hg5);(case k3=>exact X);(case k4=>exact T);(case k6=>k_is);(case k7=>k_is);(case k8=>exact Nat.le_of_ble_eq_true rfl);(case k9=>first|exact BindsTo.of_eq rfl|exact binds_K (Frag.In.keeps X fun b o e=>of_hideAll _ e) rfl (by k_is) rfl rfl rfl);(case c5=>decide);(case kB=>exact locs rfl);(case c2=>exact rfl);(case c3=>exact rfl);(case c4=>exact rfl);k_whole;intro g' L' h' hg' hL' F' N' B' X' T' hlt';clear X T Bw;(try dsimp only);(try k_fold))
  (try (refine let_ctx ?_;intro A9 e9))
  repeat' (first|(k_unfold;(try dsimp only))|((fail_if_success (fail_if_success (with_reducible refine is_call ?_)));first|(k_here;(try dsimp only [List.append_nil,List.nil_append,List.cons_append]);(with_reducible show wpAny _ _ (call (Value.ref 756) [Value.ref _]) _ _ _);k_dflt (refine' use_rt (by k_asm) (by exact lex_out (by k_asm) (by k_mem) (by k_mem) (by k_mem) (by k_mem)) (by exact two_out (by k_asm) (by k_mem) (by k_mem)) (by k_asm) (by k_asm) (by k_asm) (by exact rfl) (by exact rfl) (by exact rfl) (by exact rfl) (by exact rfl) (by exact rfl) (by assumption) (by assumption) (by assumption) (by assumption) (by assumption) (by assumption) (by assumption) (by assumption) (by assumption) ?_;k_whole);intro h' tk' t1 t2 t3 u3' pt' F' N';(try simp only [List.cons_append,List.nil_append] at N'))|(k_here;(try dsimp only [List.append_nil,List.nil_append,List.cons_append]);(with_reducible show wpAny _ _ (call (Value.ref 756) [Value.ref _]) _ _ _);k_dflt (refine' use_rtN (by k_asm) (by exact lex_out (by k_asm) (by k_mem) (by k_mem) (by k_mem) (by k_mem)) (by exact two_out (by k_asm) (by k_mem) (by k_mem)) (by k_asm) (by k_asm) (by k_asm) (by exact rfl) (by exact rfl) (by exact rfl) (by exact rfl) (by exact rfl) (by exact rfl) (by assumption) (by assumption) (by assumption) (by assumption) (by assumption) (by assumption) (by assumption) (by assumption) ?_;k_whole);intro h' tk' t1 t2 t3 u3' pt' F' N';(try simp only [List.cons_append,List.nil_append] at N')))|((fail_if_success (fail_if_success (with_reducible refine is_tr ?_)));first|(k_here;(with_reducible show wpAny _ _ (truthy (Value.ref _)) _ _ _);k_dflt (refine' truthy_dq (by exact News.get (by k_asm) (by k_mem)) ?_);intro _))|(k_end;kc_close)|walk1|(dsimp only;walk1)|(leave1;(try dsimp only)))
  all_goals (
    show Q _ _
    (rename News _ _ _ _=>N9)
    exact hret _ _ _ _ _ _ _ (kept_hide hg' (by assumption)) (lex6_out N9 (by k_mem) (by k_mem) (by k_mem) (by k_mem) (by k_mem) (by k_mem)))
end Mine
end
section
namespace Mine
variable {j0 j1 j2:Int}
theorem raised_out {base:Heap} {outer:List Env} {e:Addr} {X:String} {t:Addr} {vs:List Value} {news:List (Addr × Obj)} {h:Heap} (R:RaisedK base outer e (.type X) t vs news h):
    (∀q∈news,h.get? q.1=some q.2)∧base.StaysIn h∧∃o,h.get? e=some o∧o.cls= .type X:=by
  obtain ⟨⟨B,hB,hl,hfl,_⟩,_⟩:=R
  exact ⟨fun q hq=>hfl.1 _ _ (hl q hq).1,fun b o e=>hfl.1 _ _ (hB b o e),(flyingW_base hB hfl).there⟩
theorem lex6_news {g h:Heap} {L:Addr} {news:List (Addr × Obj)} {P:Params} {t:Nat→Nat} {lx ld io id pb fs u0 u1 u2 u3 xt pt:Nat} {l:List Nat} {st tok:Value} {k:Int} (N:News g L h news)
    (m1:(lx,instObj 788 ld)∈news) (m2:(ld,lexD P t io pb fs true "" st tok)∈news) (m3:(io,instObj 653 id)∈news) (m4:(id,ioD j0 j1 j2 u0 u1 u2 u3 (tx l) xt k pt)∈news) (m5:(pb,dqO)∈news) (m6:(fs,dqO)∈news):
    News g L h (lexL P j0 j1 j2 t lx ld io id pb fs u0 u1 u2 u3 l xt st tok k pt++[(pb,dqO),(fs,dqO)]):=fun q hq=>by
  rcases List.mem_append.mp hq with hq|hq
  · exact lex_out N m1 m2 m3 m4 q hq
  · exact two_out N m5 m6 q hq
theorem use_gtN {w:World} {A A₀:Around} {base h₀:Heap} {env:Env} {outer:List Env} {L:Addr} {pv:Program} {m mg mb:Str→Option Value} {mean:ExcName→Option Value} {loose:List Str} {s:Shared} {Q E:Value→Shared→Prop} {lx ld io id pb fs:Nat} {t:Nat→Nat} {u0 u1 u2 u3 xt pt st tt s0 s1 k0 k1:Nat} {l:List Nat} {rest:List (Addr × Obj)} (F:Fr h₀ L s.heap m) (N:News h₀ L s.heap (lexL w.params j0 j1 j2 t lx ld io id pb fs u0 u1 u2 u3 l xt (stV s0 st) (.str "" tt) (k0:Int) pt++[(pb,dqO),(fs,dqO)])) (X:(K w.params).In h₀) (T:Top pv loose mean mg mb h₀) (B:Below A₀ base outer h₀) (hA:A.frames=some (env::outer)) (hf:env.frame=some L) (hke:env.scope.kind= .function) (hh:A.handled=none) (hd:Nat.ble A.depth 580=true) (hu:Nat.ble A.units 5900=true) (l1:lx≠ld) (l2:lx≠io) (l3:lx≠id) (l4:ld≠io) (l5:ld≠id) (l6:io≠id) (hx:l.length≤20000) (R:Rn l s1 [] false k1 s0 [] false k0) (hra:∀q∈rest,q.1 ∉ [lx,ld,io,id,pb,fs]) (Nr:News h₀ L s.heap rest) (ret:∀(h':Heap) (tk' t1 t2 t3 u3' pt':Nat),Fr h₀ L h' m→News h₀ L h' (lexL w.params j0 j1 j2 t lx ld io id pb fs u0 u1 u2 u3' l xt (stV s1 t2) (.str "" t3) (k1:Int) pt'++[(pb,dqO),(fs,dqO)]++rest)→Q .none {s with heap:=h',toks:=tk'}):
    wpAny (model pw_il0090_01 w) A (call (.ref 749) [.ref lx]) Q E s:=by
  obtain ⟨_,BG,sg,_⟩:=groundX (R:=fun _ _=>True) B F N hA hf hke
  refine weaken (A':=ar 580 5900 A.guards (env::outer)) hh (Nat.le_of_ble_eq_true hd) hA.symm rfl (Nat.le_of_ble_eq_true hu) ?_
  refine c_gtN w ⟨rfl,BG.stays,BG.frames⟩ (X.keeps sg) (T.keeps sg) (N _ (.head _)).1 (N (ld,_) (.tail _ (.head _))).1 (N _ (.tail _ (.tail _ (.head _)))).1 (N (id,_) (.tail _ (.tail _ (.tail _ (.head _))))).1 (N _ (.tail _ (.tail _ (.tail _ (.tail _ (.head _)))))).1 (N _ (.tail _ (.tail _ (.tail _ (.tail _ (.tail _ (.head _))))))).1 l1 l2 l3 l4 l5 l6 hx R fun h' tk' t1 t2 t3 u3' pt' k0 k1=>?_
  obtain ⟨F',N'⟩:=mut_news (rest:=rest) F N Nr (chg':=lexL w.params j0 j1 j2 t lx ld io id pb fs u0 u1 u2 u3' l xt (stV s1 t2) (.str "" t3) _ pt'++[(pb,dqO),(fs,dqO)]) rfl hra k0 k1
  exact ret h' tk' t1 t2 t3 u3' pt' F' N'
theorem use_gt {w:World} {A A₀:Around} {base h₀:Heap} {env:Env} {outer:List Env} {L:Addr} {pv:Program} {m mg mb:Str→Option Value} {mean:ExcName→Option Value} {loose:List Str} {s:Shared} {Q E:Value→Shared→Prop} {lx ld io id pb fs:Nat} {t:Nat→Nat} {u0 u1 u2 u3 xt pt st tt s0 s1 k0 k1:Nat} {l tl1:List Nat} {q1:Bool} {rest:List (Addr × Obj)} (F:Fr h₀ L s.heap m) (N:News h₀ L s.heap (lexL w.params j0 j1 j2 t lx ld io id pb fs u0 u1 u2 u3 l xt (stV s0 st) (.str "" tt) (k0:Int) pt++[(pb,dqO),(fs,dqO)])) (X:(K w.params).In h₀) (T:Top pv loose mean mg mb h₀) (B:Below A₀ base outer h₀) (hA:A.frames=some (env::outer)) (hf:env.frame=some L) (hke:env.scope.kind= .function) (hh:A.handled=none) (hd:Nat.ble A.depth 580=true) (hu:Nat.ble A.units 5900=true) (l1:lx≠ld) (l2:lx≠io) (l3:lx≠id) (l4:ld≠io) (l5:ld≠id) (l6:io≠id) (hx:l.length≤20000) (R:Rn l s1 tl1 q1 k1 s0 [] false k0) (hra:∀q∈rest,q.1 ∉ [lx,ld,io,id,pb,fs]) (Nr:News h₀ L s.heap rest) (hp:1≤tl1.length) (ret:∀(h':Heap) (tk' t1 t2 t3 u3' pt':Nat),Fr h₀ L h' m→News h₀ L h' (lexL w.params j0 j1 j2 t lx ld io id pb fs u0 u1 u2 u3' l xt (stV s1 t2) (.str "" t3) (k1:Int) pt'++[(pb,dqO),(fs,dqO)]++rest)→Q (.str (tx tl1) t1) {s with heap:=h',toks:=tk'}):
    wpAny (model pw_il0090_01 w) A (call (.ref 749) [.ref lx]) Q E s:=by
  obtain ⟨_,BG,sg,_⟩:=groundX (R:=fun _ _=>True) B F N hA hf hke
  refine weaken (A':=ar 580 5900 A.guards (env::outer)) hh (Nat.le_of_ble_eq_true hd) hA.symm rfl (Nat.le_of_ble_eq_true hu) ?_
  refine c_gt w ⟨rfl,BG.stays,BG.frames⟩ (X.keeps sg) (T.keeps sg) (N _ (.head _)).1 (N (ld,_) (.tail _ (.head _))).1 (N _ (.tail _ (.tail _ (.head _)))).1 (N (id,_) (.tail _ (.tail _ (.tail _ (.head _))))).1 (N _ (.tail _ (.tail _ (.tail _ (.tail _ (.head _)))))).1 (N _ (.tail _ (.tail _ (.tail _ (.tail _ (.tail _ (.head _))))))).1 l1 l2 l3 l4 l5 l6 hx R hp fun h' tk' t1 t2 t3 u3' pt' k0 k1=>?_
  obtain ⟨F',N'⟩:=mut_news (rest:=rest) F N Nr (chg':=lexL w.params j0 j1 j2 t lx ld io id pb fs u0 u1 u2 u3' l xt (stV s1 t2) (.str "" t3) _ pt'++[(pb,dqO),(fs,dqO)]) rfl hra k0 k1
  exact ret h' tk' t1 t2 t3 u3' pt' F' N'
end Mine
end
section
namespace Mine
variable {j0 j1 j2:Int}
theorem c_nxN (w:World) {lx ld io id pb fs:Nat} {t:Nat→Nat} {u0 u1 u2 u3 xt pt st tt s0 s1 k0 k1:Nat} {l:List Nat} {rest:List (Addr × Obj)} {pv:Program}
    (Bw:Below (ar 560 5800 gd outer) base outer (hideAll s.heap ([lx,ld,io,id,pb,fs]++rest.map (·.1)))) (X:(K w.params).In (hideAll s.heap ([lx,ld,io,id,pb,fs]++rest.map (·.1)))) (T:Top pv loose mean mg mb (hideAll s.heap ([lx,ld,io,id,pb,fs]++rest.map (·.1))))
    (hg0:s.heap.get? lx=some (instObj 788 ld)) (hg1:s.heap.get? ld=some (lexD w.params t io pb fs true "" (stV s0 st) (.str "" tt))) (hg2:s.heap.get? io=some (instObj 653 id)) (hg3:s.heap.get? id=some (ioD j0 j1 j2 u0 u1 u2 u3 (tx l) xt (k0:Int) pt)) (hg4:s.heap.get? pb=some (dqO)) (hg5:s.heap.get? fs=some (dqO)) (hrest:∀q∈rest,s.heap.get? q.1=some q.2) (hra:∀q∈rest,q.1 ∉ [lx,ld,io,id,pb,fs]) (l1:lx≠ld) (l2:lx≠io) (l3:lx≠id) (l4:ld≠io) (l5:ld≠id) (l6:io≠id) (hx:l.length≤20000) (R:Rn l s1 [] false k1 s0 [] false k0)
    (hexc:∀(e:Nat) (h':Heap) (tk' t2 t3 u3' pt':Nat),(∀q∈lexL w.params j0 j1 j2 t lx ld io id pb fs u0 u1 u2 u3' l xt (stV s1 t2) (.str "" t3) (k1:Int) pt'++[(pb,dqO),(fs,dqO)]++rest,h'.get? q.1=some q.2)→base.StaysIn h'→
      (hideAll s.heap ([lx,ld,io,id,pb,fs]++rest.map (·.1))).UpToSlots h'→(∃o,h'.get? e=some o∧o.cls= .type "StopIteration")→E (.ref e) {s with heap:=h',toks:=tk'}):
    wpAny (model pw_il0090_01 w) (ar 560 5800 gd outer) (call (.ref 785) [.ref lx]) Q E s:=by
  have eK:rw_il0090_01=rw_il0090_01:=rfl
  revert eK X
  k_fill
  intro X eK
  refine wpAny_call ?_
  k_dflt (refine' own_enter (chg:=[(lx,instObj 788 ld),(ld,lexD w.params t io pb fs true "" (stV s0 st) (.str "" tt)),(io,instObj 653 id),(id,ioD j0 j1 j2 u0 u1 u2 u3 (tx l) xt (k0:Int) pt),(pb,dqO),(fs,dqO)]++rest) ?k1 ?k2 ?k3 ?k4 ?k6 ?k7 ?k8 ?k9 ?kB ?_ ?c2 ?c3 ?c4 ?c5;(case k1=>exact Bw);(case k2=>intro q hq;rcases List.mem_append.mp hq with hq|hq;(simp only [List.mem_cons,List.not_mem_nil,or_false] at hq;rcases hq with rfl|rfl|rfl|rfl|rfl|rfl;exact hg0;exact hg1;exact hg2;exact hg3;exact hg4;exact hg5);exact hrest q hq);(case k3=>exact X);(case k4=>exact T);(case k6=>k_is);(case k7=>k_is);(case k8=>exact Nat.le_of_ble_eq_true rfl);(case k9=>first|exact BindsTo.of_eq rfl|exact binds_K (Frag.In.keeps X fun b o e=>of_hideAll _ e) rfl (by k_is) rfl rfl rfl);(case c5=>decide);(case kB=>exact locs rfl);(case c2=>exact rfl);(case c3=>exact rfl);(case c4=>exact rfl);k_whole;intro g' L' h' hg' hL' F' N' B' X' T' hlt';clear X T Bw;(try dsimp only);(try k_fold))
  simp only [List.cons_append,List.nil_append] at N'
  (try (refine let_ctx ?_;intro A9 e9))
  repeat' (first|(k_unfold;(try dsimp only))|((fail_if_success (fail_if_success (with_reducible refine is_call ?_)));first|(k_here;(try dsimp only [List.append_nil,List.nil_append,List.cons_append]);(with_reducible show wpAny _ _ (call (Value.ref 749) [Value.ref _]) _ _ _);k_dflt (refine' use_gtN (by k_asm) (by exact lex6_news (by k_asm) (by k_mem) (by k_mem) (by k_mem) (by k_mem) (by k_mem) (by k_mem)) (by k_asm) (by k_asm) (by k_asm) (by exact rfl) (by exact rfl) (by exact rfl) (by exact rfl) (by exact rfl) (by exact rfl) (by assumption) (by assumption) (by assumption) (by assumption) (by assumption) (by assumption) (by assumption) (by assumption) (by assumption) (by intro q hq;(refine (show News _ _ _ _ by k_asm) q ?_);repeat (first|assumption|apply List.Mem.tail)) ?_;k_whole);intro h' tk' t1 t2 t3 u3' pt' F' N';(try simp only [List.cons_append,List.nil_append,List.append_nil] at N')))|((fail_if_success (fail_if_success (with_reducible refine is_tr ?_)));first|(k_here;(with_reducible show wpAny _ _ (truthy (Value.ref _)) _ _ _);k_dflt (refine' truthy_dq (by exact News.get (by k_asm) (by k_mem)) ?_);intro _))|(k_end;kc_close)|walk1|(dsimp only;walk1)|(leave1;(try dsimp only)))
  (rename RaisedK _ _ _ _ _ _ _ _=>R9)
  (rename Heap.UpToSlots _ _=>U9)
  obtain ⟨a9,b9,c9⟩:=raised_out R9
  exact hexc _ _ _ _ _ _ _ a9 b9 (hg'▸U9) c9
theorem c_nx (w:World) {lx ld io id pb fs:Nat} {t:Nat→Nat} {u0 u1 u2 u3 xt pt st tt s0 s1 k0 k1:Nat} {l tl1:List Nat} {q1:Bool} {pv:Program}
    (Bw:Below (ar 560 5800 gd outer) base outer (hideAll s.heap [lx,ld,io,id,pb,fs])) (X:(K w.params).In (hideAll s.heap [lx,ld,io,id,pb,fs])) (T:Top pv loose mean mg mb (hideAll s.heap [lx,ld,io,id,pb,fs]))
    (hg0:s.heap.get? lx=some (instObj 788 ld)) (hg1:s.heap.get? ld=some (lexD w.params t io pb fs true "" (stV s0 st) (.str "" tt))) (hg2:s.heap.get? io=some (instObj 653 id)) (hg3:s.heap.get? id=some (ioD j0 j1 j2 u0 u1 u2 u3 (tx l) xt (k0:Int) pt)) (hg4:s.heap.get? pb=some (dqO)) (hg5:s.heap.get? fs=some (dqO)) (l1:lx≠ld) (l2:lx≠io) (l3:lx≠id) (l4:ld≠io) (l5:ld≠id) (l6:io≠id) (hx:l.length≤20000) (R:Rn l s1 tl1 q1 k1 s0 [] false k0) (hp:1≤tl1.length)
    (hret:∀(h':Heap) (tk' t1 t2 t3 u3' pt':Nat),(∀b o,b ∉ [lx,ld,io,id,pb,fs]→s.heap.get? b=some o→h'.get? b=some o)→(∀q∈lexL w.params j0 j1 j2 t lx ld io id pb fs u0 u1 u2 u3' l xt (stV s1 t2) (.str "" t3) (k1:Int) pt'++[(pb,dqO),(fs,dqO)],h'.get? q.1=some q.2)→Q (.str (tx tl1) t1) {s with heap:=h',toks:=tk'}):
    wpAny (model pw_il0090_01 w) (ar 560 5800 gd outer) (call (.ref 785) [.ref lx]) Q E s:=by
  have eK:rw_il0090_01=rw_il0090_01:=rfl
  revert eK X
  k_fill
  intro X eK
  refine wpAny_call ?_
  k_dflt (refine' own_enter (chg:=[(lx,instObj 788 ld),(ld,lexD w.params t io pb fs true "" (stV s0 st) (.str "" tt)),(io,instObj 653 id),(id,ioD j0 j1 j2 u0 u1 u2 u3 (tx l) xt (k0:Int) pt),(pb,dqO),(fs,dqO)]) ?k1 ?k2 ?k3 ?k4 ?k6 ?k7 ?k8 ?k9 ?kB ?_ ?c2 ?c3 ?c4 ?c5;(case k1=>exact Bw);(case k2=>intro q hq;simp only [List.mem_cons,List.not_mem_nil,or_false] at hq;rcases hq with rfl|rfl|rfl|rfl|rfl|rfl;exact hg0;exact hg1;exact hg2;exact hg3;exact hg4;exact hg5);(case k3=>exact X);(case k4=>exact T);(case k6=>k_is);(case k7=>k_is);(case k8=>exact Nat.le_of_ble_eq_true rfl);(case k9=>first|exact BindsTo.of_eq rfl|exact binds_K (Frag.In.keeps X fun b o e=>of_hideAll _ e) rfl (by k_is) rfl rfl rfl);(case c5=>decide);(case kB=>exact locs rfl);(case c2=>exact rfl);(case c3=>exact rfl);(case c4=>exact rfl);k_whole;intro g' L' h' hg' hL' F' N' B' X' T' hlt';clear X T Bw;(try dsimp only);(try k_fold))
  (try (refine let_ctx ?_;intro A9 e9))
  repeat' (first|(k_unfold;(try dsimp only))|((fail_if_success (fail_if_success (with_reducible refine is_call ?_)));first|(k_here;(try dsimp only [List.append_nil,List.nil_append,List.cons_append]);(with_reducible show wpAny _ _ (call (Value.ref 749) [Value.ref _]) _ _ _);k_dflt (refine' use_gt (rest:=[]) (by k_asm) (by exact lex6_news (by k_asm) (by k_mem) (by k_mem) (by k_mem) (by k_mem) (by k_mem) (by k_mem)) (by k_asm) (by k_asm) (by k_asm) (by exact rfl) (by exact rfl) (by exact rfl) (by exact rfl) (by exact rfl) (by exact rfl) (by assumption) (by assumption) (by assumption) (by assumption) (by assumption) (by assumption) (by assumption) (by assumption) (by exact fun _ h=>nomatch h) (by exact fun _ h=>nomatch h) (by assumption) ?_;k_whole);intro h' tk' t1 t2 t3 u3' pt' F' N';(try simp only [List.cons_append,List.nil_append,List.append_nil] at N'))|(k_here;(try dsimp only [List.append_nil,List.nil_append,List.cons_append]);(with_reducible show wpAny _ _ (call (Value.ref 749) [Value.ref _]) _ _ _);k_dflt (refine' use_gtN (by k_asm) (by exact lex6_news (by k_asm) (by k_mem) (by k_mem) (by k_mem) (by k_mem) (by k_mem) (by k_mem)) (by k_asm) (by k_asm) (by k_asm) (by exact rfl) (by exact rfl) (by exact rfl) (by exact rfl) (by exact rfl) (by exact rfl) (by assumption) (by assumption) (by assumption) (by assumption) (by assumption) (by assumption) (by assumption) (by assumption) (by assumption) (by intro q hq;(refine (show News _ _ _ _ by k_asm) q ?_);repeat (first|assumption|apply List.Mem.tail)) ?_;k_whole);intro h' tk' t1 t2 t3 u3' pt' F' N';(try simp only [List.cons_append,List.nil_append,List.append_nil] at N')))|((fail_if_success (fail_if_success (with_reducible refine is_tr ?_)));first|(k_here;(with_reducible show wpAny _ _ (truthy (Value.ref _)) _ _ _);k_dflt (refine' truthy_dq (by exact News.get (by k_asm) (by k_mem)) ?_);intro _))|(k_end;kc_close)|walk1|(dsimp only;walk1)|(leave1;(try dsimp only)))
  all_goals (
    show Q _ _
    (rename News _ _ _ _=>N9)
    exact hret _ _ _ _ _ _ _ (kept_hide hg' (by assumption)) (lex6_out N9 (by k_mem) (by k_mem) (by k_mem) (by k_mem) (by k_mem) (by k_mem)))
end Mine
end
section
namespace Mine
variable {j0 j1 j2:Int}
noncomputable abbrev ads6 (lx ld io id pb fs:Nat):List Nat:=[lx,ld,io,id,pb,fs]
noncomputable abbrev lex6 (P:Params) (j0 j1 j2:Int) (t:Nat→Nat) (lx ld io id pb fs:Nat) (u0 u1 u2 u3:Nat) (l:List Nat) (xt:Nat) (st tok:Value) (k:Int) (pt:Nat):List (Addr × Obj):=
  lexL P j0 j1 j2 t lx ld io id pb fs u0 u1 u2 u3 l xt st tok k pt++[(pb,dqO),(fs,dqO)]
theorem hide_sub {base h:Heap} {as:List Addr} (k:base.StaysIn h) (n:∀a∈as,base.get? a=none):base.StaysIn (hideAll h as):=fun b o e=>hideAll_get _ (k b o e) fun hm=>by rw [n b hm] at e;cases e
section
variable {w:World} {A A₀:Around} {base h₀:Heap} {env:Env} {outer:List Env} {L:Addr} {pv:Program} {m mg mb:Str→Option Value} {mean:ExcName→Option Value} {loose:List Str} {s:Shared} {Q E:Value→Shared→Prop}
    {lx ld io id pb fs:Nat} {t:Nat→Nat} {u0 u1 u2 u3 xt pt st tt s0 s1 k0 k1:Nat} {l tl1:List Nat} {q1:Bool}
theorem use_nx (F:Fr h₀ L s.heap m) (N:News h₀ L s.heap (lex6 w.params j0 j1 j2 t lx ld io id pb fs u0 u1 u2 u3 l xt (stV s0 st) (.str "" tt) (k0:Int) pt)) (X:(K w.params).In h₀) (T:Top pv loose mean mg mb h₀) (B:Below A₀ base outer h₀)
    (hA:A.frames=some (env::outer)) (hf:env.frame=some L) (hke:env.scope.kind= .function) (hh:A.handled=none) (hd:A.depth≤560) (hu:A.units≤5800)
    (l1:lx≠ld) (l2:lx≠io) (l3:lx≠id) (l4:ld≠io) (l5:ld≠id) (l6:io≠id) (hx:l.length≤20000) (R:Rn l s1 tl1 q1 k1 s0 [] false k0) (hp:1≤tl1.length)
    (ret:∀(h':Heap) (tk' t1 t2 t3 u3' pt':Nat),Fr h₀ L h' m→News h₀ L h' (lex6 w.params j0 j1 j2 t lx ld io id pb fs u0 u1 u2 u3' l xt (stV s1 t2) (.str "" t3) (k1:Int) pt')→(∀b o,b ∉ ads6 lx ld io id pb fs→s.heap.get? b=some o→h'.get? b=some o)→Q (.str (tx tl1) t1) {s with heap:=h',toks:=tk'}):
    wpAny (model pw_il0090_01 w) A (call (.ref 785) [.ref lx]) Q E s:=by
  obtain ⟨_,BG,sg,_⟩:=groundX (R:=fun _ _=>True) B F N hA hf hke
  refine weaken (A':=ar 560 5800 A.guards (env::outer)) hh hd hA.symm rfl hu ?_
  refine c_nx w ⟨rfl,BG.stays,BG.frames⟩ (X.keeps sg) (T.keeps sg) (N _ (.head _)).1 (N (ld,_) (.tail _ (.head _))).1 (N _ (.tail _ (.tail _ (.head _)))).1 (N (id,_) (.tail _ (.tail _ (.tail _ (.head _))))).1 (N _ (.tail _ (.tail _ (.tail _ (.tail _ (.head _)))))).1 (N _ (.tail _ (.tail _ (.tail _ (.tail _ (.tail _ (.head _))))))).1 l1 l2 l3 l4 l5 l6 hx R hp fun h' tk' t1 t2 t3 u3' pt' k0 k1=>?_
  obtain ⟨F',N'⟩:=mut_news (rest:=[]) F N (fun _ h=>nomatch h) (chg':=lex6 w.params j0 j1 j2 t lx ld io id pb fs u0 u1 u2 u3' l xt (stV s1 t2) (.str "" t3) _ pt') rfl (fun _ h=>nomatch h) k0 k1
  rw [List.append_nil] at N'
  exact ret h' tk' t1 t2 t3 u3' pt' F' N' k0
theorem use_nxN {rest:List (Addr × Obj)} (F:Fr h₀ L s.heap m) (N:News h₀ L s.heap (lex6 w.params j0 j1 j2 t lx ld io id pb fs u0 u1 u2 u3 l xt (stV s0 st) (.str "" tt) (k0:Int) pt)) (XB:(K w.params).In base) (TB:Top pv loose mean mg mb base) (B:Below A₀ base outer h₀)
    (hA:A.frames=some (env::outer)) (hf:env.frame=some L) (hke:env.scope.kind= .function) (hh:A.handled=none) (hd:A.depth≤560) (hu:A.units≤5800)
    (l1:lx≠ld) (l2:lx≠io) (l3:lx≠id) (l4:ld≠io) (l5:ld≠id) (l6:io≠id) (hx:l.length≤20000) (R:Rn l s1 [] false k1 s0 [] false k0)
    (hrest:∀q∈rest,s.heap.get? q.1=some q.2) (hra:∀q∈rest,q.1 ∉ ads6 lx ld io id pb fs) (hrb:∀q∈rest,base.get? q.1=none) (hrf:∀e∈env::outer,∀q∈rest,e.frame≠some q.1)
    (hexc:∀(e:Nat) (h':Heap) (tk':Nat),(∀q∈rest,h'.get? q.1=some q.2)→base.StaysIn h'→(hideAll s.heap (ads6 lx ld io id pb fs++rest.map (·.1))).UpToSlots h'→(∃o,h'.get? e=some o∧o.cls= .type "StopIteration")→E (.ref e) {s with heap:=h',toks:=tk'}):
    wpAny (model pw_il0090_01 w) A (call (.ref 785) [.ref lx]) Q E s:=by
  have BP:=pushX B F hf hke
  have nb:∀a∈ads6 lx ld io id pb fs++rest.map (·.1),base.get? a=none:=by
    intro a ha
    rcases List.mem_append.mp ha with ha|ha
    · have:∃o,(a,o)∈lex6 w.params j0 j1 j2 t lx ld io id pb fs u0 u1 u2 u3 l xt (stV s0 st) (.str "" tt) (k0:Int) pt:=by
        have e:ads6 lx ld io id pb fs=(lex6 w.params j0 j1 j2 t lx ld io id pb fs u0 u1 u2 u3 l xt (stV s0 st) (.str "" tt) (k0:Int) pt).map (·.1):=rfl
        rw [e] at ha
        obtain ⟨q,hq,rfl⟩:=List.mem_map.mp ha
        exact ⟨q.2,hq⟩
      obtain ⟨o,ho⟩:=this
      have:=(N _ ho).2.2
      cases q:base.get? a with
      | none=>rfl
      | some x=>rw [B.stays _ _ q] at this;cases this
    · obtain ⟨q,hq,rfl⟩:=List.mem_map.mp ha
      exact hrb q hq
  have st':base.StaysIn (hideAll s.heap (ads6 lx ld io id pb fs++rest.map (·.1))):=hide_sub BP.stays nb
  have ff:(hideAll s.heap (ads6 lx ld io id pb fs++rest.map (·.1))).FunFrames base (env::outer):=by
    refine funFrames_hideAll BP.frames fun e he a ha hfa=>?_
    rcases List.mem_append.mp ha with ha|ha
    · have e6:ads6 lx ld io id pb fs=(lex6 w.params j0 j1 j2 t lx ld io id pb fs u0 u1 u2 u3 l xt (stV s0 st) (.str "" tt) (k0:Int) pt).map (·.1):=rfl
      rw [e6] at ha
      obtain ⟨q,hq,rfl⟩:=List.mem_map.mp ha
      cases he with
      | head=>rw [hf] at hfa;exact (N q hq).2.1 (Option.some.inj hfa).symm
      | tail _ he=>
        obtain ⟨L₁,o₁,hf₁,ho₁⟩:=funFrames_in B.frames e he
        rw [hf₁] at hfa
        have:=(N q hq).2.2
        rw [←Option.some.inj hfa,ho₁] at this
        cases this
    · obtain ⟨q,hq,rfl⟩:=List.mem_map.mp ha
      exact hrf e he q hq hfa
  refine weaken (A':=ar 560 5800 A.guards (env::outer)) hh hd hA.symm rfl hu ?_
  refine c_nxN w (rest:=rest) ⟨rfl,st',ff⟩ (XB.keeps st') (TB.keeps st') (N _ (.head _)).1 (N (ld,_) (.tail _ (.head _))).1 (N _ (.tail _ (.tail _ (.head _)))).1 (N (id,_) (.tail _ (.tail _ (.tail _ (.head _))))).1 (N _ (.tail _ (.tail _ (.tail _ (.tail _ (.head _)))))).1 (N _ (.tail _ (.tail _ (.tail _ (.tail _ (.tail _ (.head _))))))).1 hrest hra l1 l2 l3 l4 l5 l6 hx R fun e h' tk' t2 t3 u3' pt' k0 k1 k2 k3=>?_
  exact hexc e h' tk' (fun q hq=>k0 q (List.mem_append_right _ hq)) k1 k2 k3
end
end Mine
end
section
namespace Mine
variable {j0 j1 j2:Int}
inductive Wds (l:List Nat):Nat→Nat→List (List Nat)→Prop
  | nil {s0 k0 s1 k1}:Rn l s1 [] false k1 s0 [] false k0→Wds l s0 k0 []
  | cons {s0 k0 s1 k1 x q1 ws}:Rn l s1 x q1 k1 s0 [] false k0→1≤x.length→Wds l s1 k1 ws→Wds l s0 k0 (x::ws)
inductive TextVs:List Value→List (List Nat)→Prop
  | nil:TextVs [] []
  | cons {x t vs xs}:TextVs vs xs→TextVs (.str (tx x) t::vs) (x::xs)
noncomputable abbrev FS (envs:List Env) (h h':Heap):Prop:=∀e∈envs,∀b,e.frame=some b→∀o,h.get? b=some o→(∀vs,o.data≠ .fields vs)→∃sl,h'.get? b=some {o with slots:=sl}
noncomputable abbrev lstO (xs:Array Value) (n:Nat):Obj:={cls:= .type "list",data:= .seq xs n}
section
variable {w:World} {A A₀:Around} {base h₀:Heap} {env:Env} {outer:List Env} {L:Addr} {pv pb':Program} {m mg mb mg' mb':Str→Option Value} {mean mean':ExcName→Option Value} {loose loose':List Str}
    {lx ld io id pb fs:Nat} {t:Nat→Nat} {u0 u1 u2 xt:Nat} {l:List Nat}
theorem nx_find (P:Params):findIn (K P) (.ref 788) "__next__"=some (some (.ref 785)):=by kernel_rfl
theorem nx_fn (P:Params):isFn (K P) (.ref 785)=true:=by kernel_rfl
theorem it_find (P:Params):findIn (K P) (.ref 788) "__iter__"=some (some (.ref 778)):=by kernel_rfl
theorem it_fn (P:Params):isFn (K P) (.ref 778)=true:=by kernel_rfl
theorem ln_find (P:Params):findIn (K P) (.ref 788) "__len__"=some none:=by kernel_rfl
theorem lh_find (P:Params):findIn (K P) (.ref 788) "__length_hint__"=some none:=by kernel_rfl
theorem upd_get {h:Heap} {S b:Addr} {f:Obj→Obj} {o:Obj} (hb:b≠S) (e:h.get? b=some o):(h.update S f).get? b=some o:=(Heap.get?_update_other _ _ (Ne.symm hb)).trans e
theorem lex_loop {rest:List (Addr × Obj)} (X:(K w.params).In h₀) (T:Top pv loose mean mg mb h₀) (XB:(K w.params).In base) (TB:Top pb' loose' mean' mg' mb' base) (B:Below A₀ base outer h₀)
    (hA:A.frames=some (env::outer)) (hf:env.frame=some L) (hke:env.scope.kind= .function) (hh:A.handled=none) (hd:A.depth≤560) (hu:A.units+1≤5800)
    (l1:lx≠ld) (l2:lx≠io) (l3:lx≠id) (l4:ld≠io) (l5:ld≠id) (l6:io≠id) (hx:l.length≤20000)
    (hra:∀q∈rest,q.1 ∉ ads6 lx ld io id pb fs) (hrb:∀q∈rest,base.get? q.1=none) (hrf:∀e∈env::outer,∀q∈rest,e.frame≠some q.1)
    {S:Nat} (hS1:S ∉ ads6 lx ld io id pb fs) (hS2:h₀.get? S=none) (hS3:∀e∈env::outer,e.frame≠some S) (hS5:∀q∈rest,q.1≠S)
    {R:Result→Shared→Prop} {ws:List (List Nat)} {s0 k0:Nat} (W:Wds l s0 k0 ws):
    ∀(s:Shared) (acc:Array Value) (c st tt u3 pt:Nat),Fr h₀ L s.heap m→News h₀ L s.heap (lex6 w.params j0 j1 j2 t lx ld io id pb fs u0 u1 u2 u3 l xt (stV s0 st) (.str "" tt) (k0:Int) pt)→
      s.heap.get? S=some (lstO acc c)→(∀q∈rest,s.heap.get? q.1=some q.2)→acc.size+ws.length≤1000→
      (∀(h':Heap) (tk':Nat) (vs:List Value) (c':Nat),TextVs vs ws→h'.get? S=some (lstO (acc++vs.toArray) c')→(∀q∈rest,h'.get? q.1=some q.2)→base.StaysIn h'→FS (env::outer) s.heap h'→R (.ok (.ret .none)) {s with heap:=h',toks:=tk'})→
      codeAny (model pw_il0090_01 w) A (.builtin "list.extend.loop" ⟨[.ref S, .ref lx, .none],[]⟩) R s:=by
  have hSL:S≠L:=fun e=>hS3 env (.head _) (by rw [hf,e])
  induction W with
  | @nil s0 k0 s1 k1 hR=>
    intro s acc c st tt u3 pt F N hS hrest hz ret
    refine codeAny_builtin PySem.F.entry_extend_loop ?_
    show wpAny _ A.in1 (pyNext (.ref lx)>>=_) _ _ s
    refine wpAny_bind (owit_next F X (InstAt.of_news N (.head _) (.tail _ (.head _))) (nx_find _) (nx_fn _) ?_)
    refine use_nxN (rest:=(S,lstO acc c)::rest) F N XB TB B hA hf hke hh hd hu l1 l2 l3 l4 l5 l6 hx hR ?_ ?_ ?_ ?_ fun e h' tk' e1 e2 e3 e4=>?_
    · intro q hq
      rcases List.mem_cons.mp hq with rfl|hq
      · exact hS
      · exact hrest q hq
    · intro q hq
      rcases List.mem_cons.mp hq with rfl|hq
      · exact hS1
      · exact hra q hq
    · intro q hq
      rcases List.mem_cons.mp hq with rfl|hq
      · cases z:base.get? S with
        | none=>rfl
        | some o=>have:=B.stays _ _ z;rw [hS2] at this;cases this
      · exact hrb q hq
    · intro e he q hq
      rcases List.mem_cons.mp hq with rfl|hq
      · exact hS3 e he
      · exact hrf e he q hq
    · unfold OwitStop
      refine wpAny_isInstance (T:="StopIteration") (b:=true) e4 (by rw [isSubtype_type];kernel_rfl) ?_
      refine wpAny_pure (ret h' tk' [] c .nil (by simpa using e1 _ (.head _)) (fun q hq=>e1 q (.tail _ hq)) e2 ?_)
      intro ev he b hb o ho hn
      have BP:=pushX B F hf hke
      refine e3 b o (hideAll_get _ ho fun hm=>?_) hn
      rcases List.mem_append.mp hm with hm|hm
      · have e6:ads6 lx ld io id pb fs=(lex6 w.params j0 j1 j2 t lx ld io id pb fs u0 u1 u2 u3 l xt (stV s0 st) (.str "" tt) (k0:Int) pt).map (·.1):=rfl
        rw [e6] at hm
        obtain ⟨q,hq,rfl⟩:=List.mem_map.mp hm
        cases he with
        | head=>rw [hf] at hb;exact (N q hq).2.1 (Option.some.inj hb).symm
        | tail _ he=>
          obtain ⟨L₁,o₁,hf₁,ho₁⟩:=funFrames_in B.frames ev he
          rw [hf₁] at hb
          have:=(N q hq).2.2
          rw [←Option.some.inj hb,ho₁] at this
          cases this
      · rw [List.map_cons] at hm
        rcases List.mem_cons.mp hm with rfl|hm
        · exact hS3 ev he hb
        · obtain ⟨q,hq,rfl⟩:=List.mem_map.mp hm
          exact hrf ev he q hq hb
  | @cons s0 k0 s1 k1 x q1 ws hR hp _ ih=>
    intro s acc c st tt u3 pt F N hS hrest hz ret
    refine codeAny_builtin PySem.F.entry_extend_loop ?_
    show wpAny _ A.in1 (pyNext (.ref lx)>>=_) _ _ s
    refine wpAny_bind (owit_next F X (InstAt.of_news N (.head _) (.tail _ (.head _))) (nx_find _) (nx_fn _) ?_)
    refine use_nx F N X T B hA hf hke hh hd hu l1 l2 l3 l4 l5 l6 hx hR hp fun h' tk' t1 t2 t3 u3' pt' F' N' k=>?_
    have hS':=k S _ hS1 hS
    show wpAny _ A.in1 (updateSeq S (·.push (.str (tx x) t1))>>=_) _ _ _
    refine wpAny_bind (wpAny_updateSeq hS' rfl (wpAny_pure ⟨plainId_quiet PySem.F.plain_extend_loop _,?_⟩) (by have:ws.length+1=(x::ws).length:=rfl;have hs:sizeLine=16777216:=rfl;omega) (by have hs:sizeLine=16777216:=rfl;simp only [Array.size_push];omega))
    refine ih {s with heap:=h'.update S (Obj.mapSeq (·.push (.str (tx x) t1))),toks:=tk'} (acc.push (.str (tx x) t1)) _ t2 t3 u3' pt' (F'.change (Heap.SameBut.update ..) hSL hS2) ?_ (Heap.get?_update_self _ hS' rfl) ?_ (by have:ws.length+1=(x::ws).length:=rfl;simp only [Array.size_push];omega) ?_
    · intro q hq
      have hn:q.1≠S:=fun e=>hS1 (by
        have:q.1∈(lex6 w.params j0 j1 j2 t lx ld io id pb fs u0 u1 u2 u3' l xt (stV s1 t2) (.str "" t3) (k1:Int) pt').map (·.1):=List.mem_map_of_mem hq
        rw [e] at this;exact this)
      exact ⟨upd_get hn (N' q hq).1,(N' q hq).2⟩
    · intro q hq
      exact upd_get (hS5 q hq) (k _ _ (hra q hq) (hrest q hq))
    · intro h'' tk'' vs c' tv g1 g2 g3 g4
      refine ret h'' tk'' (.str (tx x) t1::vs) c' (.cons tv) (by simpa using g1) g2 g3 ?_
      intro ev he b hb o ho hn
      have hbS:b≠S:=fun e=>hS3 ev he (by rw [hb,e])
      refine g4 ev he b hb o (upd_get hbS (k b o (fun hm=>?_) ho)) hn
      have e6:ads6 lx ld io id pb fs=(lex6 w.params j0 j1 j2 t lx ld io id pb fs u0 u1 u2 u3 l xt (stV s0 st) (.str "" tt) (k0:Int) pt).map (·.1):=rfl
      rw [e6] at hm
      obtain ⟨q,hq,rfl⟩:=List.mem_map.mp hm
      cases he with
      | head=>rw [hf] at hb;exact (N q hq).2.1 (Option.some.inj hb).symm
      | tail _ he=>
        obtain ⟨L₁,o₁,hf₁,ho₁⟩:=funFrames_in B.frames ev he
        rw [hf₁] at hb
        have:=(N q hq).2.2
        rw [←Option.some.inj hb,ho₁] at this
        cases this
end
end Mine
end
section
namespace Mine
noncomputable def Qt:List Nat→List Nat
  | []=>[]
  | c::t=>(if c=39 then [39,34,39,34,39] else [c])++Qt t
theorem at_mid {a b:List Nat} {c:Nat} {k:Nat} (h:k=a.length):(a++c::b)[k]?=some c:=by
  subst h;simp
theorem rn_q {s' k':Nat} {tl':List Nat} {q':Bool}:∀(t pre post tl:List Nat) (q:Bool) (k:Nat) (l:List Nat),l=pre++(Qt t++39::post)→k=pre.length→(∀c∈t,c≠10)→(tl++t).length≤20000→
    Rn l s' tl' q' k' 2 (tl++t) true (k+(Qt t).length+1)→Rn l s' tl' q' k' 1 tl q k:=by
  intro u0
  induction u0 with
  | nil=>
    intro pre post tl q k l hl hk _ hz R
    rw [List.append_nil] at hz R
    exact .q_q hz (by rw [hl];exact at_mid hk) (by simpa [Qt] using R)
  | cons c t ih=>
    intro pre post tl q k l hl hk hn hz R
    have hz1:tl.length≤20000:=by simp at hz;omega
    have hz2:(tl++[c]).length≤20000:=by simp at hz ⊢;omega
    have hz3:((tl++[c])++t).length≤20000:=by simp at hz ⊢;omega
    have hn':∀x∈t,x≠10:=fun x hx=>hn x (.tail _ hx)
    have R':Rn l s' tl' q' k' 2 ((tl++[c])++t) true (k+(Qt (c::t)).length+1):=by simpa using R
    by_cases hc:c=39
    · subst hc
      have e:Qt (39::t)=[39,34,39,34,39]++Qt t:=by simp [Qt]
      rw [e] at hl R'
      refine .q_q hz1 (by rw [hl];exact at_mid hk) ?_
      refine .a_dq hz1 (by rw [hl,show pre++([39,34,39,34,39]++Qt t++39::post)=(pre++[39])++34::([39,34,39]++Qt t++39::post) by simp];exact at_mid (by simp [hk])) ?_
      refine .d_q hz1 (by rw [hl,show pre++([39,34,39,34,39]++Qt t++39::post)=(pre++[39,34])++39::([34,39]++Qt t++39::post) by simp];exact at_mid (by simp [hk])) ?_
      refine .d_dq hz2 (by rw [hl,show pre++([39,34,39,34,39]++Qt t++39::post)=(pre++[39,34,39])++34::([39]++Qt t++39::post) by simp];exact at_mid (by simp [hk])) ?_
      refine .a_q hz2 (by rw [hl,show pre++([39,34,39,34,39]++Qt t++39::post)=(pre++[39,34,39,34])++39::(Qt t++39::post) by simp];exact at_mid (by simp [hk])) ?_
      refine ih (pre++[39,34,39,34,39]) post (tl++[39]) true _ l (by rw [hl];simp) (by simp [hk]) hn' hz3 ?_
      have e2:k+1+1+1+1+1+(Qt t).length+1=k+([39,34,39,34,39]++Qt t).length+1:=by simp;omega
      rw [e2];exact R'
    · have e:Qt (c::t)=c::Qt t:=by simp [Qt,hc]
      rw [e] at hl R'
      refine .q_app hz1 (by rw [hl];exact at_mid hk) hc (hn c (.head _)) ?_
      refine ih (pre++[c]) post (tl++[c]) true _ l (by rw [hl];simp) (by simp [hk]) hn' hz3 ?_
      have e2:k+1+(Qt t).length+1=k+(c::Qt t).length+1:=by simp;omega
      rw [e2];exact R'
noncomputable def line0 (t:List Nat):List Nat:=39::(Qt t++[39])
noncomputable def line1 (t:List Nat):List Nat:=55::32::39::(Qt t++[39])
noncomputable def line2 (t:List Nat):List Nat:=39::(Qt t++[39,32,120,45,121])
section
variable {t:List Nat} (hn:∀c∈t,c≠10) (h1:1≤t.length) (hz:t.length≤20000)
include hn h1 hz
theorem wds0:Wds (line0 t) 0 0 [t]:=by
  refine .cons (q1:=true) (s1:=4) (k1:=(line0 t).length) ?_ h1 (.nil (s1:=4) (k1:=(line0 t).length) (.n_e (by simp) rfl rfl rfl rfl rfl))
  refine .w_q (by simp) rfl ?_
  refine rn_q t [39] [] [] false 1 _ rfl rfl hn (by simpa using hz) ?_
  exact .a_e (by simpa using hz) (by simp [line0];omega) rfl rfl rfl (by simp [line0];omega)
theorem wds1:Wds (line1 t) 0 0 [[55],t]:=by
  refine .cons (q1:=false) (s1:=0) (k1:=2) (.w_7 (by simp) rfl (.a_sp (by simp) rfl (by simp) rfl rfl rfl rfl)) (by simp) ?_
  refine .cons (q1:=true) (s1:=4) (k1:=(line1 t).length) ?_ h1 (.nil (s1:=4) (k1:=(line1 t).length) (.n_e (by simp) rfl rfl rfl rfl rfl))
  refine .w_q (by simp) rfl ?_
  refine rn_q t [55,32,39] [] [] false 3 _ rfl rfl hn (by simpa using hz) ?_
  exact .a_e (by simpa using hz) (by simp [line1];omega) rfl rfl rfl (by simp [line1];omega)
theorem wds2:Wds (line2 t) 0 0 [t,[120,45,121]]:=by
  have el:(line2 t).length=(Qt t).length+6:=by simp [line2]
  refine .cons (q1:=true) (s1:=0) (k1:=(Qt t).length+3) ?_ h1 ?_
  · refine .w_q (by simp) rfl ?_
    refine rn_q t [39] [32,120,45,121] [] false 1 _ rfl rfl hn (by simpa using hz) ?_
    refine .a_sp (by simpa using hz) ?_ (by simpa using h1) rfl rfl rfl (by omega)
    rw [show line2 t=(39::(Qt t++[39]))++32::[120,45,121] by simp [line2]]
    exact at_mid (by simp;omega)
  · refine .cons (q1:=false) (s1:=4) (k1:=(line2 t).length) ?_ (by simp) (.nil (s1:=4) (k1:=(line2 t).length) (.n_e (by simp) rfl rfl rfl rfl rfl))
    refine .w_x (by simp) (by rw [show line2 t=(39::(Qt t++[39,32]))++120::[45,121] by simp [line2]];exact at_mid (by simp)) ?_
    refine .a_m (by simp) (by rw [show line2 t=(39::(Qt t++[39,32,120]))++45::[121] by simp [line2]];exact at_mid (by simp)) ?_
    refine .a_y (by simp) (by rw [show line2 t=(39::(Qt t++[39,32,120,45]))++121::[] by simp [line2]];exact at_mid (by simp)) ?_
    exact .a_e (by decide) (by omega) rfl rfl rfl (by assumption)
end
end Mine
end
section
namespace Mine
open Mine.Re
theorem pat_x {P:Params} {h:Heap} {p cd g:Nat} {C:Array Nat} {o oc:Obj} {fs xs:Array Value} {n:Nat} (X:(K P).In h) (e1:(K P).lookup p=some o) (c1:o.cls= .type "re.Pattern") (c2:o.dict=none) (c3:o.data= .fields fs)
    (c4:fs.getD 5 .none= .ref cd) (c5:Builtin.Re.reRawNat (fs.getD 2 .none)=g) (c6:Builtin.Re.reRawNat (fs.getD 6 .none)=0) (e2:(K P).lookup cd=some oc) (c7:oc.data= .seq xs n) (c8:(xs.map Builtin.Re.reRawOf).map (·.toNat)=C):PatAt h p C g:=
  ⟨⟨_,_,_,_,_,_,X p _ e1,c1,c2,c3,c4,c5,c6,X cd _ e2,c7,c8⟩⟩
theorem pat105 {P:Params} {h:Heap} (X:(K P).In h):PatAt h 105 cUns 0:=
  pat_x (o:=⟨.type "re.Pattern",none,(.fields ⟨[(.str "[^\\w@%+=:,./-]" 660),(.int 256 697),(.int 0 0), .none, .none,(.ref 104),(.int 0 0)]⟩),⟨[]⟩⟩) (cd:=104) (oc:=tpK ([14,17,4,1,1,21,9,0,604043296,1,0,0,0,0,0,8,4,0,13,14,21,9,0,604043296,1,0,0,0,0,0,8,4,0,1].map fun n:Int=> .int n 0)) X (by kernel_rfl) rfl rfl rfl rfl rfl rfl (by kernel_rfl) rfl (by kernel_rfl)
theorem use_find {w:World} {A:Around} {h₀:Heap} {L:Addr} {m:Str→Option Value} {news:List (Addr × Obj)} {s:Shared} {Q E:Value→Shared→Prop} {l:List Nat} {tk:Nat} (F:Fr h₀ L s.heap m) (N:News h₀ L s.heap news) (X:(K w.params).In h₀)
    (hl:∀c∈l,c∈alph) (hb:32∈l) (hz:l.length≤20000)
    (ret:∀(y:Nat) (h':Heap),Fr h₀ L h' m→News h₀ L h' news→Q (.ref y) {s with heap:=h'}):
    wpAny (model pw_il0090_01 w) A (call (.ref 808) [.str (tx l) tk]) Q E s:=by
  have P:=(pat105 X).keeps F.keep
  refine find_call (p:=105) (F.keep _ _ (X _ _ (by kernel_rfl))) P fun A' _=>?_
  unfold Builtin.«re.Pattern.search»
  refine wpAny_bind (wp_target P (by omega) ?_)
  unfold Builtin.Re.reAnswer
  obtain ⟨k,hk⟩:=uns_hit hl hb
  refine wpAny_bind (wp_end_hit hk (by omega) fun m' hm=>?_)
  refine wpAny_bind (wp_newMatch (sp:=[]) hm rfl rfl (by decide) fun y t h' k e1 e2 n1 n2=>?_)
  exact wpAny_pure ⟨_,rfl,ret y h' (F.keeps k) (N.keepsAll k)⟩
theorem qt_append (a b:List Nat):Qt (a++b)=Qt a++Qt b:=by
  induction a with
  | nil=>rfl
  | cons c t ih=>simp only [List.cons_append,Qt,ih,List.append_assoc]
theorem qt_free {l:List Nat} (h:39 ∉ l):Qt l=l:=by
  induction l with
  | nil=>rfl
  | cons c t ih=>
    have h1:¬c=39:=fun e=>h (e▸List.mem_cons_self ..)
    simp only [Qt,if_neg h1,ih (fun m=>h (List.mem_cons_of_mem _ m))];rfl
theorem qt_join:∀parts:List Str,(∀p∈parts,39 ∉ p.cps.toList)→Qt (Str.join ⟨#[39]⟩ parts).cps.toList=(Str.join ⟨#[39,34,39,34,39]⟩ parts).cps.toList
  | [],_=>rfl
  | [p],h=>qt_free (h p (List.mem_singleton.mpr rfl))
  | p::q::r,h=>by
    have ih:=qt_join (q::r) fun a ha=>h a (List.mem_cons_of_mem _ ha)
    show Qt (p++⟨#[39]⟩++Str.join ⟨#[39]⟩ (q::r)).cps.toList=(p++⟨#[39,34,39,34,39]⟩++Str.join ⟨#[39,34,39,34,39]⟩ (q::r)).cps.toList
    simp only [Str.cps_append,Array.toList_append]
    rw [qt_append,qt_append,ih,qt_free (h p (List.mem_cons_self ..))]
    rfl
theorem replace_qt (l:List Nat):Txt.replace (tx l) "'" "'\"'\"'"=tx (Qt l):=by
  have e1:(Str.ofString "'")=⟨#[39]⟩:=by decide
  have e2:(Str.ofString "'\"'\"'")=⟨#[39,34,39,34,39]⟩:=by decide
  rw [e1,e2,StrLaws.replace_one]
  have h:=qt_join (Txt.split (tx l) ⟨#[39]⟩) (StrLaws.split_free (tx l) 39)
  rw [StrLaws.join_split] at h
  have h2:(Str.join ⟨#[39,34,39,34,39]⟩ (Txt.split (tx l) ⟨#[39]⟩)).cps=(Qt l).toArray:=by rw [←Array.toList_inj,←h]
  exact congrArg Str.mk h2
theorem qt_len:∀l:List Nat,l.length≤(Qt l).length∧(Qt l).length≤5*l.length
  | []=>⟨Nat.le_refl _,Nat.le_refl _⟩
  | c::t=>by
    obtain ⟨a,b⟩:=qt_len t
    by_cases h:c=39<;>simp [Qt,h]<;>omega
theorem use_rep {prog:Program} {w:World} {A:Around} {E:Value→Shared→Prop} {s:Shared} {l:List Nat} {t u v:Nat} {Q:Value→Shared→Prop} (hz:l.length≤20000) (hu:u≠0) (hv:v≠0) (huv:u≠v)
    (h:∀t' k,Q (.str (tx (Qt l)) t') {s with toks:=k}):wpAny (model prog w) A (call (.builtin "str.replace") [.str (tx l) t, .str "'" u, .str "'\"'\"'" v]) Q E s:=by
  refine SC.replaceW hu hv huv (by decide) (by rw [tx_len];omega) (by decide) fun t' k=>?_
  rw [replace_qt];exact h t' k
noncomputable def FndAt (h:Heap):Prop:=h.get? 808=some fndO
theorem fnd_of {P:Params} {h₀ h:Heap} {L:Addr} {m:Str→Option Value} (F:Fr h₀ L h m) (X:(K P).In h₀):FndAt h:=F.keep _ _ (X 808 _ (by kernel_rfl))
theorem callWith_find {M:Model} {A:Around} {E:Value→Shared→Prop} {s:Shared} {pos:Pos} {env:Env} {e:Expr} {Q:Value→Shared→Prop}
    (h:wpAny M A (spliced (backTo pos (starEach [e] env))) (fun vs s₁=>FndAt s₁.heap∧wpAny M A (call (.ref 808) vs) Q E s₁) E s)
    (he:starEach [e] env=[(false,eval e env)]):
    wpAny M A (callWith pos (.ref 808) [] (backTo pos (starEach [e] env)) []) Q E s:=by
  rw [he] at h ⊢
  unfold callWith
  refine wpAny_bind (wpAny_holding (Calls.evalArgs_plain (wpAny_mono h (fun x s₁ h₁=>wpAny_bind (wpAny_standAt ?_)) fun _ _ x=>x)))
  obtain ⟨ho,hcall⟩:=h₁
  refine wpAny_bind (m:=keeperOf (.ref 808)) ?_
  unfold keeperOf
  refine wpAny_bind (wpAny_load ho ?_)
  refine wpAny_pure ?_
  exact wpAny_bind (wpAny_mono hcall (fun r s₂ hr=>wpAny_bind (wpAny_holding (wpAny_point (wpAny_pure hr)))) fun _ _ x=>x)
theorem use_add {prog:Program} {w:World} {A:Around} {E:Value→Shared→Prop} {s:Shared} {x y:Str} {a b:List Nat} {t u:Nat} {Q:Value→Shared→Prop} (hx:x=tx a) (hy:y=tx b) (hz:a.length+b.length≤200000)
    (h:∀t' k,Q (.str (tx (a++b)) t') {s with toks:=k}):wpAny (model prog w) A (binaryOp .Add (.str x t) (.str y u)) Q E s:=by
  subst hx hy
  refine KXadd.add (K:=200000) (L:=200000) (by rw [tx_len];omega) (by rw [tx_len];omega) (by omega) fun t' k _=>?_
  rw [tx_append];exact h t' k
section
variable {prog:Program} {w:World} {A:Around} {KK:Frag} {p:Program} {loose:List Str} {mean:ExcName→Option Value} {mg mb:Str→Option Value} {s:Shared} {R:Result→Shared→Prop}
theorem own_enterF {name qual:Str} {params:Arguments} {body:List Stmt} {scope:Scope} {dV kV doc pm cdv ct oc:Value} {an od:Option Addr} {osl:Array (Option Value)} {f:Addr} {args:Args} {binds:List (Str × Value)}
    (X:KK.In s.heap) (T:Top p loose mean mg mb s.heap)
    (ho:KK.lookup f=some ⟨oc,od, .func (fnOf name qual params body scope dV kV doc pm an cdv ct),osl⟩) (hcd:codeIn KK cdv qual=true) (hroom:A.depth<recursionLimit)
    (hbind:BindsTo s (fnOf name qual params body scope dV kV doc pm an cdv ct) args binds) (hloc:∀y∈binds,scope.names.lookup y.1=some .local)
    (h:∀g L' h₁,g=s.heap→L'=s.heap.objs.size→Fr g L' h₁ (fun y=>binds.reverse.lookup y)→News g L' h₁ []→KK.In g→Top p loose mean mg mb g→
      wpAny (model prog w) (A.deeper (envOf qual scope L' f cdv)) (execs body (envOf qual scope L' f cdv))
        (fun fl s'=>R (.ok (.ret (match fl with| .ret v=>v|_=> .none))) s')
        (fun e s'=>wpAny (model prog w) (A.deeper (envOf qual scope L' f cdv)) (leaving (envOf qual scope L' f cdv) e) (fun _ s''=>R (.error e) s'') (fun e' s''=>R (.error e') s'') s')
        {s with heap:=h₁,toks:=s.toks+binds.length})
    (hco:scope.isCoroutine=false) (hgen:scope.isGenerator=false) (hk:scope.kind= .function)
    (hcell:∀x∈scope.names,x.2≠ .cell):codeAny (model prog w) A (.call (.ref f) args) R s:=by
  refine codeAny_call_def (fd:=fnOf name qual params body scope dV kV doc pm an cdv ct) (body:=body) (binds:=binds) hroom (X _ _ ho) rfl T.nolimit (codeRec_of X hcd) rfl hbind hcell hloc (fun h₁ hns hk₁=>?_) hco hgen hk
  exact wpAny_mono (h _ s.heap.objs.size h₁ rfl rfl ⟨hns,hk₁,Nat.le_refl _⟩ (.nil) X T) (fun _ _ x=>x) fun _ _ y=>y
end
noncomputable abbrev arF (dp un:Nat) (gd:Option (List Code)) (fr:Option (List Env)):Around:={handled:=none,depth:=dp,frames:=fr,guards:=gd,units:=un}
noncomputable def PureF (w:World) (f:Addr) (args:List Value) (dp un:Nat) (P:Value→Heap→Heap→Prop):Prop:=
  ∀{gd:Option (List Code)} {fr:Option (List Env)} {mean:ExcName→Option Value} {pv:Program} {mg mb:Str→Option Value} {loose:List Str} {s:Shared} {Q E:Value→Shared→Prop},
    (K w.params).In s.heap→Top pv loose mean mg mb s.heap→
    (∀v h' tk',Kept s.heap h'→P v s.heap h'→Q v {s with heap:=h',toks:=tk'})→
    wpAny (model pw_il0090_01 w) (arF dp un gd fr) (call (.ref f) args) Q E s
theorem c_quote (w:World) {l:List Nat} {tk:Nat} (hl:∀c∈l,c∈alph) (hb:32∈l) (hz:l.length≤20000) (hp:1≤l.length):PureF w 815 [.str (tx l) tk] 600 6000 (fun v _ _=>∃t,v= .str (tx (line0 l)) t):=by
  intro gd fr mean pv mg mb loose s Q E X T hret
  have eK:rw_il0090_01=rw_il0090_01:=rfl
  revert eK X
  k_fill
  intro X eK
  refine wpAny_call ?_
  k_dflt (refine' own_enterF ?k3 ?k4 ?k6 ?k7 ?k8 ?k9 ?kB ?_ ?c2 ?c3 ?c4 ?c5;(case k3=>exact X);(case k4=>exact T);(case k6=>k_is);(case k7=>k_is);(case k8=>exact Nat.le_of_ble_eq_true rfl);(case k9=>first|exact BindsTo.of_eq rfl|exact binds_K X rfl (by k_is) rfl rfl rfl);(case c5=>decide);(case kB=>exact locs rfl);(case c2=>exact rfl);(case c3=>exact rfl);(case c4=>exact rfl);k_whole;intro g' L' h' hg' hL' F' N' X' T';clear X T;(try dsimp only);(try k_fold))
  have hql:=(qt_len l).2
  (try (refine let_ctx ?_;intro A9 e9))
  repeat' (first|(k_unfold;(try dsimp only))|((fail_if_success (fail_if_success (with_reducible refine is_bin ?_)));first|(k_here;(with_reducible show wpAny _ _ (binaryOp .Add (Value.str _ _) (Value.str _ _)) _ _ _);(refine' use_add (by first|(show Str.ofString "'"=tx [39];decide)|exact rfl) (by first|(show Str.ofString "'"=tx [39];decide)|exact rfl) (by simp only [List.length_append,List.length_cons,List.length_nil];omega) ?_);intro t' k'))|((fail_if_success (fail_if_success (with_reducible refine is_tr ?_)));first|(k_here;(with_reducible show wpAny _ _ (PySem.truthy (Value.str (tx _) _)) _ _ _);(refine' truthy_tx (by assumption) (by assumption) ?_);intro _))|((with_reducible show FndAt _);k_dflt (exact fnd_of (by k_asm) (by k_asm)))|((with_reducible show FndAt _∧_);k_dflt (refine ⟨fnd_of (by k_asm) (by k_asm),?_⟩);(try dsimp only [List.nil_append,List.cons_append]))|(k_here;(with_reducible show wpAny _ _ (callWith _ (Value.ref 808) [] (backTo _ (starEach [_] _)) []) _ _ _);k_dflt (refine' callWith_find ?_ rfl;k_whole))|((fail_if_success (fail_if_success (with_reducible refine is_call ?_)));first|(k_here;(with_reducible show wpAny _ _ (call (Value.builtin "str.replace") [Value.str (tx _) _,Value.str _ _,Value.str _ _]) _ _ _);(refine' use_rep (by assumption) (by omega) (by omega) (by omega) ?_);intro t' k')|(k_here;(with_reducible show wpAny _ _ (call (Value.ref 808) [Value.str _ _]) _ _ _);k_dflt (refine' use_find (by k_asm) (by k_asm) (by k_asm) (by assumption) (by assumption) (by assumption) ?_;k_whole);intro y' h' F' N'))|(k_end;kc_close)|walk1|(dsimp only;walk1)|(leave1;(try dsimp only)))
  all_goals (show Q (Value.str _ _) _;exact hret _ _ _ (fun b o e=>(show Fr _ _ _ _ by assumption).keep b o (by rw [hg'];exact e)) ⟨_,rfl⟩)
theorem use_findN {w:World} {A:Around} {h₀:Heap} {L:Addr} {m:Str→Option Value} {s:Shared} {Q E:Value→Shared→Prop} {l:List Nat} {tk b:Nat} (F:Fr h₀ L s.heap m) (X:(K w.params).In h₀)
    (hl:Ends Miss b (Sre.forSearch cUns l.toArray 0 0 l.toArray.size false)) (hb:b≤1000000) (hz:l.length≤20000)
    (ret:Q .none s):
    wpAny (model pw_il0090_01 w) A (call (.ref 808) [.str (tx l) tk]) Q E s:=by
  have P:=(pat105 X).keeps F.keep
  refine find_call (p:=105) (F.keep _ _ (X _ _ (by kernel_rfl))) P fun A' _=>?_
  unfold Builtin.«re.Pattern.search»
  refine wpAny_bind (wp_target P (by omega) ?_)
  unfold Builtin.Re.reAnswer
  refine wpAny_bind (wp_end_miss hl hb ?_)
  exact wpAny_pure ⟨_,rfl,ret⟩
theorem c_quoteN (w:World) {l:List Nat} {tk b:Nat} (hE:Ends Miss b (Sre.forSearch cUns l.toArray 0 0 l.toArray.size false)) (hb:b≤1000000) (hz:l.length≤20000) (hp:1≤l.length):PureF w 815 [.str (tx l) tk] 600 6000 (fun v _ _=>∃t,v= .str (tx l) t):=by
  intro gd fr mean pv mg mb loose s Q E X T hret
  have eK:rw_il0090_01=rw_il0090_01:=rfl
  revert eK X
  k_fill
  intro X eK
  refine wpAny_call ?_
  k_dflt (refine' own_enterF ?k3 ?k4 ?k6 ?k7 ?k8 ?k9 ?kB ?_ ?c2 ?c3 ?c4 ?c5;(case k3=>exact X);(case k4=>exact T);(case k6=>k_is);(case k7=>k_is);(case k8=>exact Nat.le_of_ble_eq_true rfl);(case k9=>first|exact BindsTo.of_eq rfl|exact binds_K X rfl (by k_is) rfl rfl rfl);(case c5=>decide);(case kB=>exact locs rfl);(case c2=>exact rfl);(case c3=>exact rfl);(case c4=>exact rfl);k_whole;intro g' L' h' hg' hL' F' N' X' T';clear X T;(try dsimp only);(try k_fold))
  (try (refine let_ctx ?_;intro A9 e9))
  repeat' (first|(k_unfold;(try dsimp only))|((fail_if_success (fail_if_success (with_reducible refine is_call ?_)));first|(k_here;(with_reducible show wpAny _ _ (call (Value.ref 808) [Value.str _ _]) _ _ _);(rename Ends Miss _ _=>hE9);k_dflt (refine' use_findN (by k_asm) (by k_asm) hE9 (by assumption) (by assumption) ?_;k_whole))|(k_here;(with_reducible show wpAny _ _ (call (Value.builtin "str.replace") [Value.str (tx _) _,Value.str _ _,Value.str _ _]) _ _ _);(refine' use_rep (by assumption) (by omega) (by omega) (by omega) ?_);intro t' k')|(k_here;(with_reducible show wpAny _ _ (call (Value.ref 808) [Value.str _ _]) _ _ _);k_dflt (refine' use_find (by k_asm) (by k_asm) (by k_asm) (by assumption) (by assumption) (by assumption) ?_;k_whole);intro y' h' F' N'))|((fail_if_success (fail_if_success (with_reducible refine is_bin ?_)));first|(k_here;(with_reducible show wpAny _ _ (binaryOp .Add (Value.str _ _) (Value.str _ _)) _ _ _);(refine' use_add (by first|(show Str.ofString "'"=tx [39];decide)|exact rfl) (by first|(show Str.ofString "'"=tx [39];decide)|exact rfl) (by simp only [List.length_append,List.length_cons,List.length_nil];omega) ?_);intro t' k'))|((fail_if_success (fail_if_success (with_reducible refine is_tr ?_)));first|(k_here;(with_reducible show wpAny _ _ (PySem.truthy (Value.str (tx _) _)) _ _ _);(refine' truthy_tx (by assumption) (by assumption) ?_);intro _))|((with_reducible show FndAt _);k_dflt (exact fnd_of (by k_asm) (by k_asm)))|((with_reducible show FndAt _∧_);k_dflt (refine ⟨fnd_of (by k_asm) (by k_asm),?_⟩);(try dsimp only [List.nil_append,List.cons_append]))|(k_here;(with_reducible show wpAny _ _ (callWith _ (Value.ref 808) [] (backTo _ (starEach [_] _)) []) _ _ _);k_dflt (refine' callWith_find ?_ rfl;k_whole))|(k_end;kc_close)|walk1|(dsimp only;walk1)|(leave1;(try dsimp only)))
  all_goals (show Q (Value.str _ _) _;exact hret _ _ _ (fun b o e=>(show Fr _ _ _ _ by assumption).keep b o (by rw [hg'];exact e)) ⟨_,rfl⟩)
end Mine
end
section
namespace Mine
theorem c_it (w:World) {lx:Nat}:Pure w 778 [.ref lx] 560 5800 (fun v _ _=>v= .ref lx):=by
  intro gd outer base mean pv mg mb loose s Q E Bw X T hret
  have eK:rw_il0090_01=rw_il0090_01:=rfl
  revert eK X
  k_fill
  intro X eK
  refine wpAny_call ?_
  k_dflt (refine' own_enter (chg:=[]) ?k1 ?k2 ?k3 ?k4 ?k6 ?k7 ?k8 ?k9 ?kB ?_ ?c2 ?c3 ?c4 ?c5;(case k1=>exact Bw);(case k2=>exact fun _ h=>nomatch h);(case k3=>exact X);(case k4=>exact T);(case k6=>k_is);(case k7=>k_is);(case k8=>exact Nat.le_of_ble_eq_true rfl);(case k9=>first|exact BindsTo.of_eq rfl|exact binds_K X rfl (by k_is) rfl rfl rfl);(case c5=>decide);(case kB=>exact locs rfl);(case c2=>exact rfl);(case c3=>exact rfl);(case c4=>exact rfl);k_whole;intro g' L' h' hg' hL' F' N' B' X' T' hlt';clear X T Bw;(try dsimp only);(try k_fold))
  (try (refine let_ctx ?_;intro A9 e9))
  repeat' (first|(k_unfold;(try dsimp only))|(k_end;kc_close)|walk1|(dsimp only;walk1)|(leave1;(try dsimp only)))
  all_goals (show Q _ _;exact hret _ _ _ (fun b o e=>(show Fr _ _ _ _ by assumption).keep b o (by rw [hg'];exact e)) rfl)
end Mine
end
section
namespace Mine
variable {j0 j1 j2:Int}
section
variable {w:World} {A A₀:Around} {base h₀:Heap} {env:Env} {outer:List Env} {L:Addr} {pv pb':Program} {m mg mb mg' mb':Str→Option Value} {mean mean':ExcName→Option Value} {loose loose':List Str}
    {lx ld io id pb fs:Nat} {t:Nat→Nat} {u0 u1 u2 xt:Nat} {l:List Nat}
theorem push_env {h h':Heap} {o:Obj} {news:List (Addr × Obj)} (F:Fr h₀ L h m) (N:News h₀ L h news):Fr h₀ L (h.push o) m∧News h₀ L (h.push o) news:=
  ⟨F.push o,fun q hq=>⟨Heap.get?_push_of_some _ (N q hq).1,(N q hq).2⟩⟩
theorem upd_env {h:Heap} {S:Addr} {f:Obj→Obj} {news:List (Addr × Obj)} (F:Fr h₀ L h m) (N:News h₀ L h news) (hSL:S≠L) (hS2:h₀.get? S=none) (hn:∀q∈news,q.1≠S):Fr h₀ L (h.update S f) m∧News h₀ L (h.update S f) news:=
  ⟨F.change (Heap.SameBut.update ..) hSL hS2,fun q hq=>⟨upd_get (hn q hq) (N q hq).1,(N q hq).2⟩⟩
theorem list_lex {rest:List (Addr × Obj)} {s:Shared} {Q E:Value→Shared→Prop} (X:(K w.params).In h₀) (T:Top pv loose mean mg mb h₀) (XB:(K w.params).In base) (TB:Top pb' loose' mean' mg' mb' base) (B:Below A₀ base outer h₀)
    (hA:A.frames=some (env::outer)) (hf:env.frame=some L) (hke:env.scope.kind= .function) (hh:A.handled=none) (hd:A.depth≤560) (hu:A.units+4≤5800)
    (l1:lx≠ld) (l2:lx≠io) (l3:lx≠id) (l4:ld≠io) (l5:ld≠id) (l6:io≠id) (hx:l.length≤20000)
    (hra:∀q∈rest,q.1 ∉ ads6 lx ld io id pb fs) (hrb:∀q∈rest,base.get? q.1=none) (hrf:∀e∈env::outer,∀q∈rest,e.frame≠some q.1)
    {ws:List (List Nat)} {s0 k0:Nat} (W:Wds l s0 k0 ws) (hz:ws.length≤1000) {st tt u3 pt:Nat} (F:Fr h₀ L s.heap m) (N:News h₀ L s.heap (lex6 w.params j0 j1 j2 t lx ld io id pb fs u0 u1 u2 u3 l xt (stV s0 st) (.str "" tt) (k0:Int) pt))
    (hrest:∀q∈rest,s.heap.get? q.1=some q.2)
    (ret:∀(h':Heap) (tk':Nat) (vs:List Value) (c':Nat),TextVs vs ws→h'.get? s.heap.objs.size=some (lstO vs.toArray c')→(∀q∈rest,h'.get? q.1=some q.2)→base.StaysIn h'→FS (env::outer) s.heap h'→Q (.ref s.heap.objs.size) {s with heap:=h',toks:=tk'}):
    wpAny (model pw_il0090_01 w) A (call (.type "list") [.ref lx]) Q E s:=by
  have BP:=pushX B F hf hke
  have S_new:∀b o,s.heap.get? b=some o→b≠s.heap.objs.size:=fun b o e=>Nat.ne_of_lt (Heap.lt_size e)
  have hS2:h₀.get? s.heap.objs.size=none:=by
    cases z:h₀.get? s.heap.objs.size with
    | none=>rfl
    | some o=>exact absurd (Heap.lt_size (F.keep _ _ z)) (Nat.lt_irrefl _)
  have hS1:s.heap.objs.size ∉ ads6 lx ld io id pb fs:=fun hm=>by
    have e6:ads6 lx ld io id pb fs=(lex6 w.params j0 j1 j2 t lx ld io id pb fs u0 u1 u2 u3 l xt (stV s0 st) (.str "" tt) (k0:Int) pt).map (·.1):=rfl
    rw [e6] at hm
    obtain ⟨q,hq,e⟩:=List.mem_map.mp hm
    exact S_new _ _ (N q hq).1 e
  have hS3:∀e∈env::outer,e.frame≠some s.heap.objs.size:=fun e he hfe=>by
    obtain ⟨L₁,o₁,hf₁,ho₁⟩:=funFrames_in BP.frames e he
    rw [hf₁] at hfe
    exact S_new _ _ ho₁ (Option.some.inj hfe)
  have hS5:∀q∈rest,q.1≠s.heap.objs.size:=fun q hq=>S_new _ _ (hrest q hq)
  have hSL:s.heap.objs.size≠L:=fun e=>hS3 env (.head _) (by rw [hf,e])
  have hlS:∀q∈lex6 w.params j0 j1 j2 t lx ld io id pb fs u0 u1 u2 u3 l xt (stV s0 st) (.str "" tt) (k0:Int) pt,q.1≠s.heap.objs.size:=fun q hq=>S_new _ _ (N q hq).1
  refine callType_codes (Q₁:=fun obj s₁=>obj= .ref s.heap.objs.size∧s₁={s with heap:=s.heap.push {cls:= .type "list",data:= .seq #[]}}) PySem.F.called_list (PySem.F.typeCall_list_1 _) PySem.F.entry_list_init
    (code_list_new _ ⟨rfl,rfl⟩) fun obj s₁ h₁=>?_
  obtain ⟨rfl,rfl⟩:=h₁
  have hS:(s.heap.push {cls:= .type "list",data:= .seq #[]}).get? s.heap.objs.size=some {cls:= .type "list",data:= .seq #[]}:=Heap.get?_push_size _ rfl
  refine ⟨⟨_,hS,rfl⟩,PySem.F.args_list_init_2 _ _,?_⟩
  generalize s.heap.objs.size=S at*
  obtain ⟨F1,N1⟩:=push_env (h':=s.heap) (o:={cls:= .type "list",data:= .seq #[]}) F N
  have R1:∀q∈rest,(s.heap.push {cls:= .type "list",data:= .seq #[]}).get? q.1=some q.2:=fun q hq=>Heap.get?_push_of_some _ (hrest q hq)
  have P1:Kept s.heap (s.heap.push {cls:= .type "list",data:= .seq #[]}):=fun b o e=>Heap.get?_push_of_some _ e
  generalize s.heap.push {cls:= .type "list",data:= .seq #[]}=h1 at*
  show wpAny _ A.in1.in1 (do let old ←Builtin.List.listItems (.ref S);Builtin.List.listUpdate (.ref S) (fun _=>#[]);letGo old.toList.reverse;Builtin.List.listExtendWith (.ref S) (.ref lx) .none) _ _ _
  refine wpAny_bind ?_
  unfold Builtin.List.listItems
  refine wpAny_bind (wpAny_seqItems hS rfl (wpAny_pure ?_))
  show wpAny _ A.in1.in1 (updateSeq S (fun _=>#[])>>=fun _=>letGo (#[]:Array Value).toList.reverse>>=fun _=>Builtin.List.listExtendWith (.ref S) (.ref lx) .none) _ _ _
  refine wpAny_bind (wpAny_updateSeq hS rfl ?_)
  have hS₂:=Heap.get?_update_self (Obj.mapSeq (fun _=>(#[]:Array Value))) hS rfl
  obtain ⟨F2,N2⟩:=upd_env (f:=Obj.mapSeq (fun _=>(#[]:Array Value))) F1 N1 hSL hS2 hlS
  have R2:∀q∈rest,(h1.update S (Obj.mapSeq (fun _=>(#[]:Array Value)))).get? q.1=some q.2:=fun q hq=>upd_get (hS5 q hq) (R1 q hq)
  have P2:∀b o,b≠S→s.heap.get? b=some o→(h1.update S (Obj.mapSeq (fun _=>(#[]:Array Value)))).get? b=some o:=fun b o hb e=>upd_get hb (P1 b o e)
  generalize h1.update S (Obj.mapSeq (fun _=>(#[]:Array Value)))=h2 at*
  refine wpAny_bind (wpAny_letGo ?_)
  unfold Builtin.List.listExtendWith
  have I2:InstAt h2 lx (instObj 788 ld) 788 _:=InstAt.of_news N2 (.head _) (.tail _ (.head _))
  refine wpAny_bind (I2.type.here ?_)
  have e1:Builtin.List.listSameRef (.ref S) (.ref lx)=false:=by
    have:S≠lx:=fun e=>hlS _ (.head _) e.symm
    simp [Builtin.List.listSameRef,this]
  have e2:(Value.ref 788==Value.type "list")=false:=by decide
  have e3:(Value.ref 788==Value.type "tuple")=false:=by decide
  simp only [e1,e2,e3,Bool.or_false,Bool.false_eq_true,if_false]
  refine wpAny_bind (owit_iter F2 X I2 (it_find _) (it_fn _) ?_)
  refine weaken (A':=ar 560 5800 A.guards (env::outer)) hh hd hA.symm rfl (by show A.units+1+1≤5800;omega) ?_
  have BP2:=pushX B F2 hf hke
  refine c_it w ⟨rfl,BP2.stays,BP2.frames⟩ (X.keeps F2.keep) (T.keeps F2.keep) fun v h3 tk3 k3 hv=>?_
  subst hv
  have F3:=F2.keeps k3
  have N3:=N2.keepsAll k3
  have I3:InstAt h3 lx (instObj 788 ld) 788 _:=InstAt.of_news N3 (.head _) (.tail _ (.head _))
  refine owit_it F3 X I3 (nx_find _) ?_
  have hS3':=k3 _ _ hS₂
  have R3:∀q∈rest,h3.get? q.1=some q.2:=fun q hq=>k3 _ _ (R2 q hq)
  have P3:∀b o,b≠S→s.heap.get? b=some o→h3.get? b=some o:=fun b o hb e=>k3 _ _ (P2 b o hb e)
  refine wpAny_bind (wpAny_holding ?_)
  unfold Builtin.List.listLengthHint
  refine wpAny_bind (wpAny_bind (I3.type.here ((looks_findIn (X.keeps F3.keep) (ln_find _)).here ?_)))
  show wpAny _ A.in1.in1 (specialOf (Value.ref lx) (Str.ofString "__length_hint__")>>=_) _ _ _
  refine wpAny_bind (wpAny_bind (I3.type.here ((looks_findIn (X.keeps F3.keep) (lh_find _)).here ?_)))
  refine wpAny_pure ?_
  show wpAny _ A.in1.in1 (rule "list.extend.makes-room">>=fun _=>Builtin.List.listTouch (.ref S)>>=fun _=>
    again (.builtin "list.extend.loop" ⟨[.ref S, .ref lx, .none],[]⟩)) _ _ _
  refine wpAny_bind (wpAny_rule ?_)
  refine wpAny_bind ?_
  show wpAny _ A.in1.in1 (updateSeq S (·.push .none)>>=fun _=>updateSeq S (·.pop)) _ _ _
  refine wpAny_bind (wpAny_updateSeq hS3' rfl ?_)
  have hS4:=Heap.get?_update_self (Obj.mapSeq (·.push Value.none)) hS3' rfl
  obtain ⟨F4,N4⟩:=upd_env (f:=Obj.mapSeq (·.push Value.none)) F3 N3 hSL hS2 hlS
  have R4:∀q∈rest,(h3.update S (Obj.mapSeq (·.push Value.none))).get? q.1=some q.2:=fun q hq=>upd_get (hS5 q hq) (R3 q hq)
  have P4:∀b o,b≠S→s.heap.get? b=some o→(h3.update S (Obj.mapSeq (·.push Value.none))).get? b=some o:=fun b o hb e=>upd_get hb (P3 b o hb e)
  generalize h3.update S (Obj.mapSeq (·.push Value.none))=h4 at*
  refine wpAny_updateSeq (hz:=by seq_fits) hS4 rfl ?_
  have hS6:=Heap.get?_update_self (Obj.mapSeq (·.pop)) hS4 rfl
  obtain ⟨F5,N5⟩:=upd_env (f:=Obj.mapSeq (·.pop)) F4 N4 hSL hS2 hlS
  have R5:∀q∈rest,(h4.update S (Obj.mapSeq (·.pop))).get? q.1=some q.2:=fun q hq=>upd_get (hS5 q hq) (R4 q hq)
  have P5:∀b o,b≠S→s.heap.get? b=some o→(h4.update S (Obj.mapSeq (·.pop))).get? b=some o:=fun b o hb e=>upd_get hb (P4 b o hb e)
  generalize h4.update S (Obj.mapSeq (·.pop))=h5 at*
  refine wpAny_pure ⟨plainId_quiet PySem.F.plain_extend_loop _,?_⟩
  refine lex_loop (A:=A.in1) X T XB TB B hA hf hke hh hd (by show A.units+1+1≤5800;omega) l1 l2 l3 l4 l5 l6 hx hra hrb hrf hS1 hS2 hS3 hS5 W {s with heap:=h5,toks:=tk3} #[] _ st tt u3 pt F5 N5 hS6 R5 (by simpa using hz) ?_
  intro h' tk' vs c' tv g1 g2 g3 g4
  refine ⟨rfl,ret h' tk' vs c' tv (by simpa using g1) g2 g3 ?_⟩
  intro ev he b hb o ho hn
  exact g4 ev he b hb o (P5 b o (fun e=>hS3 ev he (by rw [hb,e])) ho) hn
end
end Mine
end
section
namespace Mine
theorem allNe_every {d:Nat} {l:List (Addr × Obj)} (h:AllNe d l):∀p∈l,p.1≠d:=fun p hp=>allNe_mem (o:=p.2) h hp
theorem allNe_t {d:Nat} {p:Addr × Obj} {l:List (Addr × Obj)} (h:AllNe d (p::l)):AllNe d l:=h.2
local macro_rules | `(tactic|k_all)=> `(tactic|first|exact allNe_every (by with_reducible assumption)|exact allNe_every (allNe_t (by with_reducible assumption))|exact allNe_every (allNe_t (allNe_t (by with_reducible assumption)))|exact allNe_every (allNe_t (allNe_t (allNe_t (by with_reducible assumption)))))
theorem sub_news {g h:Heap} {L:Addr} {a b c d:Addr × Obj} {news:List (Addr × Obj)} (N:News g L h (a::b::c::d::news)):News g L h (a::b::news):=fun q hq=>N q (by
  rcases List.mem_cons.mp hq with rfl|hq
  · exact .head _
  · rcases List.mem_cons.mp hq with rfl|hq
    · exact .tail _ (.head _)
    · exact .tail _ (.tail _ (.tail _ (.tail _ hq))))
theorem use_on {w:World} {A:Around} {h₀:Heap} {fr:List Env} {L:Addr} {m:Str→Option Value} {news:List (Addr × Obj)} {s:Shared} {Q E:Value→Shared→Prop} (F:Fr h₀ L s.heap m) (N:News h₀ L s.heap news) (X:(K w.params).In h₀)
    (hA:A.frames=some fr) (hh:A.handled=none) (hd:Nat.ble A.depth 600=true) (hu:Nat.ble A.units 5900=true)
    (ret:∀(a b:Nat) (h':Heap) (tk':Nat),Fr h₀ L h' m→News h₀ L h' ((a,instObj 653 b)::(b,dictOf [] 0)::news)→AllNe a news→AllNe b news→@Ne Nat a b→Q (.ref a) {s with heap:=h',toks:=tk'}):
    wpAny (model pw_il0090_01 w) A (call (.builtin "object.__new__") [.ref 653]) Q E s:=by
  obtain ⟨h,g,d,t,os⟩:=s
  refine weaken (A':=ar 600 5900 A.guards fr) hh (Nat.le_of_ble_eq_true hd) hA.symm rfl (Nat.le_of_ble_eq_true hu) ?_
  refine on_sio w (k2_in (X.keeps F.keep)) fun a b h' t' k g1 g2 n1 n2=>?_
  obtain ⟨F',N1,e1⟩:=new_news F N k g1 n1
  obtain ⟨_,N2,e2⟩:=new_news F N k g2 n2
  refine ret a b h' t' F' (fun q hq=>?_) (allNe_of e1) (allNe_of e2) (obj_apart g1 g2 (by intro e;cases e))
  rcases List.mem_cons.mp hq with rfl|hq
  · exact N1 _ (.head _)
  · exact N2 q hq
theorem use_sio {w:World} {A A₀:Around} {base h₀:Heap} {env:Env} {outer:List Env} {L:Addr} {m mg mb:Str→Option Value} {mean:ExcName→Option Value} {pv:Program} {loose:List Str} {news:List (Addr × Obj)} {s:Shared} {Q E:Value→Shared→Prop} {x:Str} {tk:Nat}
    (B:Below A₀ base outer h₀) (F:Fr h₀ L s.heap m) (N:News h₀ L s.heap news) (X:(K w.params).In h₀) (T:Top pv loose mean mg mb h₀)
    (hA:A.frames=some (env::outer)) (hf:env.frame=some L) (hke:env.scope.kind= .function) (hh:A.handled=none) (hd:Nat.ble A.depth 560=true) (hu:Nat.ble A.units 5800=true)
    (ret:∀(a b:Nat) (h':Heap) (tk':Nat) (j0 j1 j2:Int) (u0 u1 u2 u3 xt pt:Nat),Fr h₀ L h' m→News h₀ L h' ((a,instObj 653 b)::(b,ioD j0 j1 j2 u0 u1 u2 u3 x xt 0 pt)::news)→AllNe a news→AllNe b news→@Ne Nat a b→Q (.ref a) {s with heap:=h',toks:=tk'}):
    wpAny (model pw_il0090_01 w) A (call (.ref 653) [.str x tk]) Q E s:=by
  refine weaken (A':=ar 560 5800 A.guards (env::outer)) hh (Nat.le_of_ble_eq_true hd) hA.symm rfl (Nat.le_of_ble_eq_true hu) ?_
  have eK:rw_il0090_01=rw_il0090_01:=rfl
  revert eK X
  k_fill
  intro X eK
  refine' make_own (K:=K w.params) (C:=653) (fN:=146) (fI:=423) (pN:=150) (mc:= .type "type") (v4:= .none) (X.keeps F.keep) ?a1 ?a2 ?a3 ?a4 ?a5 ?a6 ?a7 ?a8 ?a9 ?b1 ?b2 ?b3 ?_
  case a1=>exact rfl
  case a2=>exact rfl
  case a3=>exact rfl
  case a4=>exact rfl
  case a5=>k_is
  case a6=>k_is
  case a7=>k_is
  case a8=>k_is
  case a9=>k_is
  case b1=>k_is
  case b2=>k_is
  case b3=>k_is
  (refine' kp_both ?k1 ?k2 ?k3 ?k4 ?k5 ?kA ?kF ?kK ?k6 ?k7 ?k8 ?kV ?kX ?kQ ?kM ?kN ?kD ?kR ?kP ?kS ?kT ?kB ?_ ?c2 ?c3 ?c4 ?c5;(case kA=>exact rfl);(case kF=>exact hf);(case kK=>exact hke);(case k1=>k_asm);(case k2=>k_asm);(case k3=>k_asm);(case k4=>k_asm);(case k5=>k_asm);(case k6=>k_is);(case k7=>k_is);(case k8=>k_room);(case kV=>kp_lit);(case kX=>kp_lit);(case kQ=>exact rfl);(case kM=>exact rfl);(case kN=>exact rfl);(case kD=>kp_flats);(case kR=>exact rfl);(case kP=>exact rfl);(case kS=>exact fun _=>rfl);(case kT=>exact fun _ _=>rfl);(case kB=>exact fun _ _=>locs rfl);(case c5=>decide);(case c2=>exact rfl);(case c3=>exact rfl);(case c4=>exact rfl);k_whole;intro C' D' o' g' L' h' tk' l1 l2 lo' hs' fs' FG' F' N' B' X' T';(try k_lt l1);(try k_lt2 l2);(try dsimp only);(try k_lift B');(try k_fold))
  (try (refine let_ctx ?_;intro A9 e9))
  repeat' (first|(k_unfold;(try dsimp only))|((fail_if_success (fail_if_success (with_reducible refine is_call ?_)));(k_here;(with_reducible show wpAny _ _ (call (Value.builtin "object.__new__") [Value.ref _]) _ _ _);k_dflt (refine' use_on (by k_asm) (by k_asm) (by k_asm) (by exact rfl) (by exact rfl) (by exact rfl) (by exact rfl) ?_;k_whole);intro a' b' h' tk' F' N' n1' n2' n3'))|((with_reducible show ∃_ _,_∧_);(rename Fr h₀ _ _ _=>F8);(rename News h₀ _ _ _=>N8);(refine ⟨_,_,rfl,Frag.In.keeps (by assumption) (Fr.keep F8),News.get N8 (by k_mem),?_⟩);(refine' code_def ?k1 ?k2 ?k3 ?k4 ?k5 ?kA ?kF ?kK ?k6 ?k7 ?k8 ?k9 ?kB ?_ ?c2 ?c3 ?c4 ?c5;(case kA=>exact rfl);(case kF=>exact hf);(case kK=>exact hke);(case k1=>k_asm);(case k2=>k_asm);(case k3=>k_asm);(case k4=>k_asm);(case k5=>k_asm);(case k6=>k_is);(case k7=>k_is);(case k8=>k_room);(case k9=>first|exact BindsTo.of_eq rfl|exact binds_K (by k_in) rfl (by k_is) rfl rfl rfl|fail "k_enter: no rule for these arguments");(case c5=>decide);(case kB=>exact locs rfl);(case c2=>exact rfl);(case c3=>exact rfl);(case c4=>exact rfl);k_whole;intro g' L' h' FG' F' N' B' X' T';(try dsimp only);(try k_lift B');(try k_fold)))|(k_end;kc_close)|walk1|(dsimp only;walk1)|(leave1;(try dsimp only)))
  rename Fr h₀ _ _ _=>F9
  rename News h₀ _ _ _=>N9
  exact ret _ _ _ _ _ _ _ _ _ _ _ _ _ F9 (sub_news N9) (allNe_t (allNe_t n1')) (allNe_t (allNe_t n2')) n3'
end Mine
end
section
namespace Mine
section
variable {w:World} {A A₀:Around} {base h₀:Heap} {env:Env} {outer:List Env} {L:Addr} {m:Str→Option Value} {news:List (Addr × Obj)} {s:Shared} {Q E:Value→Shared→Prop} {x:Str} {tk:Nat}
theorem use_dq' (F:Fr h₀ L s.heap m) (N:News h₀ L s.heap news)
    (ret:∀(a:Nat) (h':Heap) (tk':Nat),Fr h₀ L h' m→News h₀ L h' ((a,dqO)::news)→AllNe a news→Q (.ref a) {s with heap:=h',toks:=tk'}):
    wpAny (model pw_il0090_01 w) A (call (.type "collections.deque") []) Q E s:=
  use_dq F N fun a h' tk' F' N' e=>ret a h' tk' F' N' (allNe_of e)
end
end Mine
end
section
namespace Mine
open Mine.Re
theorem new_news2 {h₀ h h':Heap} {L a:Addr} {o:Obj} {m:Str→Option Value} {news:List (Addr × Obj)} (F:Fr h₀ L h m) (N:News h₀ L h news) (k:Kept h h') (h1:h'.get? a=some o) (h2:h.get? a=none):
    Fr h₀ L h' m∧News h₀ L h' ((a,o)::news)∧AllNe a news:=by
  obtain ⟨a1,a2,a3⟩:=new_news F N k h1 h2
  exact ⟨a1,a2,allNe_of a3⟩
section
variable {w:World} {A:Around} {h₀:Heap} {L:Addr} {m:Str→Option Value} {news:List (Addr × Obj)} {s:Shared} {Q E:Value→Shared→Prop} {y tk t0 S H a b:Nat} {l:List Nat}
theorem use_mspan (F:Fr h₀ L s.heap m) (N:News h₀ L s.heap news) (M:MatAt h₀ y l tk [S,H,a,b])
    (ret:∀(t u1 u2 tk':Nat) (h':Heap),Fr h₀ L h' m→News h₀ L h' ((t,tupO [.int (S:Int) u1, .int (H:Int) u2])::news)→AllNe t news→Q (.ref t) {s with heap:=h',toks:=tk'}):
    wpAny (model pw_il0090_01 w) A (call (.builtin "re.Match.span") [.ref y, .int 0 t0]) Q E s:=
  span_call (M.keeps F.keep) fun t u1 u2 k h' kk e1 e2=>by
    obtain ⟨a1,a2,a3⟩:=new_news2 F N kk e1 e2
    exact ret t u1 u2 k h' a1 a2 a3
end
theorem slice_to {l:List Nat} {b:Nat} (h:b≤l.length):Txt.slice (tx l) none (some (b:Int))=tx (l.take b):=by
  have e:Txt.slice (tx l) none (some (b:Int))=StrLaws.sliceText (tx l) none (some (b:Int)):=rfl
  rw [e,StrLaws.sliceText_to ⟨by omega,by simp;omega⟩]
  simp [tx]
theorem slice_from {l:List Nat} {a:Nat} (h:a≤l.length):Txt.slice (tx l) (some (a:Int)) none=tx (l.drop a):=by
  have e:Txt.slice (tx l) (some (a:Int)) none=StrLaws.sliceText (tx l) (some (a:Int)) none:=rfl
  rw [e,StrLaws.sliceText_from ⟨by omega,by simp;omega⟩]
  have:(((tx l).cps.toList.length:Int) - (a:Int)).toNat=l.length - a:=by simp
  have e2:(tx l).cps.toList=l:=by simp [tx]
  rw [e2,Int.toNat_natCast,List.take_of_length_le (by simp)]
theorem add_slices {w:World} {A:Around} {s:Shared} {Q E:Value→Shared→Prop} {l:List Nat} {S H t u:Nat} (hS:S≤l.length) (hH:H≤l.length) (hz:l.length≤100000) (h:∀t' k,Q (.str (tx (l.take S++l.drop H)) t') {s with toks:=k}):
    wpAny (model pw_il0090_01 w) A (binaryOp .Add (.str (Txt.slice (tx l) none (some (S:Int))) t) (.str (Txt.slice (tx l) (some (H:Int)) none) u)) Q E s:=by
  rw [slice_to hS,slice_from hH]
  exact use_add rfl rfl (by simp;omega) h
theorem c_unm (w:World) {y tk S H a b:Nat} {l:List Nat} {gd:Option (List Code)} {fr:Option (List Env)} {mean:ExcName→Option Value} {pv:Program} {mg mb:Str→Option Value} {loose:List Str} {s:Shared} {Q E:Value→Shared→Prop}
    (X:(K w.params).In s.heap) (T:Top pv loose mean mg mb s.heap) (hM:MatAt s.heap y l tk [S,H,a,b]) (hz:l.length≤100000) (hS:S≤l.length) (hH:H≤l.length)
    (hret:∀v h' tk',Kept s.heap h'→(∃t,v= .str (tx (l.take S++l.drop H)) t)→Q v {s with heap:=h',toks:=tk'}):
    wpAny (model pw_il0090_01 w) (arF 600 6000 gd fr) (call (.ref 56) [.ref y]) Q E s:=by
  have eK:rw_il0090_01=rw_il0090_01:=rfl
  revert eK X
  k_fill
  intro X eK
  refine wpAny_call ?_
  k_dflt (refine' own_enterF ?k3 ?k4 ?k6 ?k7 ?k8 ?k9 ?kB ?_ ?c2 ?c3 ?c4 ?c5;(case k3=>exact X);(case k4=>exact T);(case k6=>k_is);(case k7=>k_is);(case k8=>exact Nat.le_of_ble_eq_true rfl);(case k9=>first|exact BindsTo.of_eq rfl|exact binds_K X rfl (by k_is) rfl rfl rfl);(case c5=>decide);(case kB=>exact locs rfl);(case c2=>exact rfl);(case c3=>exact rfl);(case c4=>exact rfl);k_whole;intro g' L' h' hg' hL' F' N' X' T';clear X T;(try dsimp only);(try k_fold))
  have hM':MatAt g' y l tk [S,H,a,b]:=by rw [hg'];exact hM
  clear hM
  (try (refine let_ctx ?_;intro A9 e9))
  repeat' (first|(k_unfold;(try dsimp only))|((fail_if_success (fail_if_success (with_reducible refine is_bin ?_)));first|(k_here;(with_reducible show wpAny _ _ (binaryOp .Add (Value.str (Txt.slice _ none _) _) (Value.str (Txt.slice _ _ none) _)) _ _ _);(refine' add_slices (by assumption) (by assumption) (by assumption) ?_);intro t' k'))|(k_here;(with_reducible show wpAny _ _ (getAttr (Value.ref _) (PySem.Str.ofString "string") true) _ _ _);(rename MatAt _ _ _ _ _=>hM9);(rename Fr _ _ _ _=>hF9);refine mat_string (MatAt.keeps hM9 hF9.keep) ?_)|((fail_if_success (fail_if_success (with_reducible refine is_call ?_)));first|((with_reducible show wpAny _ _ (call (Value.builtin "re.Match.span") _ _) _ _ _);(k_here;(rename MatAt _ _ _ _ _=>hM9);k_dflt (refine' use_mspan (by k_asm) (by k_asm) hM9 ?_;k_whole);intro t' u1 u2 tk' h' F' N' l1)))|((fail_if_success (fail_if_success (with_reducible refine is_gm ?_)));first|(k_here;(with_reducible show wpAny _ _ (getMethod (Value.ref _) (PySem.Str.ofString "span") _) _ _ _);(rename MatAt _ _ _ _ _=>hM9);(rename Fr _ _ _ _=>hF9);refine MatAt.meth (MatAt.keeps hM9 hF9.keep) slot_Match_span type_Match_span ?_))|(k_end;kc_close)|walk1|(dsimp only;walk1)|(leave1;(try dsimp only)))
  all_goals (show Q (Value.str _ _) _;exact hret _ _ _ (fun b o e=>(show Fr _ _ _ _ by assumption).keep b o (by rw [hg'];exact e)) ⟨_,rfl⟩)
end Mine
end
section
namespace Mine
open Mine.Re
section
variable {prog:Program} {w:World} {A:Around} {KK:Frag} {p:Program} {loose:List Str} {mean:ExcName→Option Value} {mg mb:Str→Option Value} {s:Shared} {R:Result→Shared→Prop}
theorem own_lamF {name qual:Str} {params:Arguments} {body:Expr} {scope:Scope} {pm ctv:Value} {c' f:Addr} {args:Args} {binds:List (Str × Value)}
    (X:KK.In s.heap) (T:Top p loose mean mg mb s.heap)
    (ho:s.heap.get? f=some (kla_obj name qual params body scope [] pm c' ctv)) (hcd:s.heap.CodeRec (.ref c') qual) (hroom:A.depth<recursionLimit)
    (hbind:bindArgs (kla_fn name qual params body scope [] pm (.ref c') ctv) args=pure binds) (hloc:∀y∈binds,scope.names.lookup y.1=some .local)
    (h:∀g L' h₁,g=s.heap→Fr g L' h₁ (fun y=>binds.reverse.lookup y)→News g L' h₁ []→KK.In g→Top p loose mean mg mb g→
      wpAny (model prog w) (A.deeper (envX qual scope L' f (.ref c') [])) (eval body (envX qual scope L' f (.ref c') []))
        (fun v s'=>R (.ok (.ret v)) s')
        (fun e s'=>wpAny (model prog w) (A.deeper (envX qual scope L' f (.ref c') [])) (leaving (envX qual scope L' f (.ref c') []) e) (fun _ s''=>R (.error e) s'') (fun e' s''=>R (.error e') s'') s')
        {s with heap:=h₁,toks:=s.toks+binds.length})
    (hco:scope.isCoroutine=false) (hgen:scope.isGenerator=false) (hk:scope.kind= .function)
    (hcell:∀x∈scope.names,x.2≠ .cell):codeAny (model prog w) A (.call (.ref f) args) R s:=by
  refine kla_callFunE hroom ho rfl hco hgen rfl hcd ?_
  rw [hbind]
  refine wpAny_pure (wpAny_newFunctionEnv hcell hloc (fun h₁ hns hsb=>⟨(T.nolimit).fresh _ hsb,?_⟩) hk)
  show codeAny _ _ (.expr body (envX qual scope s.heap.objs.size f (.ref c') [])) _ _
  have hk₁:∀b o,s.heap.get? b=some o→h₁.get? b=some o:=fun b o e=>hsb.extBut b o (Nat.ne_of_lt (Heap.lt_size e)) (Heap.get?_push_of_some _ e)
  exact kla_codeExpr (wpAny_mono (h _ s.heap.objs.size h₁ rfl ⟨hns,hk₁,Nat.le_refl _⟩ .nil X T) (fun v s' hl=>hl) fun _ _ y=>y)
end
noncomputable abbrev scL:Scope:={kind:= .function,names:=[(.ofString "_m", .local)],isGenerator:=false,isCoroutine:=false}
noncomputable abbrev bodyJ:Expr:= .BinOp (.Constant (.str "\\") 0 ⟨61,61,61,65⟩) .Add (.BoolOp .Or [.Call (.Attribute (.Name "_m" ⟨61,69,61,71⟩) "group" ⟨61,69,61,77⟩) [.Constant (.int 1) 0 ⟨61,78,61,79⟩] [] ⟨61,69,61,80⟩, .Constant (.str "") 0 ⟨61,84,61,86⟩] ⟨61,69,61,86⟩) ⟨61,61,61,87⟩
noncomputable abbrev argJ:Arguments:={posonlyargs:=[],args:=[{arg:= .ofString "_m",annotation:=none,pos:=⟨61,57,61,59⟩}],vararg:=none,kwonlyargs:=[],kw_defaults:=[],kwarg:=none,defaults:=[]}
noncomputable abbrev bodyS:Expr:= .BinOp (.Constant (.str "") 0 ⟨30,60,30,62⟩) .Add (.BoolOp .Or [.Call (.Attribute (.Name "_m" ⟨30,66,30,68⟩) "group" ⟨30,66,30,74⟩) [.Constant (.int 1) 0 ⟨30,75,30,76⟩] [] ⟨30,66,30,77⟩, .Constant (.str "") 0 ⟨30,81,30,83⟩] ⟨30,66,30,83⟩) ⟨30,60,30,84⟩
noncomputable abbrev argS:Arguments:={posonlyargs:=[],args:=[{arg:= .ofString "_m",annotation:=none,pos:=⟨30,56,30,58⟩}],vararg:=none,kwonlyargs:=[],kw_defaults:=[],kwarg:=none,defaults:=[]}
theorem use_mgroup {w:World} {A:Around} {h₀:Heap} {L:Addr} {m:Str→Option Value} {s:Shared} {Q E:Value→Shared→Prop} {y tk t0 S H a b:Nat} {l:List Nat} (F:Fr h₀ L s.heap m) (M:MatAt h₀ y l tk [S,H,a,b]) (hz:l.length≤100000)
    (ret:∀t k,Q (.str (tx ((l.drop a).take (b - a))) t) {s with toks:=k}):wpAny (model pw_il0090_01 w) A (call (.builtin "re.Match.group") [.ref y, .int 1 t0]) Q E s:=
  group_call (M.keeps F.keep) hz ret
theorem cut_len {l:List Nat} {a b:Nat} (hab:a<b) (hbl:b≤l.length) (hz:l.length≤100000):1≤((l.drop a).take (b - a)).length∧((l.drop a).take (b - a)).length≤100000:=by
  rw [List.length_take,List.length_drop]
  exact ⟨Nat.le_min.mpr ⟨Nat.sub_pos_of_lt hab,Nat.sub_pos_of_lt (Nat.lt_of_lt_of_le hab hbl)⟩,Nat.le_trans (Nat.min_le_right _ _) (Nat.le_trans (Nat.sub_le _ _) hz)⟩
theorem truthy_cut {prog:Program} {w:World} {A:Around} {E:Value→Shared→Prop} {s:Shared} {l:List Nat} {t:Nat} {Q:Bool→Shared→Prop} (h1:1≤l.length) (h2:l.length≤100000) (h:∀k,Q true {s with toks:=k}):wpAny (model prog w) A (PySem.truthy (.str (tx l) t)) Q E s:=
  KXt.truthy_pos (K:=100000) (by rw [tx_len];exact h1) (by rw [tx_len];exact h2) (Nat.le_of_ble_eq_true rfl) h
theorem add_pre {w:World} {A:Around} {s:Shared} {Q E:Value→Shared→Prop} {l:List Nat} {x:Str} {a:List Nat} {t u:Nat} (hx:x=tx a) (ha:a.length≤1) (h2:l.length≤100000) (h:∀t' k,Q (.str (tx (a++l)) t') {s with toks:=k}):
    wpAny (model pw_il0090_01 w) A (binaryOp .Add (.str x t) (.str (tx l) u)) Q E s:=use_add hx rfl (by omega) h
theorem c_lamJ (w:World) {f c' y tk S H a b:Nat} {l:List Nat} {qual:Str} {pm ctv:Value} {gd:Option (List Code)} {fr:Option (List Env)} {mean:ExcName→Option Value} {pv:Program} {mg mb:Str→Option Value} {loose:List Str} {s:Shared} {Q E:Value→Shared→Prop}
    (X:(K w.params).In s.heap) (T:Top pv loose mean mg mb s.heap) (hM:MatAt s.heap y l tk [S,H,a,b]) (hz:l.length≤100000) (hab:a<b) (hbl:b≤l.length)
    (ho:s.heap.get? f=some (kla_obj "<lambda>" qual argJ bodyJ scL [] pm c' ctv)) (hcd:s.heap.CodeRec (.ref c') qual)
    (hret:∀v h' tk',Kept s.heap h'→(∃t,v= .str (tx (92::(l.drop a).take (b - a))) t)→Q v {s with heap:=h',toks:=tk'}):
    wpAny (model pw_il0090_01 w) (arF 600 6000 gd fr) (call (.ref f) [.ref y]) Q E s:=by
  have eK:rw_il0090_01=rw_il0090_01:=rfl
  revert eK X
  k_fill
  intro X eK
  refine wpAny_call ?_
  refine own_lamF X T ho hcd (Nat.le_of_ble_eq_true rfl) rfl (locs rfl) (fun g' L' h' hg' F' N' X' T'=>?_) rfl rfl rfl (by decide)
  have hM':MatAt g' y l tk [S,H,a,b]:=by rw [hg'];exact hM
  clear hM X T
  have hcl:=cut_len hab hbl hz
  (try dsimp only)
  (try k_fold)
  (try (refine let_ctx ?_;intro A9 e9))
  repeat' (first|(k_unfold;(try dsimp only))|((fail_if_success (fail_if_success (with_reducible refine is_bin ?_)));first|(k_here;(with_reducible show wpAny _ _ (binaryOp .Add (Value.str (Str.ofString _) _) (Value.str (tx _) _)) _ _ _);(rename (1≤List.length _∧List.length _≤100000)=>hcl9);first|(refine' add_pre (a:=[92]) (by decide) (by decide) hcl9.2 ?_;intro t' k')|(refine' add_pre (a:=[]) (by decide) (by decide) hcl9.2 ?_;intro t' k')))|((fail_if_success (fail_if_success (with_reducible refine is_tr ?_)));first|(k_here;(with_reducible show wpAny _ _ (PySem.truthy (Value.str (tx _) _)) _ _ _);(rename (1≤List.length _∧List.length _≤100000)=>hcl9);(refine' truthy_cut hcl9.1 hcl9.2 ?_);intro _))|((fail_if_success (fail_if_success (with_reducible refine is_call ?_)));first|((with_reducible show wpAny _ _ (call (Value.builtin "re.Match.group") _ _) _ _ _);(k_here;(rename MatAt _ _ _ _ _=>hM9);k_dflt (refine' use_mgroup (by k_asm) hM9 (by assumption) ?_;k_whole);intro t' k')))|((fail_if_success (fail_if_success (with_reducible refine is_gm ?_)));first|(k_here;(with_reducible show wpAny _ _ (getMethod (Value.ref _) (PySem.Str.ofString "group") _) _ _ _);(rename MatAt _ _ _ _ _=>hM9);(rename Fr _ _ _ _=>hF9);refine MatAt.meth (MatAt.keeps hM9 hF9.keep) slot_Match_group type_Match_group ?_))|(k_end;kc_close)|walk1|(dsimp only;walk1)|(leave1;(try dsimp only)))
  all_goals (show Q (Value.str _ _) _;exact hret _ _ _ (fun b o e=>(show Fr _ _ _ _ by assumption).keep b o (by rw [hg'];exact e)) ⟨_,rfl⟩)
theorem c_lamS (w:World) {f c' y tk S H a b:Nat} {l:List Nat} {qual:Str} {pm ctv:Value} {gd:Option (List Code)} {fr:Option (List Env)} {mean:ExcName→Option Value} {pv:Program} {mg mb:Str→Option Value} {loose:List Str} {s:Shared} {Q E:Value→Shared→Prop}
    (X:(K w.params).In s.heap) (T:Top pv loose mean mg mb s.heap) (hM:MatAt s.heap y l tk [S,H,a,b]) (hz:l.length≤100000) (hab:a<b) (hbl:b≤l.length)
    (ho:s.heap.get? f=some (kla_obj "<lambda>" qual argS bodyS scL [] pm c' ctv)) (hcd:s.heap.CodeRec (.ref c') qual)
    (hret:∀v h' tk',Kept s.heap h'→(∃t,v= .str (tx ((l.drop a).take (b - a))) t)→Q v {s with heap:=h',toks:=tk'}):
    wpAny (model pw_il0090_01 w) (arF 600 6000 gd fr) (call (.ref f) [.ref y]) Q E s:=by
  have eK:rw_il0090_01=rw_il0090_01:=rfl
  revert eK X
  k_fill
  intro X eK
  refine wpAny_call ?_
  refine own_lamF X T ho hcd (Nat.le_of_ble_eq_true rfl) rfl (locs rfl) (fun g' L' h' hg' F' N' X' T'=>?_) rfl rfl rfl (by decide)
  have hM':MatAt g' y l tk [S,H,a,b]:=by rw [hg'];exact hM
  clear hM X T
  have hcl:=cut_len hab hbl hz
  (try dsimp only)
  (try k_fold)
  (try (refine let_ctx ?_;intro A9 e9))
  repeat' (first|(k_unfold;(try dsimp only))|((fail_if_success (fail_if_success (with_reducible refine is_bin ?_)));first|(k_here;(with_reducible show wpAny _ _ (binaryOp .Add (Value.str (Str.ofString _) _) (Value.str (tx _) _)) _ _ _);(rename (1≤List.length _∧List.length _≤100000)=>hcl9);first|(refine' add_pre (a:=[92]) (by decide) (by decide) hcl9.2 ?_;intro t' k')|(refine' add_pre (a:=[]) (by decide) (by decide) hcl9.2 ?_;intro t' k')))|((fail_if_success (fail_if_success (with_reducible refine is_tr ?_)));first|(k_here;(with_reducible show wpAny _ _ (PySem.truthy (Value.str (tx _) _)) _ _ _);(rename (1≤List.length _∧List.length _≤100000)=>hcl9);(refine' truthy_cut hcl9.1 hcl9.2 ?_);intro _))|((fail_if_success (fail_if_success (with_reducible refine is_call ?_)));first|((with_reducible show wpAny _ _ (call (Value.builtin "re.Match.group") _ _) _ _ _);(k_here;(rename MatAt _ _ _ _ _=>hM9);k_dflt (refine' use_mgroup (by k_asm) hM9 (by assumption) ?_;k_whole);intro t' k')))|((fail_if_success (fail_if_success (with_reducible refine is_gm ?_)));first|(k_here;(with_reducible show wpAny _ _ (getMethod (Value.ref _) (PySem.Str.ofString "group") _) _ _ _);(rename MatAt _ _ _ _ _=>hM9);(rename Fr _ _ _ _=>hF9);refine MatAt.meth (MatAt.keeps hM9 hF9.keep) slot_Match_group type_Match_group ?_))|(k_end;kc_close)|walk1|(dsimp only;walk1)|(leave1;(try dsimp only)))
  all_goals (show Q (Value.str _ _) _;exact hret _ _ _ (fun b o e=>(show Fr _ _ _ _ by assumption).keep b o (by rw [hg'];exact e)) ⟨_,rfl⟩)
theorem lamFn_of {w:World} {A:Around} {h₀:Heap} {p:Addr} {l:List Nat} {tk f:Nat} {fr:List Nat→List Nat} {pv:Program} {mg mb:Str→Option Value} {mean:ExcName→Option Value} {loose:List Str} (hh:A.handled=none) (hd:A.depth≤600) (hu:A.units≤6000) (X:(K w.params).In h₀) (T:Top pv loose mean mg mb h₀)
    (c:∀{gd:Option (List Code)} {fr':Option (List Env)} {s:Shared} {Q E:Value→Shared→Prop} {y S H a b:Nat},(K w.params).In s.heap→Top pv loose mean mg mb s.heap→MatAt s.heap y l tk [S,H,a,b]→a<b→b≤l.length→Kept h₀ s.heap→
      (∀v h' tk',Kept s.heap h'→(∃t,v= .str (tx (fr ((l.drop a).take (b - a)))) t)→Q v {s with heap:=h',toks:=tk'})→wpAny (model pw_il0090_01 w) (arF 600 6000 gd fr') (call (.ref f) [.ref y]) Q E s):
    LamFn pw_il0090_01 w A (.ref f) h₀ p l tk fr:=fun s' E y tp S H a1 b1 k e1 e2 ha hb=>by
  refine weaken (A':=arF 600 6000 A.guards A.frames) hh hd rfl rfl hu ?_
  exact c (X.keeps k) (T.keeps k) ⟨⟨p,1,tp,_,0,e1,e2⟩⟩ ha hb k fun v h' tk' k' p'=>⟨p',h',tk',rfl,k'⟩
end Mine
end
section
namespace Mine
open Mine.Re
noncomputable def QOk (l r:List Nat):Prop:=1≤l.length∧l.length≤20000∧(((∀c∈l,c∈alph)∧32∈l∧r=line0 l)∨(r=l∧∃b,b≤1000000∧Ends Miss b (Sre.forSearch cUns l.toArray 0 0 l.toArray.size false)))
theorem quote_any {w:World} {A:Around} {pv:Program} {mg mb:Str→Option Value} {mean:ExcName→Option Value} {loose:List Str} {s:Shared} {E:Value→Shared→Prop} {l r:List Nat} {tk:Nat}
    (hh:A.handled=none) (hd:A.depth≤600) (hu:A.units≤6000) (X:(K w.params).In s.heap) (T:Top pv loose mean mg mb s.heap) (h:QOk l r):
    wpAny (model pw_il0090_01 w) A (call (.ref 815) [.str (tx l) tk]) (fun y s'=>(∃t,y= .str (tx r) t)∧Keeps s s') E s:=by
  refine weaken (A':=arF 600 6000 A.guards A.frames) hh hd rfl rfl hu ?_
  obtain ⟨h1,h2,h3|⟨rfl,b,hb,hE⟩⟩:=h
  · obtain ⟨ha,hb,rfl⟩:=h3
    exact c_quote w ha hb h2 h1 X T fun v h' tk' k p=>⟨p,h',tk',rfl,k⟩
  · exact c_quoteN w hE hb h2 h1 X T fun v h' tk' k p=>⟨p,h',tk',rfl,k⟩
noncomputable abbrev scG:Scope:={kind:= .function,names:=[(.ofString ".0", .local),(.ofString "arg", .local),(.ofString "quote", .globalImplicit)],isGenerator:=true,isCoroutine:=false}
noncomputable abbrev scJ:Scope:={kind:= .function,names:=[(.ofString "split_command", .local)],isGenerator:=false,isCoroutine:=false}
theorem hd_806 (w:World) {h:Heap} (X:(K w.params).In h):CodeHd h 806 802:=⟨_,_,_,_,_,_,_,_,_,X _ _ rfl,rfl,rfl,rfl,rfl,rfl,rfl,rfl,rfl,by decide⟩
theorem hd_99 (w:World) {h:Heap} (X:(K w.params).In h):CodeHd h 99 95:=⟨_,_,_,_,_,_,_,_,_,X _ _ rfl,rfl,rfl,rfl,rfl,rfl,rfl,rfl,rfl,by decide⟩
theorem hd_82 (w:World) {h:Heap} (X:(K w.params).In h):CodeHd h 82 78:=⟨_,_,_,_,_,_,_,_,_,X _ _ rfl,rfl,rfl,rfl,rfl,rfl,rfl,rfl,rfl,by decide⟩
theorem fn_815 (w:World):∃o fd,(K w.params).lookup 815=some o∧o.data= .func fd:=⟨_,_,rfl,rfl⟩
theorem quote_elt {w:World} {A:Around} {pv:Program} {mg mb:Str→Option Value} {mean:ExcName→Option Value} {loose:List Str} {s:Shared} {E:Value→Shared→Prop} {l r:List Nat} {tk:Nat} {C:Addr} {code:Value} {env:Env} {m:Str→Option Value} {p1 p2 p3:Pos}
    (hh:A.handled=none) (hd:A.depth≤600) (hu:A.units≤6000) (X:(K w.params).In s.heap) (T:Top pv loose mean mg mb s.heap) (hg:env.globals=mainGlobals) (hn:s.heap.Ns C m) (hm:m "arg"=some (.str (tx l) tk)) (h:QOk l r):
    wpAny (model pw_il0090_01 w) A (eval (.Call (.Name "quote" p1) [.Name "arg" p2] [] p3) (genEnv scG [] C code builtinsNs env)) (fun y s'=>(∃t,y= .str (tx r) t)∧Keeps s s') E s:=by
  refine Call_ ?_
  have G:s.heap.Ns (genEnv scG [] C code builtinsNs env).globals mg:=by show s.heap.Ns env.globals mg;rw [hg];exact T.g
  refine Name_function_global rfl rfl (loadGlobal_global G (mg_of X T.g (v:= .ref 815) (by kernel_rfl)) ?_) (by decide)
  obtain ⟨o,fd,e1,e2⟩:=fn_815 w
  refine callWith_def e2 ?_
  refine args_cons (wpAny_Name (wpAny_loadName_local rfl rfl hn hm ?_) (by decide))
  refine args_nil ⟨X 815 _ e1,?_⟩
  exact quote_any hh hd hu X T h
theorem genexpr_both {M:Model} {A:Around} {E:Value→Shared→Prop} {s:Shared} {env:Env} {c P:Addr} {ps:Array Value} {pos:Pos} {qualname:Str} {scope:Scope} {Q:Value→Shared→Prop} (hc:env.code= .ref c) (HD:CodeHd s.heap c P) (hP:s.heap.get? P=some (tabObj ps)) (ht:TriplesOk ps.toList)
    (hQ:∀code h' tk ps',Heap.ExtBut P s.heap h'→s.heap.objs.size≤h'.objs.size→h'.get? P=some (tabObj ps')→TriplesOk ps'.toList→Q code {s with heap:=h',toks:=tk}):
    wpAny M A (genexprCode env pos qualname scope) Q E s:=by
  cases hnf:codeAmong pos ps.toList with
  | some cv=>exact wpAny_genexprCode_hit hc (HD.code hP ht) hnf (hQ cv s.heap s.toks ps (Heap.ExtBut.refl _ _) (Nat.le_refl _) hP ht)
  | none=>
    refine wpAny_genexprCodeX hc (HD.code hP ht) (HD.tab hP) hnf fun c' h' tk hx hge hlt hcode _ htab _=>hQ _ h' tk _ hx (Nat.le_trans hge (Nat.le_of_lt hlt)) htab.2 ?_
    obtain ⟨_,_,_,_,_,_,_,_,_,_,_,_,_,_,_,_,_,_,_,htr,_⟩:=hcode
    exact htr
theorem gen_quote {w:World} {A:Around} {pv:Program} {mg mb:Str→Option Value} {mean:ExcName→Option Value} {loose:List Str} {s:Shared} {Q E:Value→Shared→Prop} {g:Heap} {L:Addr} {m:Str→Option Value} {wl c:Nat} {vs:List Value} {rs:List (List Nat)} {ps:Array Value}
    {p1 p2 p3 p4 p5 pos:Pos}
    (hh:A.handled=none) (hd:A.depth≤560) (hu:A.units≤5900) (F:Fr g L s.heap m) (X:(K w.params).In g) (T:Top pv loose mean mg mb g) (hm:m "split_command"=some (.ref wl))
    (hP:s.heap.get? 802=some (tabObj ps)) (ht:TriplesOk ps.toList) (hg8:g.get? 802=none) (hwl:s.heap.get? wl=some (lstO vs.toArray c)) (hG:AllBare s.gens)
    (hv:∀(i:Nat) (v:Value),vs[i]?=some v→∃l t r,v=Value.str (tx l) t∧rs[i]?=some r∧QOk l r)
    (hret:∀(a:Nat) (h':Heap) (tk':Nat) (gs':Array GenState) (ps':Array Value),h'.get? 802=some (tabObj ps')→TriplesOk ps'.toList→(∀b o,b≠802→s.heap.get? b=some o→h'.get? b=some o)→AllBare gs'→
      Gen pw_il0090_01 w A (s.heap.objs.size - 1) a vs.length (fun j y=>∃r t,rs[j]?=some r∧y=Value.str (tx r) t) {s with heap:=h',toks:=tk',gens:=gs'}→Q (.ref a) {s with heap:=h',toks:=tk',gens:=gs'}):
    wpAny (model pw_il0090_01 w) A (eval (.GeneratorExp (.Call (.Name "quote" p1) [.Name "arg" p2] [] p3) [⟨.Name "arg" p4, .Name "split_command" p5,[],0⟩] scG pos) (envOf "join" scJ L 807 (.ref 806))) Q E s:=by
  have hrl:recursionLimit=1000:=rfl
  refine wpAny_GeneratorExp_walksQD (cl:=[]) hh rfl rfl (by decide) rfl rfl rfl (by omega) ?_ (fun _=>rfl)
  refine wpAny_Name (wpAny_loadName_local rfl rfl F.ns hm ?_) (by decide)
  have hil:s.heap.IsList wl vs.toArray:=⟨_,hwl,rfl,_,rfl⟩
  have hs0:0<s.heap.objs.size:=Nat.lt_of_le_of_lt (Nat.zero_le _) (Heap.lt_size hwl)
  have hwlt:wl<s.heap.objs.size:=Heap.lt_size hwl
  refine wpAny_pyIter_list hil ⟨(T.nolimit.keeps F.keep).push _,?_⟩
  have hP1:=Heap.get?_push_of_some {cls:= .type "list_iterator",data:= .fields #[.ref wl, .int 0 0]} hP
  have HD:=(hd_806 w X).keeps (h':=s.heap.push {cls:= .type "list_iterator",data:= .fields #[.ref wl, .int 0 0]}) fun b o e=>Heap.get?_push_of_some _ (F.keep b o e)
  refine genexpr_both (c:=806) (P:=802) (ps:=ps) rfl HD hP1 ht fun code h3 tk3 ps' hx3 hz3 hP3 ht3=>?_
  have k3:∀b o,b≠802→s.heap.get? b=some o→h3.get? b=some o:=fun b o hb e=>hx3 b o hb (Heap.get?_push_of_some _ e)
  have n8:∀b o,g.get? b=some o→b≠802:=fun b o e q=>by rw [q,hg8] at e;cases e
  have kg:∀b o,g.get? b=some o→h3.get? b=some o:=fun b o e=>k3 b o (n8 b o e) (F.keep b o e)
  have T3:=T.keeps kg
  obtain ⟨bm,ob,b1,b2,b3,b4,b5,b6⟩:=T3.bmain
  refine wpAny_builtinsFor (globals:=mainGlobals) T3.g b1 b2 b3 b4 b5 b6 ?_
  have hlP:wl≠802:=fun e=>by rw [e,hP] at hwl;cases hwl
  have hsz:s.heap.objs.size+1≤h3.objs.size:=by have:=hz3;rw [Heap.size_push] at this;exact this
  have hit:h3.IsListIter s.heap.objs.size wl 0∧h3.IsList wl vs.toArray:=by
    have hPs:(802:Addr)<s.heap.objs.size:=Heap.lt_size hP
    exact ⟨⟨_,hx3 _ _ (Nat.ne_of_gt hPs) (Heap.get?_push_size _ rfl),rfl,rfl⟩,⟨_,k3 _ _ hlP hwl,rfl,_,rfl⟩⟩
  refine ⟨s.heap.objs.size,[s.heap.objs.size,wl],[s.heap.objs.size],vs.toArray.size,_,_,fun _=>true,fun i y=>∃r t,rs[i]?=some r∧y=Value.str (tx r) t,rfl,(fun A' hA=>Walks.list hA _ _ (Nat.ne_of_lt hwlt) vs.toArray),hit,?_,T3.nolimit,?_,?_,?_⟩
  · intro b hb
    simp only [List.mem_cons,List.not_mem_nil,or_false] at hb
    rcases hb with rfl|rfl
    · exact hsz
    · exact Nat.lt_of_lt_of_le hwlt (Nat.le_of_succ_le hsz)
  · intro hm
    rw [List.mem_singleton] at hm
    have h0:(0:Nat)<cStatics→False:=fun _=>by
      obtain ⟨mc,hn,_⟩:=T.nolimit.keeps F.keep
      obtain ⟨o,es,ep,ho,_⟩:=hn
      have:=Heap.lt_size ho
      rw [hm] at this
      exact Nat.lt_irrefl _ this
    exact h0 (by rw [hm];exact hs0)
  · intro href hk
    refine ⟨?_,?_⟩
    · intro A' E' i v t m₂ hA hD hU hPv hn hmv hkp
      exact wpAny_pure ⟨rfl,t.heap,t.toks,rfl,fun _ _ e=>e⟩
    · intro A' E' i v t m₂ hA hD hU hPv hp hn hmv hkp
      obtain ⟨l,tt,r,rfl,hr,hq⟩:=hv i v (by simpa using hPv)
      have up:∀b o,g.get? b=some o→t.heap.get? b=some o:=fun b o e=>by
        have e1:=kg b o e
        refine hkp b (List.mem_range.mpr (Heap.lt_size e1)) (fun hm=>?_) o (hk b o e1)
        rw [List.mem_singleton] at hm
        exact Nat.ne_of_lt (Heap.lt_size (F.keep b o e)) hm
      refine wpAny_mono (quote_elt (r:=r) hA (by omega) (by omega) (X.keeps up) (T.keeps up) rfl hn hmv hq) (fun y s₃ h3'=>⟨?_,h3'.2⟩) fun _ _ e=>e
      obtain ⟨⟨t',ht'⟩,_⟩:=h3'
      exact ⟨r,t',hr,ht'⟩
  · intro a h5 tk5 gs hgb hag hz5 hk5 W hat
    have hpl:passing (fun _=>true) vs.toArray.size 0=List.range vs.length:=by simp [passing]
    refine hret a h5 tk5 _ ps' (hk5 _ _ hP3) ht3 (fun b o hb e=>hk5 b o (k3 b o hb e)) (hG.push hgb) ?_
    rw [hpl] at W
    have G0:Gen pw_il0090_01 w A (s.heap.objs.size - 1) a (List.range vs.length).length (fun j y=>∃i,(List.range vs.length)[j]?=some i∧∃r t,rs[i]?=some r∧y=Value.str (tx r) t) {s with heap:=h5,toks:=tk5,gens:=s.gens.push gs}:=by
      refine ⟨_,_,_,_,W,hat,(fun i s' st=>st.1.typeIs),List.mem_cons_self,?_,?_⟩
      · intro b hb
        show b<h5.objs.size
        rw [hz5]
        rcases List.mem_cons.mp hb with rfl|hb
        · exact Nat.lt_succ_self _
        · rcases List.mem_cons.mp hb with rfl|hb
          · exact Nat.lt_succ_of_lt hag
          · exact Nat.lt_succ_of_lt (Nat.lt_trans (List.mem_range.mp hb) hag)
      · intro b hb
        rcases List.mem_cons.mp hb with rfl|hb
        · show s.heap.objs.size - 1<h3.objs.size
          omega
        · rw [List.mem_singleton] at hb;subst hb
          show s.heap.objs.size - 1<s.heap.objs.size
          omega
    rw [List.length_range] at G0
    refine G0.imp fun j y hy=>?_
    obtain ⟨i,hij,r,t,hr,e⟩:=hy
    have hji:i=j:=by
      obtain ⟨hl,he⟩:=List.getElem?_eq_some_iff.mp hij
      rw [List.getElem_range] at he;exact he.symm
    subst hji
    exact ⟨r,t,hr,e⟩
theorem join_gen {w:World} {A:Around} {E:Value→Shared→Prop} {s:Shared} {Q:Value→Shared→Prop} {sep:Str} {t:Nat} {Kb a n:Nat} {rs:List (List Nat)} (X:Gen pw_il0090_01 w A Kb a n (fun j y=>∃r t,rs[j]?=some r∧y=Value.str (tx r) t) s) (hn:n=rs.length) (hG:AllBare s.gens)
    (hok:JoinOk sep (rs.map tx)=true) (hz:n≤1000)
    (hQ:∀(h':Heap) (tk' t':Nat) (gs':Array GenState),(∀b o,b≤Kb→s.heap.get? b=some o→h'.get? b=some o)→AllBare gs'→Q (.str (Str.join sep (rs.map tx)) t') {s with heap:=h',toks:=tk',gens:=gs'}):
    wpAny (model pw_il0090_01 w) A (call (.builtin "str.join") [.str sep t, .ref a]) Q E s:=by
  obtain ⟨fp,wr,g,St,W,hst,hT,ha,hfp,hwr⟩:=X
  have W:=W.in4_2
  refine SC.joinGen W hT hst hfp ha (fun j v hv=>let ⟨r,u,_,e⟩:=hv;⟨_,u,e⟩) (fun s' lt hm hacc=>?_) (by have:sizeLine=16777216:=rfl;omega)
  have hl:lt.map (·.1)=rs.map tx:=by
    apply List.ext_getElem?
    intro j
    have hsz:lt.length=n:=by simpa [strValues] using hacc.1
    by_cases hj:j<n
    · have hj':j<lt.length:=hsz▸hj
      obtain ⟨r,u,hr,hv⟩:=hacc.2 j (.str lt[j].1 lt[j].2) (by simp [strValues,List.getElem?_eq_getElem hj'])
      injection hv with h1 _
      simp [List.getElem?_eq_getElem hj',hr,h1]
    · rw [List.getElem?_eq_none (by simpa [hsz] using Nat.le_of_not_lt hj),List.getElem?_eq_none (by simpa [hn] using Nat.le_of_not_lt hj)]
  rw [hl]
  refine ⟨hok,fun t' k=>?_⟩
  have e1:Txt.join sep (rs.map tx)=Str.join sep (rs.map tx):=StrLaws.glued_eq_join sep _
  have e2:({s' with toks:=k}:Shared)={s with heap:=s'.heap,toks:=k,gens:=s'.gens}:=by
    obtain ⟨h1,g1,d1,t1,o1⟩:=s'
    have ed:d1=s.drawn:=hm.drawn
    have eo:o1=s.os:=hm.os
    subst ed eo;rfl
  rw [e1,e2]
  exact hQ s'.heap k t' s'.gens (fun b o hb e=>hm.heap b o (fun hmem=>Nat.lt_irrefl _ (Nat.lt_of_lt_of_le (hwr b hmem) hb)) e) (hG.movedS hm)
end Mine
end
section
namespace Mine
open Mine.Re
theorem below_hide {A:Around} {base h:Heap} {outer:List Env} {as:List Addr} (B:Below A base outer h) (hb:∀a∈as,base.get? a=none) (hf:∀a∈as,∀o,h.get? a=some o→∃vs,o.data= .fields vs):Below A base outer (hideAll h as):=by
  refine ⟨B.stack,hide_sub B.stays hb,funFrames_hideAll B.frames fun env he a ha hfa=>?_⟩
  obtain ⟨_,o,ho,hn⟩:=B.frames.mem (List.mem_filterMap.mpr ⟨env,he,hfa⟩)
  obtain ⟨vs,e⟩:=hf a ha o ho
  exact hn vs e
theorem c_join (w:World) {wl c:Nat} {vs:List Value} {rs:List (List Nat)} {pv:Program} {ps:Array Value}
    (Bw:Below (ar 540 5600 gd outer) base outer s.heap) (XB:(K w.params).In base) (TB:Top pv loose mean mg mb base) (h8:base.get? 802=none)
    (hP:s.heap.get? 802=some (tabObj ps)) (ht:TriplesOk ps.toList) (hwl:s.heap.get? wl=some (lstO vs.toArray c)) (hG:AllBare s.gens) (hn:vs.length=rs.length) (hn2:vs.length≤1000)
    (hv:∀(i:Nat) (v:Value),vs[i]?=some v→∃l t r,v=Value.str (tx l) t∧rs[i]?=some r∧QOk l r) (hok:JoinOk " " (rs.map tx)=true)
    (hret:∀(h':Heap) (tk' t:Nat) (gs':Array GenState) (ps':Array Value),h'.get? 802=some (tabObj ps')→TriplesOk ps'.toList→(∀b o,b≠802→s.heap.get? b=some o→h'.get? b=some o)→AllBare gs'→
      Q (.str (Str.join " " (rs.map tx)) t) {s with heap:=h',toks:=tk',gens:=gs'}):
    wpAny (model pw_il0090_01 w) (ar 540 5600 gd outer) (call (.ref 807) [.ref wl]) Q E s:=by
  have hne:wl≠802:=fun e=>by rw [e,hP] at hwl;cases hwl
  have Bh:Below (ar 540 5600 gd outer) base outer (hideAll s.heap [802]):=below_hide Bw (by intro a ha;rw [List.mem_singleton] at ha;subst ha;exact h8) (by intro a ha o ho;rw [List.mem_singleton] at ha;subst ha;rw [hP] at ho;cases ho;exact ⟨_,rfl⟩)
  have X:=XB.keeps Bh.stays
  have T:=TB.keeps Bh.stays
  clear Bw
  have eK:rw_il0090_01=rw_il0090_01:=rfl
  revert eK X XB
  k_fill
  intro X XB eK
  refine wpAny_call ?_
  k_dflt (refine' own_enter (chg:=[(802,tabObj ps)]) ?k1 ?k2 ?k3 ?k4 ?k6 ?k7 ?k8 ?k9 ?kB ?_ ?c2 ?c3 ?c4 ?c5;(case k1=>exact Bh);(case k2=>(intro q hq;rw [List.mem_singleton] at hq;subst hq;exact hP));(case k3=>exact XB);(case k4=>exact T);(case k6=>k_is);(case k7=>k_is);(case k8=>exact Nat.le_of_ble_eq_true rfl);(case k9=>first|exact BindsTo.of_eq rfl|exact binds_K (Frag.In.keeps XB fun b o e=>of_hideAll _ e) rfl (by k_is) rfl rfl rfl);(case c5=>decide);(case kB=>exact locs rfl);(case c2=>exact rfl);(case c3=>exact rfl);(case c4=>exact rfl);k_whole;intro g' L' h' hg' hL' F' N' B' X' T' hlt';clear X XB T TB Bh;(try dsimp only);(try k_fold))
  (try (refine let_ctx ?_;intro A9 e9))
  repeat' (first|(k_unfold;(try dsimp only))|(k_end;kc_close)|walk1|(dsimp only;walk1)|(leave1;(try dsimp only)))
  have hwl':h'.get? wl=some (lstO vs.toArray c):=F'.keep _ _ (by rw [hg'];exact hideAll_get _ hwl (by intro hm;exact hne (List.mem_singleton.mp hm)))
  have up:∀b o,b≠802→s.heap.get? b=some o→h'.get? b=some o:=fun b o hb e=>F'.keep _ _ (by rw [hg'];exact hideAll_get _ e (by intro hm;exact hb (List.mem_singleton.mp hm)))
  refine gen_quote (s:=⟨h',s.gens,s.drawn,_,s.os⟩) rfl (Nat.le_of_ble_eq_true rfl) (Nat.le_of_ble_eq_true rfl) F' X' T' rfl (N' _ (.head _)).1 ht (N' (802,_) (.head _)).2.2 hwl' hG hv fun a h2 tk2 gs2 ps2 hP2 ht2 k2 hG2 X2=>?_
  refine args_nil ?_
  refine join_gen X2 hn hG2 hok hn2 fun h3 tk3 t3 gs3 k3 hG3=>?_
  have k23:∀b o,b<h'.objs.size→h2.get? b=some o→h3.get? b=some o:=fun b o hb e=>k3 b o (by show b≤h'.objs.size - 1;omega) e
  have h8l:(802:Nat)<h'.objs.size:=Heap.lt_size (N' (802,tabObj ps) (.head _)).1
  refine Then.rt (by assumption) _ _ ?_
  show Q _ _
  exact hret h3 tk3 t3 gs3 ps2 (k23 _ _ h8l hP2) ht2 (fun b o hb e=>k23 b o (Heap.lt_size (up b o hb e)) (k2 b o hb (up b o hb e))) hG3
end Mine
end
section
namespace Mine
open Mine.Re
noncomputable def TabL (line col:Nat) (qual:Str) (ps:Array Value) (cA:Addr) (oA:Obj):Prop:=
  ps=#[]∨(ps=#[rawInt line,rawInt col, .ref cA]∧∃vs t,oA.data= .fields vs∧vs[1]?=some (.str qual t))
theorem TabL.triples {line col:Nat} {qual:Str} {ps:Array Value} {cA:Addr} {oA:Obj} (h:TabL line col qual ps cA oA):TriplesOk ps.toList:=by
  rcases h with rfl|⟨rfl,_⟩
  · exact trivial
  · exact trivial
section
variable {M:Model} {A:Around} {E:Value→Shared→Prop} {s:Shared} {h₀:Heap} {L a c P:Addr} {m mg mb:Str→Option Value} {cn:Str} {cs:Scope} {ccd:Value} {cl:List (Str × Addr)} {news:List (Addr × Obj)} {g:Obj→List (Addr × Obj)}
  {p:Program} {loose:List Str} {mean:ExcName→Option Value} {params:Arguments} {body:Expr} {scope:Scope} {ps:Array Value} {pos:Pos}
theorem lam_two {Q:Value→Shared→Prop} {cA:Addr} {oA:Obj} {name qual:Str} {firstLine:Nat} {line col:Nat} (hl:pos.line=line) (hco:pos.col=col) (F:Fr h₀ L s.heap m) (N:News h₀ L s.heap news) (T:Top p loose mean mg mb h₀) (C:CodeHd h₀ c P) (hcd:ccd= .ref c) (U:UpdF P (tabObj ps) news g)
    (hT:TabL line col qual ps cA oA) (hcl:closureFor scope (envX cn cs L a ccd cl)=pure [])
    (h1:∀f c' oc ctv ps' h' tk,Fr h₀ L h' m→News h₀ L h' ((f,kla_obj name qual params body scope [] ((mg "__name__").getD .none) c' ctv)::(c',oc)::g (tabObj ps'))→
      TabL line col qual ps' c' oc→ps'≠#[]→(∀q∈news,q.1<c')→(∀q∈(c',oc)::news,q.1<f)→Q (.ref f) {s with heap:=h',toks:=tk})
    (h2:∀f ctv h' tk,Fr h₀ L h' m→News h₀ L h' ((f,kla_obj name qual params body scope [] ((mg "__name__").getD .none) cA ctv)::news)→
      TabL line col qual ps cA oA→ps≠#[]→(∀q∈news,q.1<f)→Q (.ref f) {s with heap:=h',toks:=tk}):
    wpAny M A (makeFunction name qual params (.expr body) scope (envX cn cs L a ccd cl) [] [] [] pos firstLine) Q E s:=by
  rcases hT with rfl|⟨rfl,vs,t,hd,hq⟩
  · refine kla_nest F N T C hcd U trivial rfl hcl fun f c' oc vs t ctv h' tk F' N' hd hv l1 l2=>?_
    exact h1 f c' oc ctv _ h' tk F' N' (.inr ⟨by rw [←hl,←hco];simp,vs,t,hd,hv⟩) (by simp) l1 fun q hq=>by
      rcases List.mem_cons.mp hq with rfl|hq
      · exact l2
      · exact Nat.lt_trans (l1 q hq) l2
  · obtain ⟨pre,post,e1,e2,_,_⟩:=U.split
    have hmem:(P,tabObj #[rawInt line,rawInt col, .ref cA])∈news:=by rw [e1];exact List.mem_append_right _ (.head _)
    refine kla_hit (c':=cA) F N T C hcd hmem trivial ?_ hcl fun f ctv h' tk F' N' l1=>?_
    · show (if ((line:Int)==pos.line && (col:Int)==pos.col)=true then some (Value.ref cA) else _)=_
      rw [hl,hco];simp
    · exact h2 f ctv h' tk F' N' (.inr ⟨rfl,vs,t,hd,hq⟩) (by simp) l1
inductive EndW (x y:Addr × Obj):List (Addr × Obj)→List (Addr × Obj)→List (Addr × Obj)→Prop
  | here:EndW x y [x,y] [] [y]
  | cons {p l r r2}:EndW x y l r r2→EndW x y (p::l) (p::r) (p::r2)
theorem EndW.eq {x y:Addr × Obj} {l r r2:List (Addr × Obj)} (h:EndW x y l r r2):l=r++[x,y]∧r2=r++[y]:=by
  induction h with
  | here=>exact ⟨rfl,rfl⟩
  | cons _ ih=>rw [ih.1,ih.2];exact ⟨rfl,rfl⟩
theorem allNe_all {d:Addr}:∀{l:List (Addr × Obj)},AllNe d l→∀q∈l,q.1≠d
  | [],_,q,hq=>nomatch hq
  | _::_,h,q,hq=>by
    rcases List.mem_cons.mp hq with rfl|hq
    · exact h.1
    · exact allNe_all h.2 q hq
theorem upd_end {P cA:Addr} {ps:Array Value} {oA:Obj} (hne:@Ne Nat cA P):∀{l:List (Addr × Obj)},AllNe P l→UpdF P (tabObj ps) (l++[(P,tabObj ps),(cA,oA)]) (fun o'=>l++[(P,o'),(cA,oA)])
  | [],_=> .head fun q hq=>by rw [List.mem_singleton] at hq;subst hq;exact hne
  | _::_,h=> .tail h.1 (upd_end hne h.2)
theorem lam_any {Q:Value→Shared→Prop} {cA:Addr} {oA:Obj} {name qual:Str} {firstLine:Nat} {line col:Nat} {rest rest2:List (Addr × Obj)} (hl:pos.line=line) (hco:pos.col=col) (F:Fr h₀ L s.heap m) (N:News h₀ L s.heap news) (T:Top p loose mean mg mb h₀) (hcd:ccd= .ref c) (C:CodeHd h₀ c P) (W:EndW (P,tabObj ps) (cA,oA) news rest rest2) (h1:AllNe P rest) (h2:AllNe cA rest) (hne:@Ne Nat cA P) (hT:TabL line col qual ps cA oA) (hcl:closureFor scope (envX cn cs L a ccd cl)=pure []) (h:∀f c' oc ctv ps' h' tk,Fr h₀ L h' m→News h₀ L h' ((f,kla_obj name qual params body scope [] ((mg "__name__").getD .none) c' ctv)::(c',oc)::(P,tabObj ps')::rest2)→
      TabL line col qual ps' c' oc→ps'≠#[]→AllNe c' rest→@Ne Nat c' P→(∀q∈(c',oc)::(P,tabObj ps')::rest2,q.1<f)→Q (.ref f) {s with heap:=h',toks:=tk}):
    wpAny M A (makeFunction name qual params (.expr body) scope (envX cn cs L a ccd cl) [] [] [] pos firstLine) Q E s:=by
  obtain ⟨e,e2⟩:=W.eq
  subst e e2
  refine lam_two hl hco F N T C hcd (upd_end hne h1) hT hcl (fun f c' oc ctv ps' h' tk F' N' hT' hne' l1 l2=>?_) fun f ctv h' tk F' N' hT' hne' l1=>?_
  · refine h f c' oc ctv ps' h' tk F' (fun q hq=>N' q ?_) hT' hne' (allNe_of fun q hq=>Nat.ne_of_lt (l1 q (List.mem_append_left _ hq))) (Nat.ne_of_gt (l1 (P,tabObj ps) (List.mem_append_right _ (.head _)))) fun q hq=>?_
    · simp only [List.mem_cons,List.mem_append,List.not_mem_nil,or_false] at hq ⊢
      rcases hq with h|h|h|h|h<;>simp [h]
    · rcases List.mem_cons.mp hq with rfl|hq
      · exact l2 _ (.head _)
      · rcases List.mem_cons.mp hq with rfl|hq
        · exact l2 (P,tabObj ps) (.tail _ (List.mem_append_right _ (.head _)))
        · rcases List.mem_append.mp hq with hq|hq
          · exact l2 q (.tail _ (List.mem_append_left _ hq))
          · exact l2 q (.tail _ (List.mem_append_right _ (.tail _ hq)))
  · refine h f cA oA ctv ps h' tk F' (fun q hq=>N' q ?_) hT' hne' h2 hne fun q hq=>?_
    · simp only [List.mem_cons,List.mem_append,List.not_mem_nil,or_false] at hq ⊢
      rcases hq with h|h|h|h|h<;>simp [h]
    · rcases List.mem_cons.mp hq with rfl|hq
      · exact l1 (cA,oA) (List.mem_append_right _ (.tail _ (.head _)))
      · rcases List.mem_cons.mp hq with rfl|hq
        · exact l1 (P,tabObj ps) (List.mem_append_right _ (.head _))
        · rcases List.mem_append.mp hq with hq|hq
          · exact l1 q (List.mem_append_left _ hq)
          · exact l1 q (List.mem_append_right _ (.tail _ hq))
theorem or_fresh {g h:Heap} {ads:List Addr} {c cA:Addr} (hg:g=hideAll h ads) (hn:g.get? c=none) (ha:∀a∈ads,@Ne Nat a c∨a=cA):c=cA∨h.get? c=none:=by
  by_cases hc:c∈ads
  · rcases ha c hc with e|e
    · exact absurd rfl e
    · exact .inl e
  · right
    cases z:h.get? c with
    | none=>rfl
    | some o=>rw [hg,hideAll_get _ z hc] at hn;cases hn
theorem kept_all {g h h':Heap} {ads:List Addr} {L P:Addr} {m:Str→Option Value} (hg:g=hideAll h ads) (F:Fr g L h' m) (ha:∀a∈ads,a=P∨∀o,h.get? a=some o→h'.get? a=some o):∀b o,b≠P→h.get? b=some o→h'.get? b=some o:=fun b o hb e=>by
  by_cases hm:b∈ads
  · rcases ha b hm with rfl|h1
    · exact absurd rfl hb
    · exact h1 o e
  · exact kept_hide hg F b o hm e
theorem same_get {h h':Heap} {a:Addr} {o:Obj} (e:h.get? a=some o) (e':h'.get? a=some o):∀o',h.get? a=some o'→h'.get? a=some o':=fun o' z=>by rw [e] at z;cases z;exact e'
theorem TabL.rec_of {line col:Nat} {qual:Str} {ps:Array Value} {cA:Addr} {oA:Obj} {h:Heap} (hT:TabL line col qual ps cA oA) (hne:ps≠#[]) (e:h.get? cA=some oA):h.CodeRec (.ref cA) qual:=by
  rcases hT with rfl|⟨rfl,vs,t,hd,hq⟩
  · exact absurd rfl hne
  · exact ⟨cA,oA,vs,t,rfl,e,hd,hq⟩
end
theorem below_sub {A A₀:Around} {base h₀ h:Heap} {outer:List Env} {L:Addr} {m:Str→Option Value} {env:Env} {news:List (Addr × Obj)} {as:List Addr} (B:Below A₀ base outer h₀) (F:Fr h₀ L h m) (N:News h₀ L h news) (hA:A.frames=some (env::outer)) (hf:env.frame=some L) (hke:env.scope.kind= .function)
    (ha:∀a∈as,∃o,(a,o)∈news):Below A base (env::outer) (hideAll h as):=by
  have BP:=pushX B F hf hke
  refine ⟨hA,hide_sub BP.stays fun a hm=>?_,funFrames_hideAll BP.frames fun e he a hm hfa=>?_⟩
  · obtain ⟨o,ho⟩:=ha a hm
    cases z:base.get? a with
    | none=>rfl
    | some x=>have:=(N _ ho).2.2;rw [B.stays _ _ z] at this;cases this
  · obtain ⟨o,ho⟩:=ha a hm
    cases he with
    | head=>rw [hf] at hfa;exact (N _ ho).2.1 (Option.some.inj hfa).symm
    | tail _ he=>
      obtain ⟨L₁,o₁,hf₁,ho₁⟩:=funFrames_in B.frames e he
      rw [hf₁] at hfa
      have:=(N _ ho).2.2
      rw [←Option.some.inj hfa,ho₁] at this
      cases this
end Mine
end
section
namespace Mine
open Mine.Re
noncomputable def patIn (K:Frag) (p:Addr) (C:Array Nat) (g:Nat):Bool:=match K.lookup p with
  | some ⟨.type "re.Pattern",none, .fields fs,_⟩=>(match fs.getD 5 .none with
    | Value.ref cd=>(match K.lookup cd with
      | some ⟨_,_, .seq xs _,_⟩=>((xs.map Builtin.Re.reRawOf).map (·.toNat)).toList==C.toList && Builtin.Re.reRawNat (fs.getD 2 .none)==g && Builtin.Re.reRawNat (fs.getD 6 .none)==0
      | _=>false)
    | _=>false)
  | _=>false
theorem pat_of {K:Frag} {p:Addr} {C:Array Nat} {g:Nat} {h:Heap} (e:patIn K p C g=true) (X:K.In h):PatAt h p C g:=by
  unfold patIn at e
  split at e
  · rename_i fs sl hp
    split at e
    · rename_i cd hcd
      split at e
      · rename_i c2 d2 xs n sl2 hcc
        simp only [Bool.and_eq_true,beq_iff_eq] at e
        exact ⟨⟨_,fs,cd,_,xs,n,X _ _ hp,rfl,rfl,rfl,hcd,e.1.2,e.2,X _ _ hcc,rfl,Array.toList_inj.mp e.1.1⟩⟩
      · cases e
    · cases e
  · cases e
section
variable {w:World} {A:Around} {h₀:Heap} {L:Addr} {m mg mb:Str→Option Value} {news:List (Addr × Obj)} {s:Shared} {Q E:Value→Shared→Prop} {pv:Program} {mean:ExcName→Option Value} {loose:List Str} {l:List Nat} {tk:Nat}
theorem pm_full {pl:Sem Bool} {Q:Value × List Value→Shared→Prop} (F:Fr h₀ L s.heap m) (X:(K w.params).In h₀) (h:Q (.builtin "re.Pattern.fullmatch",[.ref 88]) s):wpAny (model pw_il0090_01 w) A (getMethod (.ref 88) "fullmatch" pl) Q E s:=
  ((pat_of (p:=88) (C:=cFull) (g:=0) (by kernel_rfl) X).keeps F.keep).meth slot_Pattern_fullmatch type_Pattern_fullmatch h
theorem pm_subJ {pl:Sem Bool} {Q:Value × List Value→Shared→Prop} (F:Fr h₀ L s.heap m) (X:(K w.params).In h₀) (h:Q (.builtin "re.Pattern.sub",[.ref 93]) s):wpAny (model pw_il0090_01 w) A (getMethod (.ref 93) "sub" pl) Q E s:=
  ((pat_of (p:=93) (C:=cJesc) (g:=1) (by kernel_rfl) X).keeps F.keep).meth slot_Pattern_sub type_Pattern_sub h
theorem use_full (F:Fr h₀ L s.heap m) (X:(K w.params).In h₀) (ha:∀c∈l,c∈alph) (hb:32∈l) (hz:l.length≤20000) (h:Q .none s):wpAny (model pw_il0090_01 w) A (call (.builtin "re.Pattern.fullmatch") [.ref 88, .str (tx l) tk]) Q E s:=
  full_miss_call ((pat_of (p:=88) (C:=cFull) (g:=0) (by kernel_rfl) X).keeps F.keep) (by omega) (full_miss ha hb hz) (by omega) h
theorem use_full7 (F:Fr h₀ L s.heap m) (N:News h₀ L s.heap news) (X:(K w.params).In h₀) (h:∀(y:Nat) (h':Heap) (o:Obj),Fr h₀ L h' m→News h₀ L h' ((y,o)::news)→AllNe y news→o.cls= .type "re.Match"→Q (.ref y) {s with heap:=h'}):
    wpAny (model pw_il0090_01 w) A (call (.builtin "re.Pattern.fullmatch") [.ref 88, .str "7" tk]) Q E s:=by
  refine full_hit_call ((pat_of (p:=88) (C:=cFull) (g:=0) (by kernel_rfl) X).keeps F.keep) (by decide) full_7 (by omega) (sp:=[]) rfl rfl (by decide) fun y t h' k e1 e2 n1 n2=>?_
  obtain ⟨a1,a2,a3⟩:=new_news2 F N k e1 n1
  exact h y h' _ a1 a2 a3 rfl
theorem use_subJ {fn c':Nat} {qual:Str} {pm ctv:Value} {oc:Obj} {ps:Array Value} {line col:Nat} (F:Fr h₀ L s.heap m) (N:News h₀ L s.heap news) (X:(K w.params).In h₀) (T:Top pv loose mean mg mb h₀) (hz:l.length≤20000)
    (hf:(fn,kla_obj "<lambda>" qual argJ bodyJ scL [] pm c' ctv)∈news) (hc:(c',oc)∈news) (hT:TabL line col qual ps c' oc) (hne:ps≠#[]) (hh:A.handled=none) (hd:Nat.ble A.depth 580=true) (hu:Nat.ble A.units 5900=true)
    (ret:∀h' tk' t,Fr h₀ L h' m→News h₀ L h' news→Q (.str (tx (Es l)) t) {s with heap:=h',toks:=tk'}):
    wpAny (model pw_il0090_01 w) A (call (.builtin "re.Pattern.sub") [.ref 93, .ref fn, .str (tx l) tk]) Q E s:=by
  obtain ⟨ps',W,e1,e2,e3⟩:=subr_j l.length l [] l (Nat.le_refl _) rfl
  have hes:=es_len l
  have hd':=Nat.le_of_ble_eq_true hd
  have hu':=Nat.le_of_ble_eq_true hu
  have hfn:=(N _ hf).1
  have hcr:=hT.rec_of hne (N _ hc).1
  refine sub_call ((pat_of (p:=93) (C:=cJesc) (g:=1) (by kernel_rfl) X).keeps F.keep) ⟨_,hfn,rfl⟩ (by omega) (lamFn_of (A:=A.in1) hh (by show A.depth≤600;omega) (by show A.units+1≤6000;omega) (X.keeps F.keep) (T.keeps F.keep) ?_) W (by omega) (by omega) fun h' tk' t k=>?_
  · intro gd fr s' Q E y S H a b X' T' M hab hbl k ret'
    obtain ⟨c₂,oc₂,vs,t,q1,q2,q3,q4⟩:=hcr
    exact c_lamJ w X' T' M (by omega) hab hbl (k _ _ hfn) ⟨c₂,oc₂,vs,t,q1,k _ _ q2,q3,q4⟩ ret'
  · rw [e1];exact ret h' tk' t (F.keeps k) (N.keepsAll k)
end
end Mine
end
section
namespace Mine
open Mine.Re
section
variable {prog:Program} {w:World} {A:Around} {E:Value→Shared→Prop} {s:Shared} {Q:Value→Shared→Prop} {b:List Nat} {t u:Nat} {h₀:Heap} {L:Addr} {news:List (Addr × Obj)}
theorem mod_q (hb:b.length≤900000) (h:∀t' k,Q (.str (tx (34::(b++[34]))) t') {s with toks:=k}):wpAny (model prog w) A (binaryOp .Mod (.str "\"%s\"" t) (.str (tx b) u)) Q E s:=by
  refine' KPc.mod_str ?kpcF ?kpcl ?kpcm ?_
  case kpcF=>kpc_eq
  case kpcl=>(rw [tx_len];omega)
  case kpcm=>kpc_run_s
  intro t' k
  have e:Str.ofString "\""++tx b++Str.ofString "\""=tx (34::(b++[34])):=by
    rw [show Str.ofString "\""=tx [34] by decide,tx_append,tx_append];rfl
  rw [e];exact h t' k
theorem mod_t {c:String} {d:Nat} {r k1 k2:Nat} (hc:Str.ofString c=tx [d]) (N:News h₀ L s.heap news) (hm:(r,tupO [.str (.ofString c) k1, .str (tx b) k2])∈news) (hb:b.length≤900000) (h:∀t' k,Q (.str (tx (d::61::b)) t') {s with toks:=k}):wpAny (model prog w) A (binaryOp .Mod (.str "%s=%s" t) (.ref r)) Q E s:=by
  rw [hc] at hm
  have hb':(tx b).length≤900000:=by rw [tx_len];exact hb
  have hd':(tx [d]).length≤900000:=by rw [tx_len];simp
  refine' KPt.mod_tuple ?kptN ?kptb ?kptF ?kptm ?_
  case kptN=>exact N
  case kptb=>exact hm
  case kptF=>kpt_eq
  case kptm=>kpt_run
  intro t' k
  have e:tx [d]++Str.ofString "="++tx b=tx (d::61::b):=by
    rw [show Str.ofString "="=tx [61] by decide,tx_append,tx_append];rfl
  rw [e];exact h t' k
end
end Mine
end
section
namespace Mine
theorem fmt_eq {c:String} {d:Nat} {b:List Nat} (hc:Str.ofString c=tx [d]):Str.empty++Str.ofString c++Str.ofString "="++tx b=tx (d::61::b):=by
  rw [hc,show Str.ofString "="=tx [61] by decide,show Str.empty=tx [] from rfl,tx_append,tx_append,tx_append];rfl
theorem fmt_len {c:String} {d:Nat} {b:List Nat} (hc:Str.ofString c=tx [d]) (hb:b.length≤900000):(Str.empty++Str.ofString c++Str.ofString "="++tx b).length≤sizeLine:=by
  rw [fmt_eq hc,tx_len]
  have:sizeLine=16777216:=rfl
  simp only [List.length_cons];omega
theorem fmt_nil {M:Model} {A:Around} {E:Value→Shared→Prop} {s:Shared} {c:String} {d:Nat} {b:List Nat} {Q:Value→Shared→Prop} (hc:Str.ofString c=tx [d]) (hb:b.length≤900000) (h:∀t' k,Q (.str (tx (d::61::b)) t') {s with toks:=k}):
    wpAny M A (joinParts (Str.empty++Str.ofString c++Str.ofString "="++tx b) []) Q E s:=by
  refine joinParts_nil ?_ (fmt_len hc hb)
  rw [fmt_eq hc];exact h _ _
section
variable {prog:Program} {w:World} {A:Around} {E:Value→Shared→Prop} {s:Shared} {Q:Value→Shared→Prop} {h₀:Heap} {L D n t:Nat} {news:List (Addr × Obj)} {a b c:List Nat} {x y z:Str} {t1 t2:Nat}
theorem join_one (N:News h₀ L s.heap news) (hm:(D,lstO #[.str y t1] n)∈news) (hy:y=tx a) (hx:x.length≤16) (hz:a.length≤900000) (h:∀t' k,Q (.str (tx a) t') {s with toks:=k}):wpAny (model prog w) A (call (.builtin "str.join") [.str x t, .ref D]) Q E s:=by
  subst hy
  refine join_list (ys:=[tx a]) ⟨_,(N _ hm).1,rfl,_,rfl⟩ (.cons _ _ .nil) (by simp only [List.map_cons,List.map_nil,List.sum_cons,List.sum_nil,List.length_cons,List.length_nil,tx_len];omega) fun t' k=>?_
  have e1:Txt.join x [tx a]=Str.join x [tx a]:=StrLaws.glued_eq_join _ _
  rw [e1];exact h t' k
theorem join_two (N:News h₀ L s.heap news) (hm:(D,lstO #[.str y t1, .str z t2] n)∈news) (hx:x=tx c) (hy:y=tx a) (hz:z=tx b) (hc:c.length≤16) (hl:a.length+b.length≤900000) (h:∀t' k,Q (.str (tx (a++c++b)) t') {s with toks:=k}):wpAny (model prog w) A (call (.builtin "str.join") [.str x t, .ref D]) Q E s:=by
  subst hx hy hz
  refine join_list (ys:=[tx a,tx b]) ⟨_,(N _ hm).1,rfl,_,rfl⟩ (.cons _ _ (.cons _ _ .nil)) (by simp only [List.map_cons,List.map_nil,List.sum_cons,List.sum_nil,List.length_cons,List.length_nil,tx_len];omega) fun t' k=>?_
  have e1:Txt.join (tx c) [tx a,tx b]=Str.join (tx c) [tx a,tx b]:=StrLaws.glued_eq_join _ _
  have e2:Str.join (tx c) [tx a,tx b]=tx a++tx c++tx b:=rfl
  rw [e1,e2,tx_append,tx_append];exact h t' k
theorem m_noBool:typeLookup (.type "re.Match") "__bool__"=pure none:=by rw [typeLookup_type,builtinLookup_eq_fast];kernel_rfl
theorem m_noLen:typeLookup (.type "re.Match") "__len__"=pure none:=by rw [typeLookup_type,builtinLookup_eq_fast];kernel_rfl
theorem truthy_m {y:Nat} {o:Obj} {Q:Bool→Shared→Prop} (N:News h₀ L s.heap news) (hm:(y,o)∈news) (hc:o.cls= .type "re.Match") (h:Q true s):wpAny (model prog w) A (truthy (.ref y)) Q E s:=by
  have hT:s.TypeIs (.ref y) "re.Match":=⟨_,(N _ hm).1,hc⟩
  unfold truthy
  first
    | refine wpAny_bind (wpAny_callSpecial?_none (name:=Str.ofString "__bool__") hT m_noBool ?_)
    | refine wpAny_bind (wpAny_pure (wpAny_bind (wpAny_callSpecial?_none (name:=Str.ofString "__bool__") hT m_noBool ?_)))
  first
    | refine wpAny_bind (wpAny_specialOf (name:=Str.ofString "__len__") hT m_noLen ?_)
    | refine wpAny_bind (wpAny_pure (wpAny_bind (wpAny_specialOf (name:=Str.ofString "__len__") hT m_noLen ?_)))
  exact wpAny_pure h
end
end Mine
end
section
namespace Mine
open Mine.Re
noncomputable abbrev tk0 (S H a b:Nat):Obj:=tupO [rawInt (S:Int),rawInt (H:Int),rawInt (a:Int),rawInt (b:Int)]
section
variable {w:World} {A:Around} {h₀:Heap} {L:Addr} {m mg mb:Str→Option Value} {news:List (Addr × Obj)} {s:Shared} {Q E:Value→Shared→Prop} {pv:Program} {mean:ExcName→Option Value} {loose:List Str} {l r:List Nat} {tk:Nat}
theorem pm_search {p g:Nat} {C:Array Nat} {pl:Sem Bool} {Q:Value × List Value→Shared→Prop} (e:patIn (K w.params) p C g=true) (F:Fr h₀ L s.heap m) (X:(K w.params).In h₀) (h:Q (.builtin "re.Pattern.search",[.ref p]) s):wpAny (model pw_il0090_01 w) A (getMethod (.ref p) "search" pl) Q E s:=
  ((pat_of e X).keeps F.keep).meth slot_Pattern_search type_Pattern_search h
theorem pm_sub {p g:Nat} {C:Array Nat} {pl:Sem Bool} {Q:Value × List Value→Shared→Prop} (e:patIn (K w.params) p C g=true) (F:Fr h₀ L s.heap m) (X:(K w.params).In h₀) (h:Q (.builtin "re.Pattern.sub",[.ref p]) s):wpAny (model pw_il0090_01 w) A (getMethod (.ref p) "sub" pl) Q E s:=
  ((pat_of e X).keeps F.keep).meth slot_Pattern_sub type_Pattern_sub h
theorem pm_subn {p g:Nat} {C:Array Nat} {pl:Sem Bool} {Q:Value × List Value→Shared→Prop} (e:patIn (K w.params) p C g=true) (F:Fr h₀ L s.heap m) (X:(K w.params).In h₀) (h:Q (.builtin "re.Pattern.subn",[.ref p]) s):wpAny (model pw_il0090_01 w) A (getMethod (.ref p) "subn" pl) Q E s:=
  ((pat_of e X).keeps F.keep).meth slot_Pattern_subn type_Pattern_subn h
theorem k61 (P:Params):patIn (K P) 61 cTok 1=true:=by kernel_rfl
theorem k66 (P:Params):patIn (K P) 66 cQuo 1=true:=by kernel_rfl
theorem k71 (P:Params):patIn (K P) 71 cVal 1=true:=by kernel_rfl
theorem k76 (P:Params):patIn (K P) 76 cEsc 1=true:=by kernel_rfl
theorem k49 (P:Params):patIn (K P) 49 cJunk 0=true:=by kernel_rfl
theorem use_hit {p S H a b k:Nat} {C:Array Nat} (e:patIn (K w.params) p C 1=true) (F:Fr h₀ L s.heap m) (N:News h₀ L s.heap news) (X:(K w.params).In h₀) (hz:l.length≤100000) (hE:Ends (Hit S H #[some a,some b] 1 1) k (Sre.forSearch C l.toArray 1 0 l.toArray.size false)) (hk:k≤1000000) (hab:a≤b)
    (h:∀(y t:Nat) (h':Heap),Fr h₀ L h' m→News h₀ L h' ((y,matO (.str (tx l) tk) (.ref p) 0 l.toArray.size 1 t)::(t,tk0 S H a b)::news)→AllNe y news→AllNe t news→@Ne Nat y t→Q (.ref y) {s with heap:=h'}):
    wpAny (model pw_il0090_01 w) A (call (.builtin "re.Pattern.search") [.ref p, .str (tx l) tk]) Q E s:=by
  have hw:wrongSpan 1 #[some a,some b] 1=false:=by simp [wrongSpan,Nat.not_lt.mpr hab]
  refine search_hit ((pat_of e X).keeps F.keep) (by omega) hE hk (sp:=[rawInt (a:Int),rawInt (b:Int)]) hw (by simp [spansOf]) (by simp) fun y t h' kk e1 e2 n1 n2=>?_
  obtain ⟨a1,a2,a3⟩:=new_news2 F N kk e1 n1
  obtain ⟨_,b2,b3⟩:=new_news2 F N kk e2 n2
  refine h y t h' a1 (fun q hq=>?_) a3 b3 (obj_apart e1 e2 (by intro e;simp at e))
  rcases List.mem_cons.mp hq with rfl|hq
  · exact a2 _ (.head _)
  · exact b2 q hq
theorem use_none {p k g:Nat} {C:Array Nat} (e:patIn (K w.params) p C g=true) (F:Fr h₀ L s.heap m) (X:(K w.params).In h₀) (hz:l.length≤100000) (hE:Ends Miss k (Sre.forSearch C l.toArray g 0 l.toArray.size false)) (hk:k≤1000000) (h:Q .none s):
    wpAny (model pw_il0090_01 w) A (call (.builtin "re.Pattern.search") [.ref p, .str (tx l) tk]) Q E s:=
  search_miss ((pat_of e X).keeps F.keep) (by omega) hE hk h
theorem mat_of {h:Heap} {y t p n S H a b:Nat} (N:News h₀ L h news) (hy:(y,matO (.str (tx l) tk) (.ref p) 0 n 1 t)∈news) (ht:(t,tk0 S H a b)∈news):MatAt h y l tk [S,H,a,b]:=
  ⟨⟨p,1,t,n,0,(N _ hy).1,(N _ ht).1⟩⟩
theorem use_unm {y t p n S H a b:Nat} (F:Fr h₀ L s.heap m) (N:News h₀ L s.heap news) (X:(K w.params).In h₀) (T:Top pv loose mean mg mb h₀) (hh:A.handled=none) (hd:Nat.ble A.depth 600=true) (hu:Nat.ble A.units 6000=true)
    (hy:(y,matO (.str (tx l) tk) (.ref p) 0 n 1 t)∈news) (ht:(t,tk0 S H a b)∈news) (hz:l.length≤100000) (hS:S≤l.length) (hH:H≤l.length) (hr:l.take S++l.drop H=r)
    (ret:∀h' tk' u,Fr h₀ L h' m→News h₀ L h' news→Q (.str (tx r) u) {s with heap:=h',toks:=tk'}):
    wpAny (model pw_il0090_01 w) A (call (.ref 56) [.ref y]) Q E s:=by
  refine weaken (A':=arF 600 6000 A.guards A.frames) hh (Nat.le_of_ble_eq_true hd) rfl rfl (Nat.le_of_ble_eq_true hu) ?_
  refine c_unm w (X.keeps F.keep) (T.keeps F.keep) (mat_of N hy ht) hz hS hH fun v h' tk' k hp=>?_
  obtain ⟨u,rfl⟩:=hp
  rw [hr]
  exact ret h' tk' u (F.keeps k) (N.keepsAll k)
theorem use_grp {y t p n S H a b t0:Nat} (N:News h₀ L s.heap news) (hy:(y,matO (.str (tx l) tk) (.ref p) 0 n 1 t)∈news) (ht:(t,tk0 S H a b)∈news) (hz:l.length≤100000) (hr:(l.drop a).take (b - a)=r)
    (ret:∀u k,Q (.str (tx r) u) {s with toks:=k}):wpAny (model pw_il0090_01 w) A (call (.builtin "re.Match.group") [.ref y, .int 1 t0]) Q E s:=
  group_call (mat_of N hy ht) hz (by rw [hr];exact ret)
theorem pm_group {y t p n S H a b:Nat} {pl:Sem Bool} {Q:Value × List Value→Shared→Prop} (N:News h₀ L s.heap news) (hy:(y,matO (.str (tx l) tk) (.ref p) 0 n 1 t)∈news) (ht:(t,tk0 S H a b)∈news)
    (h:Q (.builtin "re.Match.group",[.ref y]) s):wpAny (model pw_il0090_01 w) A (getMethod (.ref y) "group" pl) Q E s:=
  (mat_of N hy ht).meth slot_Match_group type_Match_group h
theorem use_subS {fn c':Nat} {qual:Str} {pm ctv:Value} {oc:Obj} {ps:Array Value} {line col:Nat} (F:Fr h₀ L s.heap m) (N:News h₀ L s.heap news) (X:(K w.params).In h₀) (T:Top pv loose mean mg mb h₀) (hz:l.length≤20000) (h10:∀c∈l,c≠10)
    (hf:(fn,kla_obj "<lambda>" qual argS bodyS scL [] pm c' ctv)∈news) (hc:(c',oc)∈news) (hT:TabL line col qual ps c' oc) (hne:ps≠#[]) (hh:A.handled=none) (hd:Nat.ble A.depth 580=true) (hu:Nat.ble A.units 5900=true)
    (ret:∀h' tk' t,Fr h₀ L h' m→News h₀ L h' news→Q (.str (tx l) t) {s with heap:=h',toks:=tk'}):
    wpAny (model pw_il0090_01 w) A (call (.builtin "re.Pattern.sub") [.ref 76, .ref fn, .str (tx (Es l)) tk]) Q E s:=by
  have hes:=es_len l
  obtain ⟨ps',W,e1,e2,e3⟩:=subr_e l.length l [] (Es l) (Nat.le_refl _) h10 (by omega) rfl
  have hd':=Nat.le_of_ble_eq_true hd
  have hu':=Nat.le_of_ble_eq_true hu
  have hfn:=(N _ hf).1
  have hcr:=hT.rec_of hne (N _ hc).1
  refine sub_call ((pat_of (k76 _) X).keeps F.keep) ⟨_,hfn,rfl⟩ (by omega) (lamFn_of (A:=A.in1) hh (by show A.depth≤600;omega) (by show A.units+1≤6000;omega) (X.keeps F.keep) (T.keeps F.keep) ?_) W (by omega) (by omega) fun h' tk' t k=>?_
  · intro gd fr s' Q E y S H a b X' T' M hab hbl k ret'
    obtain ⟨c₂,oc₂,vs,t,q1,q2,q3,q4⟩:=hcr
    exact c_lamS w X' T' M (by omega) hab hbl (k _ _ hfn) ⟨c₂,oc₂,vs,t,q1,k _ _ q2,q3,q4⟩ ret'
  · rw [e1];exact ret h' tk' t (F.keeps k) (N.keepsAll k)
theorem quo_rest {l rest:List Nat}:(61::34::(Es l++34::rest)).take 0++(61::34::(Es l++34::rest)).drop (2+(Es l).length+1)=rest:=by
  rw [List.take_zero,List.nil_append,show 61::34::(Es l++34::rest)=(61::34::(Es l++[34]))++rest by simp]
  have:2+(Es l).length+1=(61::34::(Es l++[34])).length:=by simp;omega
  rw [this,List.drop_left]
theorem quo_grp {l rest:List Nat}:((61::34::(Es l++34::rest)).drop 2).take (2+(Es l).length - 2)=Es l:=by
  have:2+(Es l).length - 2=(Es l).length:=by omega
  rw [this]
  simp
end
end Mine
end
section
namespace Mine
open Mine.Re
theorem tokH {c d:Nat} {r:List Nat} (hc:c∈[107,110,109]) (hd:d∈[61,59,44]):Ends (Hit 0 1 #[some 0,some 1] 1 1) 20 (Sre.forSearch cTok (c::d::r).toArray 1 0 (c::d::r).toArray.size false):=
  tok_hit (by simp) hc hd
theorem tokM {c:Nat} {r:List Nat} (hz:(c::r).length≤100000) (hc:c∈[59,44]):Ends Miss 300000 (Sre.forSearch cTok (c::r).toArray 1 0 (c::r).toArray.size false):=
  Ends.mono (tok_miss (by simp) hc) (by simp at hz ⊢;omega)
theorem quoM {r:List Nat} (hz:(59::r).length≤100000) (h3:2≤r.length):Ends Miss 300000 (Sre.forSearch cQuo (59::r).toArray 1 0 (59::r).toArray.size false):=
  Ends.mono (quo_miss (by simp;omega) rfl) (by simp at hz ⊢;omega)
theorem valM {r:List Nat} (hz:(59::r).length≤100000):Ends Miss 300000 (Sre.forSearch cVal (59::r).toArray 1 0 (59::r).toArray.size false):=
  Ends.mono (val_miss (by simp) rfl) (by simp at hz ⊢;omega)
theorem quoH {l rest:List Nat} (hn:∀c∈l,c≠10) (hz:l.length≤20000):Ends (Hit 0 (2+(Es l).length+1) #[some 2,some (2+(Es l).length)] 1 1) 1000000 (Sre.forSearch cQuo (61::34::(Es l++34::rest)).toArray 1 0 (61::34::(Es l++34::rest)).toArray.size false):=
  quo_hit hn hz rfl
theorem drop_one {c:Nat} {r:List Nat}:(c::r).take 0++(c::r).drop 1=r:=rfl
theorem drop_two {c d:Nat} {r:List Nat}:(c::d::r).take 0++(c::d::r).drop 2=r:=rfl
theorem grp_one {c:Nat} {r:List Nat}:((c::r).drop 0).take (1 - 0)=[c]:=rfl
theorem grp_two {c d:Nat} {r:List Nat}:((c::d::r).drop 1).take (2 - 1)=[d]:=rfl
noncomputable def shB:List Stmt:=whBody (stAt (whBody (stAt (fnBody (dK 10)) 2)) 2)
noncomputable def whT:Stmt→Expr
  | .While e _ _ _=>e
  | _=>default
noncomputable def shT:Expr:=whT (stAt (whBody (stAt (fnBody (dK 10)) 2)) 2)
noncomputable abbrev shEnv (L:Nat):Env:=envOf "split_header_words" (fnScope (dK 10)) L 83 (.ref 82)
noncomputable abbrev SM (rs pr:Nat) (txt:Value) (oth:Str→Option Value):Str→Option Value:=fun y=>if y=(.ofString "text":Str) then some txt else if y=(.ofString "pairs":Str) then some (.ref pr) else if y=(.ofString "result":Str) then some (.ref rs) else oth y
theorem fr_sm {g h:Heap} {L rs pr:Nat} {txt:Value} {m:Str→Option Value} (F:Fr g L h m) (h1:m "text"=some txt) (h2:m "pairs"=some (.ref pr)) (h3:m "result"=some (.ref rs)):∃oth,Fr g L h (SM rs pr txt oth):=by
  refine ⟨m,?_⟩
  have:SM rs pr txt m=m:=by
    funext y
    by_cases a:y=(.ofString "text":Str)
    · simp only [SM,if_pos a];rw [a,h1]
    by_cases b:y=(.ofString "pairs":Str)
    · simp only [SM,if_neg a,if_pos b];rw [b,h2]
    by_cases c:y=(.ofString "result":Str)
    · simp only [SM,if_neg a,if_neg b,if_pos c];rw [c,h3]
    simp only [SM,if_neg a,if_neg b,if_neg c]
  rw [this];exact F
end Mine
end
section
namespace Mine
open Mine.Re
theorem newsC {g h:Heap} {L a:Nat} {o:Obj} {news rest:List (Addr × Obj)} (hm:(a,o)∈news) (N:News g L h news) (R:News g L h rest):News g L h ((a,o)::rest):=fun q hq=>by
  rcases List.mem_cons.mp hq with rfl|hq
  · exact N _ hm
  · exact R q hq
theorem lstrip_ns {c:Nat} {r:List Nat} (h:PySem.Unicode.isSpace c=false):PySem.Txt.lstrip (tx (c::r))=tx (c::r):=by
  have e1:PySem.stripLo PySem.Unicode.isSpace true (tx (c::r))=0:=by
    simp [PySem.stripLo,tx,h]
  have e2:PySem.stripSame PySem.Unicode.isSpace true false (tx (c::r))=true:=by
    simp [PySem.stripSame,e1,PySem.stripHi]
  unfold PySem.Txt.lstrip PySem.Txt.stripBy
  rw [e2];rfl
theorem starts_one {c d:Nat} {r:List Nat} (h:(c==d)=false):PySem.Txt.startswith (tx (c::r)) (tx [d])=false:=by
  unfold PySem.Txt.startswith
  have s:Builtin.Str.subAt (tx (c::r)) (tx [d]) 0=false:=by
    rw [StrLaws.subAt_eq]
    show (((tx (c::r)).cps.toList.drop 0).take _==(tx [d]).cps.toList)=false
    show ([c]==[d])=false
    simpa using h
  rw [s,Bool.and_false]
section
variable {w:World} {A:Around} {h₀:Heap} {L:Addr} {m:Str→Option Value} {news:List (Addr × Obj)} {s:Shared} {Q E:Value→Shared→Prop} {r:List Nat} {tk:Nat}
theorem use_junk {tz:Nat} (F:Fr h₀ L s.heap m) (N:News h₀ L s.heap news) (X:(K w.params).In h₀) (hz:(59::32::107::r).length≤100000)
    (h:∀(y u1 u2 k:Nat) (h':Heap),Fr h₀ L h' m→News h₀ L h' ((y,tupO [.str (tx (107::r)) u1, .int 1 u2])::news)→AllNe y news→Q (.ref y) {s with heap:=h',toks:=k}):
    wpAny (model pw_il0090_01 w) A (call (.builtin "re.Pattern.subn") [.ref 49, .str "" tz, .str (tx (59::32::107::r)) tk]) Q E s:=by
  have h3:3≤(59::32::107::r).toArray.size:=by simp
  refine subn_junk ((pat_of (k49 _) X).keeps F.keep) hz (by simp) (junk_hit h3 rfl rfl rfl) (by omega) (junk_miss h3) (by simp at hz ⊢;omega) fun y u1 u2 k h' kk e1 n1=>?_
  obtain ⟨a1,a2,a3⟩:=new_news2 F N kk e1 n1
  exact h y u1 u2 k h' a1 a2 a3
theorem use_lstrip {c:Nat} (hc:PySem.Unicode.isSpace c=false) (hs:(c::r).length≤100000) (h:∀t' k,Q (.str (tx (c::r)) t') {s with toks:=k}):wpAny (model pw_il0090_01 w) A (call (.builtin "str.lstrip") [.str (tx (c::r)) tk]) Q E s:=
  SC.lstrip (fun t' k=>by rw [lstrip_ns hc];exact h t' k) (by rw [tx_len];have:sizeLine=16777216:=rfl;omega)
theorem use_starts {c u:Nat} (hc:(c==44)=false) (h:Q (.bool false) s):wpAny (model pw_il0090_01 w) A (call (.builtin "str.startswith") [.str (tx (c::r)) tk, .str "," u]) Q E s:=by
  rw [show Str.ofString ","=tx [44] by decide]
  exact SC.startswith (by rw [starts_one hc];exact h)
theorem use_lstripD (h:∀t' k,Q (.str ", m=7" t') {s with toks:=k}):wpAny (model pw_il0090_01 w) A (call (.builtin "str.lstrip") [.str (tx [44,32,109,61,55]) tk]) Q E s:=
  SC.lstrip (fun t' k=>by rw [lstrip_ns (by decide),show tx [44,32,109,61,55]=Str.ofString ", m=7" by decide];exact h t' k) (by rw [tx_len];decide)
theorem use_rstrip7 (h:∀t' k,Q (.str (tx [55]) t') {s with toks:=k}):wpAny (model pw_il0090_01 w) A (call (.builtin "str.rstrip") [.str (tx [55]) tk]) Q E s:=
  SC.rstrip (fun t' k=>by rw [show PySem.Txt.rstrip (tx [55])=tx [55] by decide+kernel];exact h t' k) (by rw [tx_len];decide)
end
theorem m7_rest:[32,109,61,55].take 0++[32,109,61,55].drop 2=[61,55]:=rfl
theorem m7_grp:([32,109,61,55].drop 1).take (2 - 1)=[109]:=rfl
theorem v7_rest:[61,55].take 0++[61,55].drop 2=([]:List Nat):=rfl
theorem v7_grp:([61,55].drop 1).take (2 - 1)=[55]:=rfl
end Mine
end
section
namespace Mine
open Mine.Re
theorem ShA (w:World) {gd:Option (List Code)} {outer:List Env} {base g:Heap} {L:Nat} {pv:Program} {mg mb:Str→Option Value} {mean:ExcName→Option Value} {loose:List Str} {s:Shared} {Q:Flow→Shared→Prop} {E:Value→Shared→Prop}
    {rs pr:Nat} {oth:Str→Option Value} {e1 e2 e3 cA tt n1 n2:Nat} {xs ys:Array Value} {eo1 eo2 eo3 oA:Obj} {ps:Array Value} {l rest:List Nat}
    (B:Below (ar 540 5600 gd outer) base outer g) (F:Fr g L s.heap (SM rs pr (.str (tx (107::61::34::(Es l++34::rest))) tt) oth)) (X:(K w.params).In g) (T:Top pv loose mean mg mb g)
    (N:News g L s.heap [(pr,lstO xs n1),(rs,lstO ys n2),(e1,eo1),(e2,eo2),(e3,eo3),(78,tabObj ps),(cA,oA)]) (hT:TabL 30 49 "split_header_words.<locals>.<lambda>" ps cA oA) (hz:l.length≤20000) (hz2:rest.length≤1000) (h10:∀c∈l,c≠10) (hxs:xs.size≤5) (q0:@Ne Nat pr rs) (q1:@Ne Nat pr e1) (q2:@Ne Nat pr e2) (q3:@Ne Nat pr e3) (q4:@Ne Nat pr 78) (q5:@Ne Nat pr cA) (q6:@Ne Nat rs 78) (q7:@Ne Nat rs cA) (q8:@Ne Nat e1 78) (q9:@Ne Nat e2 78) (q10:@Ne Nat e3 78) (q11:@Ne Nat e1 cA) (q12:@Ne Nat e2 cA) (q13:@Ne Nat e3 cA) (q14:@Ne Nat cA 78)
    (hret:∀(h':Heap) (tk':Nat) (D c' k1 k2 t':Nat) (oc':Obj) (ps':Array Value) (oth':Str→Option Value),Fr g L h' (SM rs pr (.str (tx rest) t') oth')→TabL 30 49 "split_header_words.<locals>.<lambda>" ps' c' oc'→News g L h' [(pr,lstO (xs.push (.ref D)) (n1+1)),(D,tupO [.str (tx [107]) k1, .str (tx l) k2]),(rs,lstO ys n2),(e1,eo1),(e2,eo2),(e3,eo3),(78,tabObj ps'),(c',oc'),(cA,oA)]→@Ne Nat D pr→@Ne Nat D rs→@Ne Nat D e1→@Ne Nat D e2→@Ne Nat D e3→@Ne Nat D 78→@Ne Nat D cA→@Ne Nat D c'→@Ne Nat c' pr→@Ne Nat c' rs→@Ne Nat c' e1→@Ne Nat c' e2→@Ne Nat c' e3→@Ne Nat c' 78→Q .next {s with heap:=h',toks:=tk'}):
    wpAny (model pw_il0090_01 w) ((ar 540 5600 gd outer).deeper (shEnv L)) (execs shB (shEnv L)) Q E s:=by
  with_unfolding_all show wpAny _ ((ar 540 5600 gd outer).deeper (envOf _ ⟨_,_,_,_,_⟩ _ _ _)) (execs (_::_::[]) (envOf _ ⟨_,_,_,_,_⟩ _ _ _)) _ _ _
  have eK:rw_il0090_01=rw_il0090_01:=rfl
  revert eK X
  k_fill
  intro X eK
  have hes:=es_len l
  (try (refine let_ctx ?_;intro A9 e9))
  repeat' (first|(k_unfold;(try dsimp only))|((fail_if_success (fail_if_success (with_reducible refine is_call ?_)));first|((with_reducible show wpAny _ _ (call (Value.builtin "re.Match.group") _ _) _ _ _);(k_here;k_dflt (refine' use_grp (by k_asm) (by k_mem) (by k_mem) (by decide) (by first|(with_reducible exact m7_grp)|(with_reducible exact v7_grp)) ?_;k_whole);intro u' k'))|(k_here;(with_reducible show wpAny _ _ (call (Value.ref 56) [Value.ref _]) _ _ _);k_dflt (refine' use_unm (by k_asm) (by k_asm) (by k_asm) (by k_asm) (by exact rfl) (by exact rfl) (by exact rfl) (by k_mem) (by k_mem) (by decide) (by decide) (by decide) (by first|(with_reducible exact m7_rest)|(with_reducible exact v7_rest)) ?_;k_whole);intro h' tk' u' F' N')|(k_here;(with_reducible show wpAny _ _ (call (Value.builtin "re.Pattern.search") [Value.ref 66,Value.str (tx [61,55]) _]) _ _ _);k_dflt (refine' use_none (k66 _) (by k_asm) (by k_asm) (by decide) quo_7 (by decide) ?_;k_whole))|(k_here;(with_reducible show wpAny _ _ (call (Value.builtin "re.Pattern.search") [Value.ref 71,Value.str (tx [61,55]) _]) _ _ _);k_dflt (refine' use_hit (k71 _) (by k_asm) (by k_asm) (by k_asm) (by decide) val_7 (by decide) (by decide) ?_;k_whole);intro y' t' h' F' N' l1 l2 l3)|(k_here;(with_reducible show wpAny _ _ (call (Value.builtin "re.Pattern.search") [Value.ref 61,Value.str (tx [32,109,61,55]) _]) _ _ _);k_dflt (refine' use_hit (k61 _) (by k_asm) (by k_asm) (by k_asm) (by decide) tok_m7 (by decide) (by decide) ?_;k_whole);intro y' t' h' F' N' l1 l2 l3)|(k_here;(with_reducible show wpAny _ _ (call (Value.builtin "str.startswith") [Value.str (tx (59::_)) _,Value.str _ _]) _ _ _);(refine' use_starts (by decide) ?_))|(k_here;(with_reducible show wpAny _ _ (call (Value.builtin "str.rstrip") [Value.str (tx [55]) _]) _ _ _);(refine' use_rstrip7 ?_);intro t' k')|(k_here;(with_reducible show wpAny _ _ (call (Value.builtin "str.lstrip") [Value.str (tx [44,32,109,61,55]) _]) _ _ _);(refine' use_lstripD ?_);intro t' k')|(k_here;(with_reducible show wpAny _ _ (call (Value.builtin "str.lstrip") [Value.str (tx (59::_)) _]) _ _ _);(refine' use_lstrip (by decide) (by simp only [List.length_cons,List.length_append,List.length_nil];omega) ?_);intro t' k')|(k_here;(with_reducible show wpAny _ _ (call (Value.builtin "re.Pattern.subn") [Value.ref 49,Value.str _ _,Value.str (tx (59::32::107::_)) _]) _ _ _);k_dflt (refine' use_junk (by k_asm) (by k_asm) (by k_asm) (by simp only [List.length_cons,List.length_append,List.length_nil];omega) ?_;k_whole);intro y' u1' u2' k' h' F' N' l1)|(k_here;(with_reducible show wpAny _ _ (call (Value.builtin "re.Pattern.sub") [Value.ref 76,Value.ref _,Value.str (tx (Es _)) _]) _ _ _);(rename TabL _ _ _ _ _ _=>hT9);(rename _≠(#[]:Array Value)=>hne9);k_dflt (refine' use_subS (by k_asm) (by k_asm) (by k_asm) (by k_asm) (by assumption) (by assumption) (by k_mem) (by k_mem) hT9 hne9 (by exact rfl) (by exact rfl) (by exact rfl) ?_;k_whole);intro h' tk' t' F' N')|((with_reducible show wpAny _ _ (call (Value.builtin "re.Match.group") _ _) _ _ _);(k_here;k_dflt (refine' use_grp (by k_asm) (by k_mem) (by k_mem) (by simp only [List.length_cons,List.length_append,List.length_nil];omega) (by first|(with_reducible exact grp_one)|(with_reducible exact grp_two)|(with_reducible exact quo_grp)) ?_;k_whole);intro u' k'))|(k_here;(with_reducible show wpAny _ _ (call (Value.ref 56) [Value.ref _]) _ _ _);k_dflt (refine' use_unm (by k_asm) (by k_asm) (by k_asm) (by k_asm) (by exact rfl) (by exact rfl) (by exact rfl) (by k_mem) (by k_mem) (by simp only [List.length_cons,List.length_append,List.length_nil];omega) (by exact Nat.zero_le _) (by simp only [List.length_cons,List.length_append,List.length_nil];omega) (by first|(with_reducible exact drop_one)|(with_reducible exact drop_two)|(with_reducible exact quo_rest)) ?_;k_whole);intro h' tk' u' F' N')|(k_here;(with_reducible show wpAny _ _ (call (Value.builtin "re.Pattern.search") [Value.ref 71,Value.str (tx (59::_)) _]) _ _ _);k_dflt (refine' use_none (k71 _) (by k_asm) (by k_asm) (by simp only [List.length_cons,List.length_append,List.length_nil];omega) (valM (by simp only [List.length_cons,List.length_append,List.length_nil];omega)) (by omega) ?_;k_whole))|(k_here;(with_reducible show wpAny _ _ (call (Value.builtin "re.Pattern.search") [Value.ref 66,Value.str (tx (59::_)) _]) _ _ _);k_dflt (refine' use_none (k66 _) (by k_asm) (by k_asm) (by simp only [List.length_cons,List.length_append,List.length_nil];omega) (quoM (by simp only [List.length_cons,List.length_append,List.length_nil];omega) (by simp only [List.length_cons,List.length_append,List.length_nil];omega)) (by omega) ?_;k_whole))|(k_here;(with_reducible show wpAny _ _ (call (Value.builtin "re.Pattern.search") [Value.ref 66,Value.str (tx (61::34::(Es _++34::_))) _]) _ _ _);k_dflt (refine' use_hit (k66 _) (by k_asm) (by k_asm) (by k_asm) (by simp only [List.length_cons,List.length_append,List.length_nil];omega) (quoH (by assumption) (by assumption)) (by omega) (by omega) ?_;k_whole);intro y' t' h' F' N' l1 l2 l3)|(k_here;(with_reducible show wpAny _ _ (call (Value.builtin "re.Pattern.search") [Value.ref 61,Value.str (tx (_::_)) _]) _ _ _);k_dflt (refine' use_none (k61 _) (by k_asm) (by k_asm) (by simp only [List.length_cons,List.length_append,List.length_nil];omega) (tokM (by simp only [List.length_cons,List.length_append,List.length_nil];omega) (by decide)) (by omega) ?_;k_whole))|(k_here;(with_reducible show wpAny _ _ (call (Value.builtin "re.Pattern.search") [Value.ref 61,Value.str (tx (_::_::_)) _]) _ _ _);k_dflt (refine' use_hit (k61 _) (by k_asm) (by k_asm) (by k_asm) (by simp only [List.length_cons,List.length_append,List.length_nil];omega) (tokH (by decide) (by decide)) (by omega) (by decide) ?_;k_whole);intro y' t' h' F' N' l1 l2 l3))|((with_reducible show wpAny _ _ (eval (PySem.Expr.Lambda ..) _) _ _ _);(k_here;k_dflt (refine' kla_eval (by exact rfl) ?_);(rename TabL _ _ _ _ _ _=>hT9);k_dflt (refine' lam_any (c:=82) (P:=78) (by exact rfl) (by exact rfl) (by k_asm) (by k_asm) (by k_asm) (by exact rfl) (by first|exact hd_99 _ (by k_asm)|exact hd_82 _ (by k_asm)) (by repeat (first|exact EndW.here|apply EndW.cons)) (by repeat (first|exact trivial|refine And.intro (by k_ne) ?_)) (by repeat (first|exact trivial|refine And.intro (by k_ne) ?_)) (by assumption) hT9 (by exact rfl) ?_;k_whole);intro f' c' oc' ctv' ps' h' tk' F' N' hT' hne' l1 l2 l3;clear hT9;(try k_lt l3)))|((fail_if_success (fail_if_success (with_reducible refine is_tr ?_)));first|(k_here;(with_reducible show wpAny _ _ (truthy (Value.ref _)) _ _ _);k_dflt (refine' truthy_m (by k_asm) (by k_mem) (by exact rfl) ?_;k_whole)))|((fail_if_success (fail_if_success (with_reducible refine is_gm ?_)));first|(k_here;(with_reducible show wpAny _ _ (getMethod (Value.ref _) (PySem.Str.ofString "group") _) _ _ _);k_dflt (refine' pm_group (by k_asm) (by k_mem) (by k_mem) ?_;k_whole))|(k_here;(with_reducible show wpAny _ _ (getMethod (Value.ref _) (PySem.Str.ofString "subn") _) _ _ _);k_dflt (refine' pm_subn (k49 _) (by k_asm) (by k_asm) ?_;k_whole))|(k_here;(with_reducible show wpAny _ _ (getMethod (Value.ref _) (PySem.Str.ofString "sub") _) _ _ _);k_dflt (refine' pm_sub (k76 _) (by k_asm) (by k_asm) ?_;k_whole))|(k_here;(with_reducible show wpAny _ _ (getMethod (Value.ref _) (PySem.Str.ofString "search") _) _ _ _);k_dflt (first|(refine' pm_search (k61 _) (by k_asm) (by k_asm) ?_)|(refine' pm_search (k66 _) (by k_asm) (by k_asm) ?_)|(refine' pm_search (k71 _) (by k_asm) (by k_asm) ?_));k_whole))|(k_end;kc_close)|walk1|(dsimp only;walk1)|(leave1;(try dsimp only)))
  show Q _ _
  rename Fr _ _ _ _=>F9
  rename News _ _ _ _=>N9
  rename TabL _ _ _ _ _ _=>hT9
  obtain ⟨oth9,F9⟩:=fr_sm F9 (by rfl) (by rfl) (by rfl)
  refine' hret _ _ _ _ _ _ _ _ _ oth9 F9 hT9 ?N ?f0 ?f1 ?f2 ?f3 ?f4 ?f5 ?f6 ?f7 ?f8 ?f9 ?f10 ?f11 ?f12 ?f13
  case N=>exact newsC (by k_mem) N9 (newsC (by k_mem) N9 (newsC (by k_mem) N9 (newsC (by k_mem) N9 (newsC (by k_mem) N9 (newsC (by k_mem) N9 (newsC (by k_mem) N9 (newsC (by k_mem) N9 (newsC (by k_mem) N9 (News.nil)))))))))
  case f0=>k_ne
  case f1=>k_ne
  case f2=>k_ne
  case f3=>k_ne
  case f4=>k_ne
  case f5=>k_ne
  case f6=>k_ne
  case f7=>k_ne
  case f8=>k_ne
  case f9=>k_ne
  case f10=>k_ne
  case f11=>k_ne
  case f12=>k_ne
  case f13=>k_ne
end Mine
end
section
namespace Mine
open Mine.Re
theorem ShB (w:World) {gd:Option (List Code)} {outer:List Env} {base g:Heap} {L:Nat} {pv:Program} {mg mb:Str→Option Value} {mean:ExcName→Option Value} {loose:List Str} {s:Shared} {Q:Flow→Shared→Prop} {E:Value→Shared→Prop}
    {rs pr:Nat} {oth:Str→Option Value} {e1 e2 e3 e4 tt n1 n2:Nat} {xs ys:Array Value} {eo1 eo2 eo3 eo4:Obj} {r:List Nat}
    (B:Below (ar 540 5600 gd outer) base outer g) (F:Fr g L s.heap (SM rs pr (.str (tx (110::59::32::r)) tt) oth)) (X:(K w.params).In g) (T:Top pv loose mean mg mb g)
    (N:News g L s.heap [(pr,lstO xs n1),(rs,lstO ys n2),(e1,eo1),(e2,eo2),(e3,eo3),(e4,eo4)]) (hz2:r.length≤50000) (hr2:1≤r.length) (hxs:xs.size≤5) (q0:@Ne Nat pr rs) (q1:@Ne Nat pr e1) (q2:@Ne Nat pr e2) (q3:@Ne Nat pr e3) (q4:@Ne Nat pr e4)
    (hret:∀(h':Heap) (tk':Nat) (D k1 t':Nat) (oth':Str→Option Value),Fr g L h' (SM rs pr (.str (tx (59::32::r)) t') oth')→News g L h' [(pr,lstO (xs.push (.ref D)) (n1+1)),(D,tupO [.str (tx [110]) k1, .none]),(rs,lstO ys n2),(e1,eo1),(e2,eo2),(e3,eo3),(e4,eo4)]→@Ne Nat D pr→@Ne Nat D rs→@Ne Nat D e1→@Ne Nat D e2→@Ne Nat D e3→@Ne Nat D e4→Q .next {s with heap:=h',toks:=tk'}):
    wpAny (model pw_il0090_01 w) ((ar 540 5600 gd outer).deeper (shEnv L)) (execs shB (shEnv L)) Q E s:=by
  with_unfolding_all show wpAny _ ((ar 540 5600 gd outer).deeper (envOf _ ⟨_,_,_,_,_⟩ _ _ _)) (execs (_::_::[]) (envOf _ ⟨_,_,_,_,_⟩ _ _ _)) _ _ _
  have eK:rw_il0090_01=rw_il0090_01:=rfl
  revert eK X
  k_fill
  intro X eK
  (try (refine let_ctx ?_;intro A9 e9))
  repeat' (first|(k_unfold;(try dsimp only))|((fail_if_success (fail_if_success (with_reducible refine is_call ?_)));first|((with_reducible show wpAny _ _ (call (Value.builtin "re.Match.group") _ _) _ _ _);(k_here;k_dflt (refine' use_grp (by k_asm) (by k_mem) (by k_mem) (by decide) (by first|(with_reducible exact m7_grp)|(with_reducible exact v7_grp)) ?_;k_whole);intro u' k'))|(k_here;(with_reducible show wpAny _ _ (call (Value.ref 56) [Value.ref _]) _ _ _);k_dflt (refine' use_unm (by k_asm) (by k_asm) (by k_asm) (by k_asm) (by exact rfl) (by exact rfl) (by exact rfl) (by k_mem) (by k_mem) (by decide) (by decide) (by decide) (by first|(with_reducible exact m7_rest)|(with_reducible exact v7_rest)) ?_;k_whole);intro h' tk' u' F' N')|(k_here;(with_reducible show wpAny _ _ (call (Value.builtin "re.Pattern.search") [Value.ref 66,Value.str (tx [61,55]) _]) _ _ _);k_dflt (refine' use_none (k66 _) (by k_asm) (by k_asm) (by decide) quo_7 (by decide) ?_;k_whole))|(k_here;(with_reducible show wpAny _ _ (call (Value.builtin "re.Pattern.search") [Value.ref 71,Value.str (tx [61,55]) _]) _ _ _);k_dflt (refine' use_hit (k71 _) (by k_asm) (by k_asm) (by k_asm) (by decide) val_7 (by decide) (by decide) ?_;k_whole);intro y' t' h' F' N' l1 l2 l3)|(k_here;(with_reducible show wpAny _ _ (call (Value.builtin "re.Pattern.search") [Value.ref 61,Value.str (tx [32,109,61,55]) _]) _ _ _);k_dflt (refine' use_hit (k61 _) (by k_asm) (by k_asm) (by k_asm) (by decide) tok_m7 (by decide) (by decide) ?_;k_whole);intro y' t' h' F' N' l1 l2 l3)|(k_here;(with_reducible show wpAny _ _ (call (Value.builtin "str.startswith") [Value.str (tx (59::_)) _,Value.str _ _]) _ _ _);(refine' use_starts (by decide) ?_))|(k_here;(with_reducible show wpAny _ _ (call (Value.builtin "str.rstrip") [Value.str (tx [55]) _]) _ _ _);(refine' use_rstrip7 ?_);intro t' k')|(k_here;(with_reducible show wpAny _ _ (call (Value.builtin "str.lstrip") [Value.str (tx [44,32,109,61,55]) _]) _ _ _);(refine' use_lstripD ?_);intro t' k')|(k_here;(with_reducible show wpAny _ _ (call (Value.builtin "str.lstrip") [Value.str (tx (59::_)) _]) _ _ _);(refine' use_lstrip (by decide) (by simp only [List.length_cons,List.length_append,List.length_nil];omega) ?_);intro t' k')|(k_here;(with_reducible show wpAny _ _ (call (Value.builtin "re.Pattern.subn") [Value.ref 49,Value.str _ _,Value.str (tx (59::32::107::_)) _]) _ _ _);k_dflt (refine' use_junk (by k_asm) (by k_asm) (by k_asm) (by simp only [List.length_cons,List.length_append,List.length_nil];omega) ?_;k_whole);intro y' u1' u2' k' h' F' N' l1)|(k_here;(with_reducible show wpAny _ _ (call (Value.builtin "re.Pattern.sub") [Value.ref 76,Value.ref _,Value.str (tx (Es _)) _]) _ _ _);(rename TabL _ _ _ _ _ _=>hT9);(rename _≠(#[]:Array Value)=>hne9);k_dflt (refine' use_subS (by k_asm) (by k_asm) (by k_asm) (by k_asm) (by assumption) (by assumption) (by k_mem) (by k_mem) hT9 hne9 (by exact rfl) (by exact rfl) (by exact rfl) ?_;k_whole);intro h' tk' t' F' N')|((with_reducible show wpAny _ _ (call (Value.builtin "re.Match.group") _ _) _ _ _);(k_here;k_dflt (refine' use_grp (by k_asm) (by k_mem) (by k_mem) (by simp only [List.length_cons,List.length_append,List.length_nil];omega) (by first|(with_reducible exact grp_one)|(with_reducible exact grp_two)|(with_reducible exact quo_grp)) ?_;k_whole);intro u' k'))|(k_here;(with_reducible show wpAny _ _ (call (Value.ref 56) [Value.ref _]) _ _ _);k_dflt (refine' use_unm (by k_asm) (by k_asm) (by k_asm) (by k_asm) (by exact rfl) (by exact rfl) (by exact rfl) (by k_mem) (by k_mem) (by simp only [List.length_cons,List.length_append,List.length_nil];omega) (by exact Nat.zero_le _) (by simp only [List.length_cons,List.length_append,List.length_nil];omega) (by first|(with_reducible exact drop_one)|(with_reducible exact drop_two)|(with_reducible exact quo_rest)) ?_;k_whole);intro h' tk' u' F' N')|(k_here;(with_reducible show wpAny _ _ (call (Value.builtin "re.Pattern.search") [Value.ref 71,Value.str (tx (59::_)) _]) _ _ _);k_dflt (refine' use_none (k71 _) (by k_asm) (by k_asm) (by simp only [List.length_cons,List.length_append,List.length_nil];omega) (valM (by simp only [List.length_cons,List.length_append,List.length_nil];omega)) (by omega) ?_;k_whole))|(k_here;(with_reducible show wpAny _ _ (call (Value.builtin "re.Pattern.search") [Value.ref 66,Value.str (tx (59::_)) _]) _ _ _);k_dflt (refine' use_none (k66 _) (by k_asm) (by k_asm) (by simp only [List.length_cons,List.length_append,List.length_nil];omega) (quoM (by simp only [List.length_cons,List.length_append,List.length_nil];omega) (by simp only [List.length_cons,List.length_append,List.length_nil];omega)) (by omega) ?_;k_whole))|(k_here;(with_reducible show wpAny _ _ (call (Value.builtin "re.Pattern.search") [Value.ref 66,Value.str (tx (61::34::(Es _++34::_))) _]) _ _ _);k_dflt (refine' use_hit (k66 _) (by k_asm) (by k_asm) (by k_asm) (by simp only [List.length_cons,List.length_append,List.length_nil];omega) (quoH (by assumption) (by assumption)) (by omega) (by omega) ?_;k_whole);intro y' t' h' F' N' l1 l2 l3)|(k_here;(with_reducible show wpAny _ _ (call (Value.builtin "re.Pattern.search") [Value.ref 61,Value.str (tx (_::_)) _]) _ _ _);k_dflt (refine' use_none (k61 _) (by k_asm) (by k_asm) (by simp only [List.length_cons,List.length_append,List.length_nil];omega) (tokM (by simp only [List.length_cons,List.length_append,List.length_nil];omega) (by decide)) (by omega) ?_;k_whole))|(k_here;(with_reducible show wpAny _ _ (call (Value.builtin "re.Pattern.search") [Value.ref 61,Value.str (tx (_::_::_)) _]) _ _ _);k_dflt (refine' use_hit (k61 _) (by k_asm) (by k_asm) (by k_asm) (by simp only [List.length_cons,List.length_append,List.length_nil];omega) (tokH (by decide) (by decide)) (by omega) (by decide) ?_;k_whole);intro y' t' h' F' N' l1 l2 l3))|((with_reducible show wpAny _ _ (eval (PySem.Expr.Lambda ..) _) _ _ _);(k_here;k_dflt (refine' kla_eval (by exact rfl) ?_);(rename TabL _ _ _ _ _ _=>hT9);k_dflt (refine' lam_any (c:=82) (P:=78) (by exact rfl) (by exact rfl) (by k_asm) (by k_asm) (by k_asm) (by exact rfl) (by first|exact hd_99 _ (by k_asm)|exact hd_82 _ (by k_asm)) (by repeat (first|exact EndW.here|apply EndW.cons)) (by repeat (first|exact trivial|refine And.intro (by k_ne) ?_)) (by repeat (first|exact trivial|refine And.intro (by k_ne) ?_)) (by assumption) hT9 (by exact rfl) ?_;k_whole);intro f' c' oc' ctv' ps' h' tk' F' N' hT' hne' l1 l2 l3;clear hT9;(try k_lt l3)))|((fail_if_success (fail_if_success (with_reducible refine is_tr ?_)));first|(k_here;(with_reducible show wpAny _ _ (truthy (Value.ref _)) _ _ _);k_dflt (refine' truthy_m (by k_asm) (by k_mem) (by exact rfl) ?_;k_whole)))|((fail_if_success (fail_if_success (with_reducible refine is_gm ?_)));first|(k_here;(with_reducible show wpAny _ _ (getMethod (Value.ref _) (PySem.Str.ofString "group") _) _ _ _);k_dflt (refine' pm_group (by k_asm) (by k_mem) (by k_mem) ?_;k_whole))|(k_here;(with_reducible show wpAny _ _ (getMethod (Value.ref _) (PySem.Str.ofString "subn") _) _ _ _);k_dflt (refine' pm_subn (k49 _) (by k_asm) (by k_asm) ?_;k_whole))|(k_here;(with_reducible show wpAny _ _ (getMethod (Value.ref _) (PySem.Str.ofString "sub") _) _ _ _);k_dflt (refine' pm_sub (k76 _) (by k_asm) (by k_asm) ?_;k_whole))|(k_here;(with_reducible show wpAny _ _ (getMethod (Value.ref _) (PySem.Str.ofString "search") _) _ _ _);k_dflt (first|(refine' pm_search (k61 _) (by k_asm) (by k_asm) ?_)|(refine' pm_search (k66 _) (by k_asm) (by k_asm) ?_)|(refine' pm_search (k71 _) (by k_asm) (by k_asm) ?_));k_whole))|(k_end;kc_close)|walk1|(dsimp only;walk1)|(leave1;(try dsimp only)))
  show Q _ _
  rename Fr _ _ _ _=>F9
  rename News _ _ _ _=>N9
  obtain ⟨oth9,F9⟩:=fr_sm F9 (by rfl) (by rfl) (by rfl)
  refine' hret _ _ _ _ _ oth9 F9 ?N ?f0 ?f1 ?f2 ?f3 ?f4 ?f5
  case N=>exact newsC (by k_mem) N9 (newsC (by k_mem) N9 (newsC (by k_mem) N9 (newsC (by k_mem) N9 (newsC (by k_mem) N9 (newsC (by k_mem) N9 (newsC (by k_mem) N9 (News.nil)))))))
  case f0=>k_ne
  case f1=>k_ne
  case f2=>k_ne
  case f3=>k_ne
  case f4=>k_ne
  case f5=>k_ne
end Mine
end
section
namespace Mine
open Mine.Re
theorem ShC (w:World) {gd:Option (List Code)} {outer:List Env} {base g:Heap} {L:Nat} {pv:Program} {mg mb:Str→Option Value} {mean:ExcName→Option Value} {loose:List Str} {s:Shared} {Q:Flow→Shared→Prop} {E:Value→Shared→Prop}
    {rs pr:Nat} {oth:Str→Option Value} {e1 e2 e3 e4 e5 tt n1 n2:Nat} {xs ys:Array Value} {eo1 eo2 eo3 eo4 eo5:Obj} {r:List Nat}
    (B:Below (ar 540 5600 gd outer) base outer g) (F:Fr g L s.heap (SM rs pr (.str (tx (59::32::107::r)) tt) oth)) (X:(K w.params).In g) (T:Top pv loose mean mg mb g)
    (N:News g L s.heap [(pr,lstO xs n1),(rs,lstO ys n2),(e1,eo1),(e2,eo2),(e3,eo3),(e4,eo4),(e5,eo5)]) (hz2:r.length≤50000) 
    (hret:∀(h':Heap) (tk':Nat) (t':Nat) (oth':Str→Option Value),Fr g L h' (SM rs pr (.str (tx (107::r)) t') oth')→News g L h' [(pr,lstO xs n1),(rs,lstO ys n2),(e1,eo1),(e2,eo2),(e3,eo3),(e4,eo4),(e5,eo5)]→Q .next {s with heap:=h',toks:=tk'}):
    wpAny (model pw_il0090_01 w) ((ar 540 5600 gd outer).deeper (shEnv L)) (execs shB (shEnv L)) Q E s:=by
  with_unfolding_all show wpAny _ ((ar 540 5600 gd outer).deeper (envOf _ ⟨_,_,_,_,_⟩ _ _ _)) (execs (_::_::[]) (envOf _ ⟨_,_,_,_,_⟩ _ _ _)) _ _ _
  have eK:rw_il0090_01=rw_il0090_01:=rfl
  revert eK X
  k_fill
  intro X eK
  (try (refine let_ctx ?_;intro A9 e9))
  repeat' (first|(k_unfold;(try dsimp only))|((fail_if_success (fail_if_success (with_reducible refine is_call ?_)));first|((with_reducible show wpAny _ _ (call (Value.builtin "re.Match.group") _ _) _ _ _);(k_here;k_dflt (refine' use_grp (by k_asm) (by k_mem) (by k_mem) (by decide) (by first|(with_reducible exact m7_grp)|(with_reducible exact v7_grp)) ?_;k_whole);intro u' k'))|(k_here;(with_reducible show wpAny _ _ (call (Value.ref 56) [Value.ref _]) _ _ _);k_dflt (refine' use_unm (by k_asm) (by k_asm) (by k_asm) (by k_asm) (by exact rfl) (by exact rfl) (by exact rfl) (by k_mem) (by k_mem) (by decide) (by decide) (by decide) (by first|(with_reducible exact m7_rest)|(with_reducible exact v7_rest)) ?_;k_whole);intro h' tk' u' F' N')|(k_here;(with_reducible show wpAny _ _ (call (Value.builtin "re.Pattern.search") [Value.ref 66,Value.str (tx [61,55]) _]) _ _ _);k_dflt (refine' use_none (k66 _) (by k_asm) (by k_asm) (by decide) quo_7 (by decide) ?_;k_whole))|(k_here;(with_reducible show wpAny _ _ (call (Value.builtin "re.Pattern.search") [Value.ref 71,Value.str (tx [61,55]) _]) _ _ _);k_dflt (refine' use_hit (k71 _) (by k_asm) (by k_asm) (by k_asm) (by decide) val_7 (by decide) (by decide) ?_;k_whole);intro y' t' h' F' N' l1 l2 l3)|(k_here;(with_reducible show wpAny _ _ (call (Value.builtin "re.Pattern.search") [Value.ref 61,Value.str (tx [32,109,61,55]) _]) _ _ _);k_dflt (refine' use_hit (k61 _) (by k_asm) (by k_asm) (by k_asm) (by decide) tok_m7 (by decide) (by decide) ?_;k_whole);intro y' t' h' F' N' l1 l2 l3)|(k_here;(with_reducible show wpAny _ _ (call (Value.builtin "str.startswith") [Value.str (tx (59::_)) _,Value.str _ _]) _ _ _);(refine' use_starts (by decide) ?_))|(k_here;(with_reducible show wpAny _ _ (call (Value.builtin "str.rstrip") [Value.str (tx [55]) _]) _ _ _);(refine' use_rstrip7 ?_);intro t' k')|(k_here;(with_reducible show wpAny _ _ (call (Value.builtin "str.lstrip") [Value.str (tx [44,32,109,61,55]) _]) _ _ _);(refine' use_lstripD ?_);intro t' k')|(k_here;(with_reducible show wpAny _ _ (call (Value.builtin "str.lstrip") [Value.str (tx (59::_)) _]) _ _ _);(refine' use_lstrip (by decide) (by simp only [List.length_cons,List.length_append,List.length_nil];omega) ?_);intro t' k')|(k_here;(with_reducible show wpAny _ _ (call (Value.builtin "re.Pattern.subn") [Value.ref 49,Value.str _ _,Value.str (tx (59::32::107::_)) _]) _ _ _);k_dflt (refine' use_junk (by k_asm) (by k_asm) (by k_asm) (by simp only [List.length_cons,List.length_append,List.length_nil];omega) ?_;k_whole);intro y' u1' u2' k' h' F' N' l1)|(k_here;(with_reducible show wpAny _ _ (call (Value.builtin "re.Pattern.sub") [Value.ref 76,Value.ref _,Value.str (tx (Es _)) _]) _ _ _);(rename TabL _ _ _ _ _ _=>hT9);(rename _≠(#[]:Array Value)=>hne9);k_dflt (refine' use_subS (by k_asm) (by k_asm) (by k_asm) (by k_asm) (by assumption) (by assumption) (by k_mem) (by k_mem) hT9 hne9 (by exact rfl) (by exact rfl) (by exact rfl) ?_;k_whole);intro h' tk' t' F' N')|((with_reducible show wpAny _ _ (call (Value.builtin "re.Match.group") _ _) _ _ _);(k_here;k_dflt (refine' use_grp (by k_asm) (by k_mem) (by k_mem) (by simp only [List.length_cons,List.length_append,List.length_nil];omega) (by first|(with_reducible exact grp_one)|(with_reducible exact grp_two)|(with_reducible exact quo_grp)) ?_;k_whole);intro u' k'))|(k_here;(with_reducible show wpAny _ _ (call (Value.ref 56) [Value.ref _]) _ _ _);k_dflt (refine' use_unm (by k_asm) (by k_asm) (by k_asm) (by k_asm) (by exact rfl) (by exact rfl) (by exact rfl) (by k_mem) (by k_mem) (by simp only [List.length_cons,List.length_append,List.length_nil];omega) (by exact Nat.zero_le _) (by simp only [List.length_cons,List.length_append,List.length_nil];omega) (by first|(with_reducible exact drop_one)|(with_reducible exact drop_two)|(with_reducible exact quo_rest)) ?_;k_whole);intro h' tk' u' F' N')|(k_here;(with_reducible show wpAny _ _ (call (Value.builtin "re.Pattern.search") [Value.ref 71,Value.str (tx (59::_)) _]) _ _ _);k_dflt (refine' use_none (k71 _) (by k_asm) (by k_asm) (by simp only [List.length_cons,List.length_append,List.length_nil];omega) (valM (by simp only [List.length_cons,List.length_append,List.length_nil];omega)) (by omega) ?_;k_whole))|(k_here;(with_reducible show wpAny _ _ (call (Value.builtin "re.Pattern.search") [Value.ref 66,Value.str (tx (59::_)) _]) _ _ _);k_dflt (refine' use_none (k66 _) (by k_asm) (by k_asm) (by simp only [List.length_cons,List.length_append,List.length_nil];omega) (quoM (by simp only [List.length_cons,List.length_append,List.length_nil];omega) (by simp only [List.length_cons,List.length_append,List.length_nil];omega)) (by omega) ?_;k_whole))|(k_here;(with_reducible show wpAny _ _ (call (Value.builtin "re.Pattern.search") [Value.ref 66,Value.str (tx (61::34::(Es _++34::_))) _]) _ _ _);k_dflt (refine' use_hit (k66 _) (by k_asm) (by k_asm) (by k_asm) (by simp only [List.length_cons,List.length_append,List.length_nil];omega) (quoH (by assumption) (by assumption)) (by omega) (by omega) ?_;k_whole);intro y' t' h' F' N' l1 l2 l3)|(k_here;(with_reducible show wpAny _ _ (call (Value.builtin "re.Pattern.search") [Value.ref 61,Value.str (tx (_::_)) _]) _ _ _);k_dflt (refine' use_none (k61 _) (by k_asm) (by k_asm) (by simp only [List.length_cons,List.length_append,List.length_nil];omega) (tokM (by simp only [List.length_cons,List.length_append,List.length_nil];omega) (by decide)) (by omega) ?_;k_whole))|(k_here;(with_reducible show wpAny _ _ (call (Value.builtin "re.Pattern.search") [Value.ref 61,Value.str (tx (_::_::_)) _]) _ _ _);k_dflt (refine' use_hit (k61 _) (by k_asm) (by k_asm) (by k_asm) (by simp only [List.length_cons,List.length_append,List.length_nil];omega) (tokH (by decide) (by decide)) (by omega) (by decide) ?_;k_whole);intro y' t' h' F' N' l1 l2 l3))|((with_reducible show wpAny _ _ (eval (PySem.Expr.Lambda ..) _) _ _ _);(k_here;k_dflt (refine' kla_eval (by exact rfl) ?_);(rename TabL _ _ _ _ _ _=>hT9);k_dflt (refine' lam_any (c:=82) (P:=78) (by exact rfl) (by exact rfl) (by k_asm) (by k_asm) (by k_asm) (by exact rfl) (by first|exact hd_99 _ (by k_asm)|exact hd_82 _ (by k_asm)) (by repeat (first|exact EndW.here|apply EndW.cons)) (by repeat (first|exact trivial|refine And.intro (by k_ne) ?_)) (by repeat (first|exact trivial|refine And.intro (by k_ne) ?_)) (by assumption) hT9 (by exact rfl) ?_;k_whole);intro f' c' oc' ctv' ps' h' tk' F' N' hT' hne' l1 l2 l3;clear hT9;(try k_lt l3)))|((fail_if_success (fail_if_success (with_reducible refine is_tr ?_)));first|(k_here;(with_reducible show wpAny _ _ (truthy (Value.ref _)) _ _ _);k_dflt (refine' truthy_m (by k_asm) (by k_mem) (by exact rfl) ?_;k_whole)))|((fail_if_success (fail_if_success (with_reducible refine is_gm ?_)));first|(k_here;(with_reducible show wpAny _ _ (getMethod (Value.ref _) (PySem.Str.ofString "group") _) _ _ _);k_dflt (refine' pm_group (by k_asm) (by k_mem) (by k_mem) ?_;k_whole))|(k_here;(with_reducible show wpAny _ _ (getMethod (Value.ref _) (PySem.Str.ofString "subn") _) _ _ _);k_dflt (refine' pm_subn (k49 _) (by k_asm) (by k_asm) ?_;k_whole))|(k_here;(with_reducible show wpAny _ _ (getMethod (Value.ref _) (PySem.Str.ofString "sub") _) _ _ _);k_dflt (refine' pm_sub (k76 _) (by k_asm) (by k_asm) ?_;k_whole))|(k_here;(with_reducible show wpAny _ _ (getMethod (Value.ref _) (PySem.Str.ofString "search") _) _ _ _);k_dflt (first|(refine' pm_search (k61 _) (by k_asm) (by k_asm) ?_)|(refine' pm_search (k66 _) (by k_asm) (by k_asm) ?_)|(refine' pm_search (k71 _) (by k_asm) (by k_asm) ?_));k_whole))|(k_end;kc_close)|walk1|(dsimp only;walk1)|(leave1;(try dsimp only)))
  show Q _ _
  rename Fr _ _ _ _=>F9
  rename News _ _ _ _=>N9
  obtain ⟨oth9,F9⟩:=fr_sm F9 (by rfl) (by rfl) (by rfl)
  refine' hret _ _ _ oth9 F9 ?N 
  case N=>exact newsC (by k_mem) N9 (newsC (by k_mem) N9 (newsC (by k_mem) N9 (newsC (by k_mem) N9 (newsC (by k_mem) N9 (newsC (by k_mem) N9 (newsC (by k_mem) N9 (News.nil)))))))
end Mine
end
section
namespace Mine
open Mine.Re
theorem ShD (w:World) {gd:Option (List Code)} {outer:List Env} {base g:Heap} {L:Nat} {pv:Program} {mg mb:Str→Option Value} {mean:ExcName→Option Value} {loose:List Str} {s:Shared} {Q:Flow→Shared→Prop} {E:Value→Shared→Prop}
    {rs pr:Nat} {oth:Str→Option Value} {e1 e2 e3 e4 e5 e6 tt n1 n2 x0:Nat} {eo1 eo2 eo3 eo4 eo5 eo6:Obj}
    (B:Below (ar 540 5600 gd outer) base outer g) (F:Fr g L s.heap (SM rs pr (.str (tx [44,32,109,61,55]) tt) oth)) (X:(K w.params).In g) (T:Top pv loose mean mg mb g)
    (N:News g L s.heap [(pr,lstO #[.ref x0] n1),(rs,lstO #[] n2),(e1,eo1),(e2,eo2),(e3,eo3),(e4,eo4),(e5,eo5),(e6,eo6)]) (q0:@Ne Nat pr rs) (q1:@Ne Nat rs e1) (q2:@Ne Nat rs e2) (q3:@Ne Nat rs e3) (q4:@Ne Nat rs e4) (q5:@Ne Nat rs e5) (q6:@Ne Nat rs e6)
    (hret:∀(h':Heap) (tk':Nat) (p2 n3 t':Nat) (oth':Str→Option Value),Fr g L h' (SM rs p2 (.str (tx [32,109,61,55]) t') oth')→News g L h' [(p2,lstO #[] n3),(pr,lstO #[.ref x0] n1),(rs,lstO (#[].push (.ref pr)) (n2+1)),(e1,eo1),(e2,eo2),(e3,eo3),(e4,eo4),(e5,eo5),(e6,eo6)]→@Ne Nat p2 pr→@Ne Nat p2 rs→@Ne Nat p2 e1→@Ne Nat p2 e2→@Ne Nat p2 e3→@Ne Nat p2 e4→@Ne Nat p2 e5→@Ne Nat p2 e6→Q .next {s with heap:=h',toks:=tk'}):
    wpAny (model pw_il0090_01 w) ((ar 540 5600 gd outer).deeper (shEnv L)) (execs shB (shEnv L)) Q E s:=by
  with_unfolding_all show wpAny _ ((ar 540 5600 gd outer).deeper (envOf _ ⟨_,_,_,_,_⟩ _ _ _)) (execs (_::_::[]) (envOf _ ⟨_,_,_,_,_⟩ _ _ _)) _ _ _
  have eK:rw_il0090_01=rw_il0090_01:=rfl
  revert eK X
  k_fill
  intro X eK
  (try (refine let_ctx ?_;intro A9 e9))
  repeat' (first|(k_unfold;(try dsimp only))|((fail_if_success (fail_if_success (with_reducible refine is_call ?_)));first|((with_reducible show wpAny _ _ (call (Value.builtin "re.Match.group") _ _) _ _ _);(k_here;k_dflt (refine' use_grp (by k_asm) (by k_mem) (by k_mem) (by decide) (by first|(with_reducible exact m7_grp)|(with_reducible exact v7_grp)) ?_;k_whole);intro u' k'))|(k_here;(with_reducible show wpAny _ _ (call (Value.ref 56) [Value.ref _]) _ _ _);k_dflt (refine' use_unm (by k_asm) (by k_asm) (by k_asm) (by k_asm) (by exact rfl) (by exact rfl) (by exact rfl) (by k_mem) (by k_mem) (by decide) (by decide) (by decide) (by first|(with_reducible exact m7_rest)|(with_reducible exact v7_rest)) ?_;k_whole);intro h' tk' u' F' N')|(k_here;(with_reducible show wpAny _ _ (call (Value.builtin "re.Pattern.search") [Value.ref 66,Value.str (tx [61,55]) _]) _ _ _);k_dflt (refine' use_none (k66 _) (by k_asm) (by k_asm) (by decide) quo_7 (by decide) ?_;k_whole))|(k_here;(with_reducible show wpAny _ _ (call (Value.builtin "re.Pattern.search") [Value.ref 71,Value.str (tx [61,55]) _]) _ _ _);k_dflt (refine' use_hit (k71 _) (by k_asm) (by k_asm) (by k_asm) (by decide) val_7 (by decide) (by decide) ?_;k_whole);intro y' t' h' F' N' l1 l2 l3)|(k_here;(with_reducible show wpAny _ _ (call (Value.builtin "re.Pattern.search") [Value.ref 61,Value.str (tx [32,109,61,55]) _]) _ _ _);k_dflt (refine' use_hit (k61 _) (by k_asm) (by k_asm) (by k_asm) (by decide) tok_m7 (by decide) (by decide) ?_;k_whole);intro y' t' h' F' N' l1 l2 l3)|(k_here;(with_reducible show wpAny _ _ (call (Value.builtin "str.startswith") [Value.str (tx (59::_)) _,Value.str _ _]) _ _ _);(refine' use_starts (by decide) ?_))|(k_here;(with_reducible show wpAny _ _ (call (Value.builtin "str.rstrip") [Value.str (tx [55]) _]) _ _ _);(refine' use_rstrip7 ?_);intro t' k')|(k_here;(with_reducible show wpAny _ _ (call (Value.builtin "str.lstrip") [Value.str (tx [44,32,109,61,55]) _]) _ _ _);(refine' use_lstripD ?_);intro t' k')|(k_here;(with_reducible show wpAny _ _ (call (Value.builtin "str.lstrip") [Value.str (tx (59::_)) _]) _ _ _);(refine' use_lstrip (by decide) (by simp only [List.length_cons,List.length_append,List.length_nil];omega) ?_);intro t' k')|(k_here;(with_reducible show wpAny _ _ (call (Value.builtin "re.Pattern.subn") [Value.ref 49,Value.str _ _,Value.str (tx (59::32::107::_)) _]) _ _ _);k_dflt (refine' use_junk (by k_asm) (by k_asm) (by k_asm) (by simp only [List.length_cons,List.length_append,List.length_nil];omega) ?_;k_whole);intro y' u1' u2' k' h' F' N' l1)|(k_here;(with_reducible show wpAny _ _ (call (Value.builtin "re.Pattern.sub") [Value.ref 76,Value.ref _,Value.str (tx (Es _)) _]) _ _ _);(rename TabL _ _ _ _ _ _=>hT9);(rename _≠(#[]:Array Value)=>hne9);k_dflt (refine' use_subS (by k_asm) (by k_asm) (by k_asm) (by k_asm) (by assumption) (by assumption) (by k_mem) (by k_mem) hT9 hne9 (by exact rfl) (by exact rfl) (by exact rfl) ?_;k_whole);intro h' tk' t' F' N')|((with_reducible show wpAny _ _ (call (Value.builtin "re.Match.group") _ _) _ _ _);(k_here;k_dflt (refine' use_grp (by k_asm) (by k_mem) (by k_mem) (by simp only [List.length_cons,List.length_append,List.length_nil];omega) (by first|(with_reducible exact grp_one)|(with_reducible exact grp_two)|(with_reducible exact quo_grp)) ?_;k_whole);intro u' k'))|(k_here;(with_reducible show wpAny _ _ (call (Value.ref 56) [Value.ref _]) _ _ _);k_dflt (refine' use_unm (by k_asm) (by k_asm) (by k_asm) (by k_asm) (by exact rfl) (by exact rfl) (by exact rfl) (by k_mem) (by k_mem) (by simp only [List.length_cons,List.length_append,List.length_nil];omega) (by exact Nat.zero_le _) (by simp only [List.length_cons,List.length_append,List.length_nil];omega) (by first|(with_reducible exact drop_one)|(with_reducible exact drop_two)|(with_reducible exact quo_rest)) ?_;k_whole);intro h' tk' u' F' N')|(k_here;(with_reducible show wpAny _ _ (call (Value.builtin "re.Pattern.search") [Value.ref 71,Value.str (tx (59::_)) _]) _ _ _);k_dflt (refine' use_none (k71 _) (by k_asm) (by k_asm) (by simp only [List.length_cons,List.length_append,List.length_nil];omega) (valM (by simp only [List.length_cons,List.length_append,List.length_nil];omega)) (by omega) ?_;k_whole))|(k_here;(with_reducible show wpAny _ _ (call (Value.builtin "re.Pattern.search") [Value.ref 66,Value.str (tx (59::_)) _]) _ _ _);k_dflt (refine' use_none (k66 _) (by k_asm) (by k_asm) (by simp only [List.length_cons,List.length_append,List.length_nil];omega) (quoM (by simp only [List.length_cons,List.length_append,List.length_nil];omega) (by simp only [List.length_cons,List.length_append,List.length_nil];omega)) (by omega) ?_;k_whole))|(k_here;(with_reducible show wpAny _ _ (call (Value.builtin "re.Pattern.search") [Value.ref 66,Value.str (tx (61::34::(Es _++34::_))) _]) _ _ _);k_dflt (refine' use_hit (k66 _) (by k_asm) (by k_asm) (by k_asm) (by simp only [List.length_cons,List.length_append,List.length_nil];omega) (quoH (by assumption) (by assumption)) (by omega) (by omega) ?_;k_whole);intro y' t' h' F' N' l1 l2 l3)|(k_here;(with_reducible show wpAny _ _ (call (Value.builtin "re.Pattern.search") [Value.ref 61,Value.str (tx (_::_)) _]) _ _ _);k_dflt (refine' use_none (k61 _) (by k_asm) (by k_asm) (by simp only [List.length_cons,List.length_append,List.length_nil];omega) (tokM (by simp only [List.length_cons,List.length_append,List.length_nil];omega) (by decide)) (by omega) ?_;k_whole))|(k_here;(with_reducible show wpAny _ _ (call (Value.builtin "re.Pattern.search") [Value.ref 61,Value.str (tx (_::_::_)) _]) _ _ _);k_dflt (refine' use_hit (k61 _) (by k_asm) (by k_asm) (by k_asm) (by simp only [List.length_cons,List.length_append,List.length_nil];omega) (tokH (by decide) (by decide)) (by omega) (by decide) ?_;k_whole);intro y' t' h' F' N' l1 l2 l3))|((with_reducible show wpAny _ _ (eval (PySem.Expr.Lambda ..) _) _ _ _);(k_here;k_dflt (refine' kla_eval (by exact rfl) ?_);(rename TabL _ _ _ _ _ _=>hT9);k_dflt (refine' lam_any (c:=82) (P:=78) (by exact rfl) (by exact rfl) (by k_asm) (by k_asm) (by k_asm) (by exact rfl) (by first|exact hd_99 _ (by k_asm)|exact hd_82 _ (by k_asm)) (by repeat (first|exact EndW.here|apply EndW.cons)) (by repeat (first|exact trivial|refine And.intro (by k_ne) ?_)) (by repeat (first|exact trivial|refine And.intro (by k_ne) ?_)) (by assumption) hT9 (by exact rfl) ?_;k_whole);intro f' c' oc' ctv' ps' h' tk' F' N' hT' hne' l1 l2 l3;clear hT9;(try k_lt l3)))|((fail_if_success (fail_if_success (with_reducible refine is_tr ?_)));first|(k_here;(with_reducible show wpAny _ _ (truthy (Value.ref _)) _ _ _);k_dflt (refine' truthy_m (by k_asm) (by k_mem) (by exact rfl) ?_;k_whole)))|((fail_if_success (fail_if_success (with_reducible refine is_gm ?_)));first|(k_here;(with_reducible show wpAny _ _ (getMethod (Value.ref _) (PySem.Str.ofString "group") _) _ _ _);k_dflt (refine' pm_group (by k_asm) (by k_mem) (by k_mem) ?_;k_whole))|(k_here;(with_reducible show wpAny _ _ (getMethod (Value.ref _) (PySem.Str.ofString "subn") _) _ _ _);k_dflt (refine' pm_subn (k49 _) (by k_asm) (by k_asm) ?_;k_whole))|(k_here;(with_reducible show wpAny _ _ (getMethod (Value.ref _) (PySem.Str.ofString "sub") _) _ _ _);k_dflt (refine' pm_sub (k76 _) (by k_asm) (by k_asm) ?_;k_whole))|(k_here;(with_reducible show wpAny _ _ (getMethod (Value.ref _) (PySem.Str.ofString "search") _) _ _ _);k_dflt (first|(refine' pm_search (k61 _) (by k_asm) (by k_asm) ?_)|(refine' pm_search (k66 _) (by k_asm) (by k_asm) ?_)|(refine' pm_search (k71 _) (by k_asm) (by k_asm) ?_));k_whole))|(k_end;kc_close)|walk1|(dsimp only;walk1)|(leave1;(try dsimp only)))
  show Q _ _
  rename Fr _ _ _ _=>F9
  rename News _ _ _ _=>N9
  obtain ⟨oth9,F9⟩:=fr_sm F9 (by rfl) (by rfl) (by rfl)
  refine' hret _ _ _ _ _ oth9 F9 ?N ?f0 ?f1 ?f2 ?f3 ?f4 ?f5 ?f6 ?f7
  case N=>exact newsC (by k_mem) N9 (newsC (by k_mem) N9 (newsC (by k_mem) N9 (newsC (by k_mem) N9 (newsC (by k_mem) N9 (newsC (by k_mem) N9 (newsC (by k_mem) N9 (newsC (by k_mem) N9 (newsC (by k_mem) N9 (News.nil)))))))))
  case f0=>k_ne
  case f1=>k_ne
  case f2=>k_ne
  case f3=>k_ne
  case f4=>k_ne
  case f5=>k_ne
  case f6=>k_ne
  case f7=>k_ne
end Mine
end
section
namespace Mine
open Mine.Re
theorem ShE (w:World) {gd:Option (List Code)} {outer:List Env} {base g:Heap} {L:Nat} {pv:Program} {mg mb:Str→Option Value} {mean:ExcName→Option Value} {loose:List Str} {s:Shared} {Q:Flow→Shared→Prop} {E:Value→Shared→Prop}
    {rs pr:Nat} {oth:Str→Option Value} {e1 e2 e3 e4 e5 e6 e7 tt n1 n2:Nat} {xs ys:Array Value} {eo1 eo2 eo3 eo4 eo5 eo6 eo7:Obj}
    (B:Below (ar 540 5600 gd outer) base outer g) (F:Fr g L s.heap (SM rs pr (.str (tx [32,109,61,55]) tt) oth)) (X:(K w.params).In g) (T:Top pv loose mean mg mb g)
    (N:News g L s.heap [(pr,lstO xs n1),(rs,lstO ys n2),(e1,eo1),(e2,eo2),(e3,eo3),(e4,eo4),(e5,eo5),(e6,eo6),(e7,eo7)]) (hxs:xs.size≤5) (q0:@Ne Nat pr rs) (q1:@Ne Nat pr e1) (q2:@Ne Nat pr e2) (q3:@Ne Nat pr e3) (q4:@Ne Nat pr e4) (q5:@Ne Nat pr e5) (q6:@Ne Nat pr e6) (q7:@Ne Nat pr e7)
    (hret:∀(h':Heap) (tk':Nat) (D k1 k2 t':Nat) (oth':Str→Option Value),Fr g L h' (SM rs pr (.str (tx []) t') oth')→News g L h' [(pr,lstO (xs.push (.ref D)) (n1+1)),(D,tupO [.str (tx [109]) k1, .str (tx [55]) k2]),(rs,lstO ys n2),(e1,eo1),(e2,eo2),(e3,eo3),(e4,eo4),(e5,eo5),(e6,eo6),(e7,eo7)]→@Ne Nat D pr→@Ne Nat D rs→@Ne Nat D e1→@Ne Nat D e2→@Ne Nat D e3→@Ne Nat D e4→@Ne Nat D e5→@Ne Nat D e6→@Ne Nat D e7→Q .next {s with heap:=h',toks:=tk'}):
    wpAny (model pw_il0090_01 w) ((ar 540 5600 gd outer).deeper (shEnv L)) (execs shB (shEnv L)) Q E s:=by
  with_unfolding_all show wpAny _ ((ar 540 5600 gd outer).deeper (envOf _ ⟨_,_,_,_,_⟩ _ _ _)) (execs (_::_::[]) (envOf _ ⟨_,_,_,_,_⟩ _ _ _)) _ _ _
  have eK:rw_il0090_01=rw_il0090_01:=rfl
  revert eK X
  k_fill
  intro X eK
  (try (refine let_ctx ?_;intro A9 e9))
  repeat' (first|(k_unfold;(try dsimp only))|((fail_if_success (fail_if_success (with_reducible refine is_call ?_)));first|((with_reducible show wpAny _ _ (call (Value.builtin "re.Match.group") _ _) _ _ _);(k_here;k_dflt (refine' use_grp (by k_asm) (by k_mem) (by k_mem) (by decide) (by first|(with_reducible exact m7_grp)|(with_reducible exact v7_grp)) ?_;k_whole);intro u' k'))|(k_here;(with_reducible show wpAny _ _ (call (Value.ref 56) [Value.ref _]) _ _ _);k_dflt (refine' use_unm (by k_asm) (by k_asm) (by k_asm) (by k_asm) (by exact rfl) (by exact rfl) (by exact rfl) (by k_mem) (by k_mem) (by decide) (by decide) (by decide) (by first|(with_reducible exact m7_rest)|(with_reducible exact v7_rest)) ?_;k_whole);intro h' tk' u' F' N')|(k_here;(with_reducible show wpAny _ _ (call (Value.builtin "re.Pattern.search") [Value.ref 66,Value.str (tx [61,55]) _]) _ _ _);k_dflt (refine' use_none (k66 _) (by k_asm) (by k_asm) (by decide) quo_7 (by decide) ?_;k_whole))|(k_here;(with_reducible show wpAny _ _ (call (Value.builtin "re.Pattern.search") [Value.ref 71,Value.str (tx [61,55]) _]) _ _ _);k_dflt (refine' use_hit (k71 _) (by k_asm) (by k_asm) (by k_asm) (by decide) val_7 (by decide) (by decide) ?_;k_whole);intro y' t' h' F' N' l1 l2 l3)|(k_here;(with_reducible show wpAny _ _ (call (Value.builtin "re.Pattern.search") [Value.ref 61,Value.str (tx [32,109,61,55]) _]) _ _ _);k_dflt (refine' use_hit (k61 _) (by k_asm) (by k_asm) (by k_asm) (by decide) tok_m7 (by decide) (by decide) ?_;k_whole);intro y' t' h' F' N' l1 l2 l3)|(k_here;(with_reducible show wpAny _ _ (call (Value.builtin "str.startswith") [Value.str (tx (59::_)) _,Value.str _ _]) _ _ _);(refine' use_starts (by decide) ?_))|(k_here;(with_reducible show wpAny _ _ (call (Value.builtin "str.rstrip") [Value.str (tx [55]) _]) _ _ _);(refine' use_rstrip7 ?_);intro t' k')|(k_here;(with_reducible show wpAny _ _ (call (Value.builtin "str.lstrip") [Value.str (tx [44,32,109,61,55]) _]) _ _ _);(refine' use_lstripD ?_);intro t' k')|(k_here;(with_reducible show wpAny _ _ (call (Value.builtin "str.lstrip") [Value.str (tx (59::_)) _]) _ _ _);(refine' use_lstrip (by decide) (by simp only [List.length_cons,List.length_append,List.length_nil];omega) ?_);intro t' k')|(k_here;(with_reducible show wpAny _ _ (call (Value.builtin "re.Pattern.subn") [Value.ref 49,Value.str _ _,Value.str (tx (59::32::107::_)) _]) _ _ _);k_dflt (refine' use_junk (by k_asm) (by k_asm) (by k_asm) (by simp only [List.length_cons,List.length_append,List.length_nil];omega) ?_;k_whole);intro y' u1' u2' k' h' F' N' l1)|(k_here;(with_reducible show wpAny _ _ (call (Value.builtin "re.Pattern.sub") [Value.ref 76,Value.ref _,Value.str (tx (Es _)) _]) _ _ _);(rename TabL _ _ _ _ _ _=>hT9);(rename _≠(#[]:Array Value)=>hne9);k_dflt (refine' use_subS (by k_asm) (by k_asm) (by k_asm) (by k_asm) (by assumption) (by assumption) (by k_mem) (by k_mem) hT9 hne9 (by exact rfl) (by exact rfl) (by exact rfl) ?_;k_whole);intro h' tk' t' F' N')|((with_reducible show wpAny _ _ (call (Value.builtin "re.Match.group") _ _) _ _ _);(k_here;k_dflt (refine' use_grp (by k_asm) (by k_mem) (by k_mem) (by simp only [List.length_cons,List.length_append,List.length_nil];omega) (by first|(with_reducible exact grp_one)|(with_reducible exact grp_two)|(with_reducible exact quo_grp)) ?_;k_whole);intro u' k'))|(k_here;(with_reducible show wpAny _ _ (call (Value.ref 56) [Value.ref _]) _ _ _);k_dflt (refine' use_unm (by k_asm) (by k_asm) (by k_asm) (by k_asm) (by exact rfl) (by exact rfl) (by exact rfl) (by k_mem) (by k_mem) (by simp only [List.length_cons,List.length_append,List.length_nil];omega) (by exact Nat.zero_le _) (by simp only [List.length_cons,List.length_append,List.length_nil];omega) (by first|(with_reducible exact drop_one)|(with_reducible exact drop_two)|(with_reducible exact quo_rest)) ?_;k_whole);intro h' tk' u' F' N')|(k_here;(with_reducible show wpAny _ _ (call (Value.builtin "re.Pattern.search") [Value.ref 71,Value.str (tx (59::_)) _]) _ _ _);k_dflt (refine' use_none (k71 _) (by k_asm) (by k_asm) (by simp only [List.length_cons,List.length_append,List.length_nil];omega) (valM (by simp only [List.length_cons,List.length_append,List.length_nil];omega)) (by omega) ?_;k_whole))|(k_here;(with_reducible show wpAny _ _ (call (Value.builtin "re.Pattern.search") [Value.ref 66,Value.str (tx (59::_)) _]) _ _ _);k_dflt (refine' use_none (k66 _) (by k_asm) (by k_asm) (by simp only [List.length_cons,List.length_append,List.length_nil];omega) (quoM (by simp only [List.length_cons,List.length_append,List.length_nil];omega) (by simp only [List.length_cons,List.length_append,List.length_nil];omega)) (by omega) ?_;k_whole))|(k_here;(with_reducible show wpAny _ _ (call (Value.builtin "re.Pattern.search") [Value.ref 66,Value.str (tx (61::34::(Es _++34::_))) _]) _ _ _);k_dflt (refine' use_hit (k66 _) (by k_asm) (by k_asm) (by k_asm) (by simp only [List.length_cons,List.length_append,List.length_nil];omega) (quoH (by assumption) (by assumption)) (by omega) (by omega) ?_;k_whole);intro y' t' h' F' N' l1 l2 l3)|(k_here;(with_reducible show wpAny _ _ (call (Value.builtin "re.Pattern.search") [Value.ref 61,Value.str (tx (_::_)) _]) _ _ _);k_dflt (refine' use_none (k61 _) (by k_asm) (by k_asm) (by simp only [List.length_cons,List.length_append,List.length_nil];omega) (tokM (by simp only [List.length_cons,List.length_append,List.length_nil];omega) (by decide)) (by omega) ?_;k_whole))|(k_here;(with_reducible show wpAny _ _ (call (Value.builtin "re.Pattern.search") [Value.ref 61,Value.str (tx (_::_::_)) _]) _ _ _);k_dflt (refine' use_hit (k61 _) (by k_asm) (by k_asm) (by k_asm) (by simp only [List.length_cons,List.length_append,List.length_nil];omega) (tokH (by decide) (by decide)) (by omega) (by decide) ?_;k_whole);intro y' t' h' F' N' l1 l2 l3))|((with_reducible show wpAny _ _ (eval (PySem.Expr.Lambda ..) _) _ _ _);(k_here;k_dflt (refine' kla_eval (by exact rfl) ?_);(rename TabL _ _ _ _ _ _=>hT9);k_dflt (refine' lam_any (c:=82) (P:=78) (by exact rfl) (by exact rfl) (by k_asm) (by k_asm) (by k_asm) (by exact rfl) (by first|exact hd_99 _ (by k_asm)|exact hd_82 _ (by k_asm)) (by repeat (first|exact EndW.here|apply EndW.cons)) (by repeat (first|exact trivial|refine And.intro (by k_ne) ?_)) (by repeat (first|exact trivial|refine And.intro (by k_ne) ?_)) (by assumption) hT9 (by exact rfl) ?_;k_whole);intro f' c' oc' ctv' ps' h' tk' F' N' hT' hne' l1 l2 l3;clear hT9;(try k_lt l3)))|((fail_if_success (fail_if_success (with_reducible refine is_tr ?_)));first|(k_here;(with_reducible show wpAny _ _ (truthy (Value.ref _)) _ _ _);k_dflt (refine' truthy_m (by k_asm) (by k_mem) (by exact rfl) ?_;k_whole)))|((fail_if_success (fail_if_success (with_reducible refine is_gm ?_)));first|(k_here;(with_reducible show wpAny _ _ (getMethod (Value.ref _) (PySem.Str.ofString "group") _) _ _ _);k_dflt (refine' pm_group (by k_asm) (by k_mem) (by k_mem) ?_;k_whole))|(k_here;(with_reducible show wpAny _ _ (getMethod (Value.ref _) (PySem.Str.ofString "subn") _) _ _ _);k_dflt (refine' pm_subn (k49 _) (by k_asm) (by k_asm) ?_;k_whole))|(k_here;(with_reducible show wpAny _ _ (getMethod (Value.ref _) (PySem.Str.ofString "sub") _) _ _ _);k_dflt (refine' pm_sub (k76 _) (by k_asm) (by k_asm) ?_;k_whole))|(k_here;(with_reducible show wpAny _ _ (getMethod (Value.ref _) (PySem.Str.ofString "search") _) _ _ _);k_dflt (first|(refine' pm_search (k61 _) (by k_asm) (by k_asm) ?_)|(refine' pm_search (k66 _) (by k_asm) (by k_asm) ?_)|(refine' pm_search (k71 _) (by k_asm) (by k_asm) ?_));k_whole))|(k_end;kc_close)|walk1|(dsimp only;walk1)|(leave1;(try dsimp only)))
  show Q _ _
  rename Fr _ _ _ _=>F9
  rename News _ _ _ _=>N9
  obtain ⟨oth9,F9⟩:=fr_sm F9 (by rfl) (by rfl) (by rfl)
  refine' hret _ _ _ _ _ _ oth9 F9 ?N ?f0 ?f1 ?f2 ?f3 ?f4 ?f5 ?f6 ?f7 ?f8
  case N=>exact newsC (by k_mem) N9 (newsC (by k_mem) N9 (newsC (by k_mem) N9 (newsC (by k_mem) N9 (newsC (by k_mem) N9 (newsC (by k_mem) N9 (newsC (by k_mem) N9 (newsC (by k_mem) N9 (newsC (by k_mem) N9 (newsC (by k_mem) N9 (News.nil))))))))))
  case f0=>k_ne
  case f1=>k_ne
  case f2=>k_ne
  case f3=>k_ne
  case f4=>k_ne
  case f5=>k_ne
  case f6=>k_ne
  case f7=>k_ne
  case f8=>k_ne
end Mine
end
section
namespace Mine
open Mine.Re
theorem c_jh0 (w:World) {cA ll l1 t1 k1 k2 k3 k4 n1 n2 n3:Nat} {l:List Nat} {ps:Array Value} {oA:Obj} {pv:Program}
    (Bh:Below (ar 540 5600 gd outer) base outer (hideAll s.heap [ll,l1,t1,95,cA])) (XB:(K w.params).In base) (TB:Top pv loose mean mg mb base)
    (hg0:s.heap.get? ll=some (lstO #[.ref l1] n1)) (hg1:s.heap.get? l1=some (lstO #[.ref t1] n2)) (hg2:s.heap.get? t1=some (tupO [.str "k" k1, .str (tx l) k2])) (hg3:s.heap.get? 95=some (tabObj ps)) (hg4:s.heap.get? cA=some (oA)) (hT:TabL 61 50 "join_header_words.<locals>.<lambda>" ps cA oA) (ha:∀c∈l,c∈alph) (hb:32∈l) (hz:l.length≤20000) (hp:1≤l.length) (q0:@Ne Nat ll 95) (q1:@Ne Nat l1 95) (q2:@Ne Nat t1 95) (r0:@Ne Nat ll cA) (r1:@Ne Nat l1 cA) (r2:@Ne Nat t1 cA) (q9:@Ne Nat cA 95)
    (hret:∀(h':Heap) (tk' t cA':Nat) (oA':Obj) (ps':Array Value),h'.get? 95=some (tabObj ps')→h'.get? cA'=some oA'→TabL 61 50 "join_header_words.<locals>.<lambda>" ps' cA' oA'→(cA'=cA∨s.heap.get? cA'=none)→@Ne Nat cA' 95→(∀b o,b≠95→s.heap.get? b=some o→h'.get? b=some o)→Q (.str (tx (107::61::34::(Es l++[34]))) t) {s with heap:=h',toks:=tk'}):
    wpAny (model pw_il0090_01 w) (ar 540 5600 gd outer) (call (.ref 100) [.ref ll]) Q E s:=by
  have X:=XB.keeps Bh.stays
  have T:=TB.keeps Bh.stays
  have eK:rw_il0090_01=rw_il0090_01:=rfl
  revert eK X XB
  k_fill
  intro X XB eK
  refine wpAny_call ?_
  k_dflt (refine' own_enter (chg:=[(ll,lstO #[.ref l1] n1),(l1,lstO #[.ref t1] n2),(t1,tupO [.str "k" k1, .str (tx l) k2]),(95,tabObj ps),(cA,oA)]) ?k1 ?k2 ?k3 ?k4 ?k6 ?k7 ?k8 ?k9 ?kB ?_ ?c2 ?c3 ?c4 ?c5;(case k1=>exact Bh);(case k2=>(intro q hq;simp only [List.mem_cons,List.not_mem_nil,or_false] at hq;rcases hq with rfl|rfl|rfl|rfl|rfl;exact hg0;exact hg1;exact hg2;exact hg3;exact hg4));(case k3=>exact XB);(case k4=>exact T);(case k6=>k_is);(case k7=>k_is);(case k8=>exact Nat.le_of_ble_eq_true rfl);(case k9=>first|exact BindsTo.of_eq rfl|exact binds_K (Frag.In.keeps XB fun b o e=>of_hideAll _ e) rfl (by k_is) rfl rfl rfl);(case c5=>decide);(case kB=>exact locs rfl);(case c2=>exact rfl);(case c3=>exact rfl);(case c4=>exact rfl);k_whole;intro g' L' h' hg' hL' F' N' B' X' T' hlt';clear X XB T TB Bh;(try dsimp only);(try k_fold))
  have hes:=es_len l
  (try (refine let_ctx ?_;intro A9 e9))
  repeat' (first|(k_unfold;(try dsimp only))|((fail_if_success (fail_if_success (with_reducible refine is_bin ?_)));first|(k_here;(with_reducible show wpAny _ _ (binaryOp Operator.Mod (Value.str _ _) (Value.ref _)) _ _ _);k_dflt (first|(refine' mod_t (d:=107) (c:="k") (by decide) (by k_asm) (by k_mem) (by simp only [List.length_cons,List.length_append,List.length_nil];omega) ?_)|(refine' mod_t (d:=109) (c:="m") (by decide) (by k_asm) (by k_mem) (by simp only [List.length_cons,List.length_append,List.length_nil];omega) ?_));intro t' k')|(k_here;(with_reducible show wpAny _ _ (binaryOp Operator.Mod (Value.str _ _) (Value.str (tx _) _)) _ _ _);(refine' mod_q (by omega) ?_);intro t' k'))|((fail_if_success (fail_if_success (with_reducible refine is_call ?_)));first|(k_here;(with_reducible show wpAny _ _ (call (Value.builtin "str.join") [Value.str _ _,Value.ref _]) _ _ _);k_dflt (first|(refine' join_one (h₀:=_) (y:=tx _) (by k_asm) (by k_mem) (by exact rfl) (by decide) (by simp only [List.length_cons,List.length_append,List.length_nil];omega) ?_)|(refine' join_two (y:=tx _) (z:=tx _) (c:=[44,32]) (by k_asm) (by k_mem) (by decide) (by exact rfl) (by exact rfl) (by decide) (by simp only [List.length_cons,List.length_append,List.length_nil];omega) ?_)|(refine' join_two (y:=Str.ofString "n") (z:=tx _) (a:=[110]) (c:=[59,32]) (by k_asm) (by k_mem) (by decide) (by decide) (by exact rfl) (by decide) (by simp only [List.length_cons,List.length_append,List.length_nil];omega) ?_));intro t' k')|(k_here;(with_reducible show wpAny _ _ (call (Value.builtin "re.Pattern.sub") [Value.ref 93,Value.ref _,Value.str (tx _) _]) _ _ _);(rename TabL _ _ _ _ _ _=>hT9);(rename _≠(#[]:Array Value)=>hne9);k_dflt (refine' use_subJ (by k_asm) (by k_asm) (by k_asm) (by k_asm) (by assumption) (by k_mem) (by k_mem) hT9 hne9 (by exact rfl) (by exact rfl) (by exact rfl) ?_;k_whole);intro h' tk' t' F' N')|(k_here;(with_reducible show wpAny _ _ (call (Value.builtin "re.Pattern.fullmatch") [Value.ref 88,Value.str (Str.ofString "7") _]) _ _ _);k_dflt (refine' use_full7 (by k_asm) (by k_asm) (by k_asm) ?_;k_whole);intro y' h' o' F' N' l1 l2)|(k_here;(with_reducible show wpAny _ _ (call (Value.builtin "re.Pattern.fullmatch") [Value.ref 88,Value.str (tx _) _]) _ _ _);k_dflt (refine' use_full (by k_asm) (by k_asm) (by assumption) (by assumption) (by assumption) ?_;k_whole)))|(k_here;((with_reducible show wpAny _ _ (joinParts (Str.empty++Str.ofString _++Str.ofString _++tx _) (evalEach [] _)) _ _ _);(with_reducible refine joinParts_nilE ?_));first|(refine fmt_nil (d:=107) (by decide) (by (simp only [List.length_cons,List.length_append,List.length_nil];omega)) ?_;intro t' k')|(refine fmt_nil (d:=109) (by decide) (by (simp only [List.length_cons,List.length_append,List.length_nil];omega)) ?_;intro t' k'))|((with_reducible show PySem.Str.length (Str.empty++Str.ofString _++Str.ofString _++tx _)≤sizeLine∧wpAny _ _ (joinParts _ _) _ _ _);first|(refine ⟨fmt_len (d:=107) (by decide) (by (simp only [List.length_cons,List.length_append,List.length_nil];omega)),?_⟩)|(refine ⟨fmt_len (d:=109) (by decide) (by (simp only [List.length_cons,List.length_append,List.length_nil];omega)),?_⟩))|(k_here;(with_reducible show wpAny _ _ (formatField (Value.str (tx _) _) Str.empty) _ _ _);(refine formatField_str (hsz:=(by rw [tx_len];simp only [List.length_cons,List.length_append,List.length_nil];have hsl9:sizeLine=16777216:=rfl;omega)) ?_);intro _ _)|(k_here;(with_reducible show wpAny _ _ (convS (Value.str (tx _) _)) _ _ _);(refine SB.convS_str (hsz:=(by rw [tx_len];simp only [List.length_cons,List.length_append,List.length_nil];have hsl9:sizeLine=16777216:=rfl;omega)) ?_);intro _ _)|((with_reducible show wpAny _ _ (eval (PySem.Expr.Lambda ..) _) _ _ _);(k_here;k_dflt (refine' kla_eval (by exact rfl) ?_);(rename TabL _ _ _ _ _ _=>hT9);k_dflt (refine' lam_any (c:=99) (P:=95) (by exact rfl) (by exact rfl) (by k_asm) (by k_asm) (by k_asm) (by exact rfl) (by first|exact hd_99 _ (by k_asm)|exact hd_82 _ (by k_asm)) (by repeat (first|exact EndW.here|apply EndW.cons)) (by repeat (first|exact trivial|refine And.intro (by k_ne) ?_)) (by repeat (first|exact trivial|refine And.intro (by k_ne) ?_)) (by assumption) hT9 (by exact rfl) ?_;k_whole);intro f' c' oc' ctv' ps' h' tk' F' N' hT' hne' l1 l2 l3;clear hT9;(try k_lt l3)))|((fail_if_success (fail_if_success (with_reducible refine is_gm ?_)));first|(k_here;(with_reducible show wpAny _ _ (getMethod (Value.ref 93) (PySem.Str.ofString "sub") _) _ _ _);k_dflt (refine' pm_subJ (by k_asm) (by k_asm) ?_;k_whole))|(k_here;(with_reducible show wpAny _ _ (getMethod (Value.ref 88) (PySem.Str.ofString "fullmatch") _) _ _ _);k_dflt (refine' pm_full (by k_asm) (by k_asm) ?_;k_whole)))|((with_reducible show wpAny _ _ (callWith _ _ (_,[Value.ref _]).snd _ _) _ _ _);refine callWith_method1 ?_)|(k_end;kc_close)|walk1|(dsimp only;walk1)|(leave1;(try dsimp only)))
  show Q _ _
  rename News _ _ _ _=>N9
  rename Fr _ _ _ _=>F9
  rename TabL _ _ _ _ _ _=>hT9
  refine' hret _ _ _ _ _ _ ?a ?b hT9 ?c ?d ?e
  case a=>exact News.get N9 (by k_mem)
  case b=>exact News.get N9 (by k_mem)
  case c=>
    refine or_fresh hg' (News.fresh N9 (by k_mem)) ?_
    simp only [List.map,List.forall_mem_cons,List.not_mem_nil,false_implies,implies_true,and_true]
    refine ⟨Or.inl (by k_ne),Or.inl (by k_ne),Or.inl (by k_ne),Or.inl (by k_ne),Or.inr trivial⟩
  case d=>k_ne
  case e=>
    refine kept_all hg' F9 ?_
    simp only [List.map,List.forall_mem_cons,List.not_mem_nil,false_implies,implies_true,and_true]
    refine ⟨Or.inr (same_get hg0 (News.get N9 (by k_mem))),Or.inr (same_get hg1 (News.get N9 (by k_mem))),Or.inr (same_get hg2 (News.get N9 (by k_mem))),Or.inl trivial,Or.inr (same_get hg4 (News.get N9 (by k_mem)))⟩
end Mine
end
section
namespace Mine
open Mine.Re
theorem c_jh1 (w:World) {cA ll l1 t1 t2 k1 k2 k3 k4 n1 n2 n3:Nat} {l:List Nat} {ps:Array Value} {oA:Obj} {pv:Program}
    (Bh:Below (ar 540 5600 gd outer) base outer (hideAll s.heap [ll,l1,t1,t2,95,cA])) (XB:(K w.params).In base) (TB:Top pv loose mean mg mb base)
    (hg0:s.heap.get? ll=some (lstO #[.ref l1] n1)) (hg1:s.heap.get? l1=some (lstO #[.ref t1, .ref t2] n2)) (hg2:s.heap.get? t1=some (tupO [.str "n" k3, .none])) (hg3:s.heap.get? t2=some (tupO [.str "k" k1, .str (tx l) k2])) (hg4:s.heap.get? 95=some (tabObj ps)) (hg5:s.heap.get? cA=some (oA)) (hT:TabL 61 50 "join_header_words.<locals>.<lambda>" ps cA oA) (ha:∀c∈l,c∈alph) (hb:32∈l) (hz:l.length≤20000) (hp:1≤l.length) (q0:@Ne Nat ll 95) (q1:@Ne Nat l1 95) (q2:@Ne Nat t1 95) (q3:@Ne Nat t2 95) (r0:@Ne Nat ll cA) (r1:@Ne Nat l1 cA) (r2:@Ne Nat t1 cA) (r3:@Ne Nat t2 cA) (q9:@Ne Nat cA 95)
    (hret:∀(h':Heap) (tk' t cA':Nat) (oA':Obj) (ps':Array Value),h'.get? 95=some (tabObj ps')→h'.get? cA'=some oA'→TabL 61 50 "join_header_words.<locals>.<lambda>" ps' cA' oA'→(cA'=cA∨s.heap.get? cA'=none)→@Ne Nat cA' 95→(∀b o,b≠95→s.heap.get? b=some o→h'.get? b=some o)→Q (.str (tx ([110]++[59,32]++(107::61::34::(Es l++[34])))) t) {s with heap:=h',toks:=tk'}):
    wpAny (model pw_il0090_01 w) (ar 540 5600 gd outer) (call (.ref 100) [.ref ll]) Q E s:=by
  have X:=XB.keeps Bh.stays
  have T:=TB.keeps Bh.stays
  have eK:rw_il0090_01=rw_il0090_01:=rfl
  revert eK X XB
  k_fill
  intro X XB eK
  refine wpAny_call ?_
  k_dflt (refine' own_enter (chg:=[(ll,lstO #[.ref l1] n1),(l1,lstO #[.ref t1, .ref t2] n2),(t1,tupO [.str "n" k3, .none]),(t2,tupO [.str "k" k1, .str (tx l) k2]),(95,tabObj ps),(cA,oA)]) ?k1 ?k2 ?k3 ?k4 ?k6 ?k7 ?k8 ?k9 ?kB ?_ ?c2 ?c3 ?c4 ?c5;(case k1=>exact Bh);(case k2=>(intro q hq;simp only [List.mem_cons,List.not_mem_nil,or_false] at hq;rcases hq with rfl|rfl|rfl|rfl|rfl|rfl;exact hg0;exact hg1;exact hg2;exact hg3;exact hg4;exact hg5));(case k3=>exact XB);(case k4=>exact T);(case k6=>k_is);(case k7=>k_is);(case k8=>exact Nat.le_of_ble_eq_true rfl);(case k9=>first|exact BindsTo.of_eq rfl|exact binds_K (Frag.In.keeps XB fun b o e=>of_hideAll _ e) rfl (by k_is) rfl rfl rfl);(case c5=>decide);(case kB=>exact locs rfl);(case c2=>exact rfl);(case c3=>exact rfl);(case c4=>exact rfl);k_whole;intro g' L' h' hg' hL' F' N' B' X' T' hlt';clear X XB T TB Bh;(try dsimp only);(try k_fold))
  have hes:=es_len l
  (try (refine let_ctx ?_;intro A9 e9))
  repeat' (first|(k_unfold;(try dsimp only))|((fail_if_success (fail_if_success (with_reducible refine is_bin ?_)));first|(k_here;(with_reducible show wpAny _ _ (binaryOp Operator.Mod (Value.str _ _) (Value.ref _)) _ _ _);k_dflt (first|(refine' mod_t (d:=107) (c:="k") (by decide) (by k_asm) (by k_mem) (by simp only [List.length_cons,List.length_append,List.length_nil];omega) ?_)|(refine' mod_t (d:=109) (c:="m") (by decide) (by k_asm) (by k_mem) (by simp only [List.length_cons,List.length_append,List.length_nil];omega) ?_));intro t' k')|(k_here;(with_reducible show wpAny _ _ (binaryOp Operator.Mod (Value.str _ _) (Value.str (tx _) _)) _ _ _);(refine' mod_q (by omega) ?_);intro t' k'))|((fail_if_success (fail_if_success (with_reducible refine is_call ?_)));first|(k_here;(with_reducible show wpAny _ _ (call (Value.builtin "str.join") [Value.str _ _,Value.ref _]) _ _ _);k_dflt (first|(refine' join_one (h₀:=_) (y:=tx _) (by k_asm) (by k_mem) (by exact rfl) (by decide) (by simp only [List.length_cons,List.length_append,List.length_nil];omega) ?_)|(refine' join_two (y:=tx _) (z:=tx _) (c:=[44,32]) (by k_asm) (by k_mem) (by decide) (by exact rfl) (by exact rfl) (by decide) (by simp only [List.length_cons,List.length_append,List.length_nil];omega) ?_)|(refine' join_two (y:=Str.ofString "n") (z:=tx _) (a:=[110]) (c:=[59,32]) (by k_asm) (by k_mem) (by decide) (by decide) (by exact rfl) (by decide) (by simp only [List.length_cons,List.length_append,List.length_nil];omega) ?_));intro t' k')|(k_here;(with_reducible show wpAny _ _ (call (Value.builtin "re.Pattern.sub") [Value.ref 93,Value.ref _,Value.str (tx _) _]) _ _ _);(rename TabL _ _ _ _ _ _=>hT9);(rename _≠(#[]:Array Value)=>hne9);k_dflt (refine' use_subJ (by k_asm) (by k_asm) (by k_asm) (by k_asm) (by assumption) (by k_mem) (by k_mem) hT9 hne9 (by exact rfl) (by exact rfl) (by exact rfl) ?_;k_whole);intro h' tk' t' F' N')|(k_here;(with_reducible show wpAny _ _ (call (Value.builtin "re.Pattern.fullmatch") [Value.ref 88,Value.str (Str.ofString "7") _]) _ _ _);k_dflt (refine' use_full7 (by k_asm) (by k_asm) (by k_asm) ?_;k_whole);intro y' h' o' F' N' l1 l2)|(k_here;(with_reducible show wpAny _ _ (call (Value.builtin "re.Pattern.fullmatch") [Value.ref 88,Value.str (tx _) _]) _ _ _);k_dflt (refine' use_full (by k_asm) (by k_asm) (by assumption) (by assumption) (by assumption) ?_;k_whole)))|(k_here;((with_reducible show wpAny _ _ (joinParts (Str.empty++Str.ofString _++Str.ofString _++tx _) (evalEach [] _)) _ _ _);(with_reducible refine joinParts_nilE ?_));first|(refine fmt_nil (d:=107) (by decide) (by (simp only [List.length_cons,List.length_append,List.length_nil];omega)) ?_;intro t' k')|(refine fmt_nil (d:=109) (by decide) (by (simp only [List.length_cons,List.length_append,List.length_nil];omega)) ?_;intro t' k'))|((with_reducible show PySem.Str.length (Str.empty++Str.ofString _++Str.ofString _++tx _)≤sizeLine∧wpAny _ _ (joinParts _ _) _ _ _);first|(refine ⟨fmt_len (d:=107) (by decide) (by (simp only [List.length_cons,List.length_append,List.length_nil];omega)),?_⟩)|(refine ⟨fmt_len (d:=109) (by decide) (by (simp only [List.length_cons,List.length_append,List.length_nil];omega)),?_⟩))|(k_here;(with_reducible show wpAny _ _ (formatField (Value.str (tx _) _) Str.empty) _ _ _);(refine formatField_str (hsz:=(by rw [tx_len];simp only [List.length_cons,List.length_append,List.length_nil];have hsl9:sizeLine=16777216:=rfl;omega)) ?_);intro _ _)|(k_here;(with_reducible show wpAny _ _ (convS (Value.str (tx _) _)) _ _ _);(refine SB.convS_str (hsz:=(by rw [tx_len];simp only [List.length_cons,List.length_append,List.length_nil];have hsl9:sizeLine=16777216:=rfl;omega)) ?_);intro _ _)|((with_reducible show wpAny _ _ (eval (PySem.Expr.Lambda ..) _) _ _ _);(k_here;k_dflt (refine' kla_eval (by exact rfl) ?_);(rename TabL _ _ _ _ _ _=>hT9);k_dflt (refine' lam_any (c:=99) (P:=95) (by exact rfl) (by exact rfl) (by k_asm) (by k_asm) (by k_asm) (by exact rfl) (by first|exact hd_99 _ (by k_asm)|exact hd_82 _ (by k_asm)) (by repeat (first|exact EndW.here|apply EndW.cons)) (by repeat (first|exact trivial|refine And.intro (by k_ne) ?_)) (by repeat (first|exact trivial|refine And.intro (by k_ne) ?_)) (by assumption) hT9 (by exact rfl) ?_;k_whole);intro f' c' oc' ctv' ps' h' tk' F' N' hT' hne' l1 l2 l3;clear hT9;(try k_lt l3)))|((fail_if_success (fail_if_success (with_reducible refine is_gm ?_)));first|(k_here;(with_reducible show wpAny _ _ (getMethod (Value.ref 93) (PySem.Str.ofString "sub") _) _ _ _);k_dflt (refine' pm_subJ (by k_asm) (by k_asm) ?_;k_whole))|(k_here;(with_reducible show wpAny _ _ (getMethod (Value.ref 88) (PySem.Str.ofString "fullmatch") _) _ _ _);k_dflt (refine' pm_full (by k_asm) (by k_asm) ?_;k_whole)))|((with_reducible show wpAny _ _ (callWith _ _ (_,[Value.ref _]).snd _ _) _ _ _);refine callWith_method1 ?_)|(k_end;kc_close)|walk1|(dsimp only;walk1)|(leave1;(try dsimp only)))
  show Q _ _
  rename News _ _ _ _=>N9
  rename Fr _ _ _ _=>F9
  rename TabL _ _ _ _ _ _=>hT9
  refine' hret _ _ _ _ _ _ ?a ?b hT9 ?c ?d ?e
  case a=>exact News.get N9 (by k_mem)
  case b=>exact News.get N9 (by k_mem)
  case c=>
    refine or_fresh hg' (News.fresh N9 (by k_mem)) ?_
    simp only [List.map,List.forall_mem_cons,List.not_mem_nil,false_implies,implies_true,and_true]
    refine ⟨Or.inl (by k_ne),Or.inl (by k_ne),Or.inl (by k_ne),Or.inl (by k_ne),Or.inl (by k_ne),Or.inr trivial⟩
  case d=>k_ne
  case e=>
    refine kept_all hg' F9 ?_
    simp only [List.map,List.forall_mem_cons,List.not_mem_nil,false_implies,implies_true,and_true]
    refine ⟨Or.inr (same_get hg0 (News.get N9 (by k_mem))),Or.inr (same_get hg1 (News.get N9 (by k_mem))),Or.inr (same_get hg2 (News.get N9 (by k_mem))),Or.inr (same_get hg3 (News.get N9 (by k_mem))),Or.inl trivial,Or.inr (same_get hg5 (News.get N9 (by k_mem)))⟩
end Mine
end
section
namespace Mine
open Mine.Re
theorem c_jh2 (w:World) {cA ll l1 l2 t1 t2 k1 k2 k3 k4 n1 n2 n3:Nat} {l:List Nat} {ps:Array Value} {oA:Obj} {pv:Program}
    (Bh:Below (ar 540 5600 gd outer) base outer (hideAll s.heap [ll,l1,l2,t1,t2,95,cA])) (XB:(K w.params).In base) (TB:Top pv loose mean mg mb base)
    (hg0:s.heap.get? ll=some (lstO #[.ref l1, .ref l2] n1)) (hg1:s.heap.get? l1=some (lstO #[.ref t1] n2)) (hg2:s.heap.get? l2=some (lstO #[.ref t2] n3)) (hg3:s.heap.get? t1=some (tupO [.str "k" k1, .str (tx l) k2])) (hg4:s.heap.get? t2=some (tupO [.str "m" k3, .str "7" k4])) (hg5:s.heap.get? 95=some (tabObj ps)) (hg6:s.heap.get? cA=some (oA)) (hT:TabL 61 50 "join_header_words.<locals>.<lambda>" ps cA oA) (ha:∀c∈l,c∈alph) (hb:32∈l) (hz:l.length≤20000) (hp:1≤l.length) (q0:@Ne Nat ll 95) (q1:@Ne Nat l1 95) (q2:@Ne Nat l2 95) (q3:@Ne Nat t1 95) (q4:@Ne Nat t2 95) (r0:@Ne Nat ll cA) (r1:@Ne Nat l1 cA) (r2:@Ne Nat l2 cA) (r3:@Ne Nat t1 cA) (r4:@Ne Nat t2 cA) (q9:@Ne Nat cA 95)
    (hret:∀(h':Heap) (tk' t cA':Nat) (oA':Obj) (ps':Array Value),h'.get? 95=some (tabObj ps')→h'.get? cA'=some oA'→TabL 61 50 "join_header_words.<locals>.<lambda>" ps' cA' oA'→(cA'=cA∨s.heap.get? cA'=none)→@Ne Nat cA' 95→(∀b o,b≠95→s.heap.get? b=some o→h'.get? b=some o)→Q (.str (tx ((107::61::34::(Es l++[34]))++[44,32]++[109,61,55])) t) {s with heap:=h',toks:=tk'}):
    wpAny (model pw_il0090_01 w) (ar 540 5600 gd outer) (call (.ref 100) [.ref ll]) Q E s:=by
  have X:=XB.keeps Bh.stays
  have T:=TB.keeps Bh.stays
  have eK:rw_il0090_01=rw_il0090_01:=rfl
  revert eK X XB
  k_fill
  intro X XB eK
  refine wpAny_call ?_
  k_dflt (refine' own_enter (chg:=[(ll,lstO #[.ref l1, .ref l2] n1),(l1,lstO #[.ref t1] n2),(l2,lstO #[.ref t2] n3),(t1,tupO [.str "k" k1, .str (tx l) k2]),(t2,tupO [.str "m" k3, .str "7" k4]),(95,tabObj ps),(cA,oA)]) ?k1 ?k2 ?k3 ?k4 ?k6 ?k7 ?k8 ?k9 ?kB ?_ ?c2 ?c3 ?c4 ?c5;(case k1=>exact Bh);(case k2=>(intro q hq;simp only [List.mem_cons,List.not_mem_nil,or_false] at hq;rcases hq with rfl|rfl|rfl|rfl|rfl|rfl|rfl;exact hg0;exact hg1;exact hg2;exact hg3;exact hg4;exact hg5;exact hg6));(case k3=>exact XB);(case k4=>exact T);(case k6=>k_is);(case k7=>k_is);(case k8=>exact Nat.le_of_ble_eq_true rfl);(case k9=>first|exact BindsTo.of_eq rfl|exact binds_K (Frag.In.keeps XB fun b o e=>of_hideAll _ e) rfl (by k_is) rfl rfl rfl);(case c5=>decide);(case kB=>exact locs rfl);(case c2=>exact rfl);(case c3=>exact rfl);(case c4=>exact rfl);k_whole;intro g' L' h' hg' hL' F' N' B' X' T' hlt';clear X XB T TB Bh;(try dsimp only);(try k_fold))
  have hes:=es_len l
  (try (refine let_ctx ?_;intro A9 e9))
  repeat' (first|(k_unfold;(try dsimp only))|((fail_if_success (fail_if_success (with_reducible refine is_bin ?_)));first|(k_here;(with_reducible show wpAny _ _ (binaryOp Operator.Mod (Value.str _ _) (Value.ref _)) _ _ _);k_dflt (first|(refine' mod_t (d:=107) (c:="k") (by decide) (by k_asm) (by k_mem) (by simp only [List.length_cons,List.length_append,List.length_nil];omega) ?_)|(refine' mod_t (d:=109) (c:="m") (by decide) (by k_asm) (by k_mem) (by simp only [List.length_cons,List.length_append,List.length_nil];omega) ?_));intro t' k')|(k_here;(with_reducible show wpAny _ _ (binaryOp Operator.Mod (Value.str _ _) (Value.str (tx _) _)) _ _ _);(refine' mod_q (by omega) ?_);intro t' k'))|((fail_if_success (fail_if_success (with_reducible refine is_tr ?_)));first|(k_here;(with_reducible show wpAny _ _ (truthy (Value.ref _)) _ _ _);k_dflt (refine' truthy_m (by k_asm) (by k_mem) (by assumption) ?_;k_whole)))|((fail_if_success (fail_if_success (with_reducible refine is_call ?_)));first|(k_here;(with_reducible show wpAny _ _ (call (Value.builtin "str.join") [Value.str _ _,Value.ref _]) _ _ _);k_dflt (first|(refine' join_one (h₀:=_) (y:=tx _) (by k_asm) (by k_mem) (by exact rfl) (by decide) (by simp only [List.length_cons,List.length_append,List.length_nil];omega) ?_)|(refine' join_two (y:=tx _) (z:=Str.ofString "m=7") (b:=[109,61,55]) (c:=[44,32]) (by k_asm) (by k_mem) (by decide) (by exact rfl) (by decide) (by decide) (by simp only [List.length_cons,List.length_append,List.length_nil];omega) ?_)|(refine' join_two (y:=tx _) (z:=tx _) (c:=[44,32]) (by k_asm) (by k_mem) (by decide) (by exact rfl) (by exact rfl) (by decide) (by simp only [List.length_cons,List.length_append,List.length_nil];omega) ?_)|(refine' join_two (y:=Str.ofString "n") (z:=tx _) (a:=[110]) (c:=[59,32]) (by k_asm) (by k_mem) (by decide) (by decide) (by exact rfl) (by decide) (by simp only [List.length_cons,List.length_append,List.length_nil];omega) ?_));intro t' k')|(k_here;(with_reducible show wpAny _ _ (call (Value.builtin "re.Pattern.sub") [Value.ref 93,Value.ref _,Value.str (tx _) _]) _ _ _);(rename TabL _ _ _ _ _ _=>hT9);(rename _≠(#[]:Array Value)=>hne9);k_dflt (refine' use_subJ (by k_asm) (by k_asm) (by k_asm) (by k_asm) (by assumption) (by k_mem) (by k_mem) hT9 hne9 (by exact rfl) (by exact rfl) (by exact rfl) ?_;k_whole);intro h' tk' t' F' N')|(k_here;(with_reducible show wpAny _ _ (call (Value.builtin "re.Pattern.fullmatch") [Value.ref 88,Value.str (Str.ofString "7") _]) _ _ _);k_dflt (refine' use_full7 (by k_asm) (by k_asm) (by k_asm) ?_;k_whole);intro y' h' o' F' N' l1 l2)|(k_here;(with_reducible show wpAny _ _ (call (Value.builtin "re.Pattern.fullmatch") [Value.ref 88,Value.str (tx _) _]) _ _ _);k_dflt (refine' use_full (by k_asm) (by k_asm) (by assumption) (by assumption) (by assumption) ?_;k_whole)))|(k_here;((with_reducible show wpAny _ _ (joinParts (Str.empty++Str.ofString _++Str.ofString _++tx _) (evalEach [] _)) _ _ _);(with_reducible refine joinParts_nilE ?_));first|(refine fmt_nil (d:=107) (by decide) (by (simp only [List.length_cons,List.length_append,List.length_nil];omega)) ?_;intro t' k')|(refine fmt_nil (d:=109) (by decide) (by (simp only [List.length_cons,List.length_append,List.length_nil];omega)) ?_;intro t' k'))|((with_reducible show PySem.Str.length (Str.empty++Str.ofString _++Str.ofString _++tx _)≤sizeLine∧wpAny _ _ (joinParts _ _) _ _ _);first|(refine ⟨fmt_len (d:=107) (by decide) (by (simp only [List.length_cons,List.length_append,List.length_nil];omega)),?_⟩)|(refine ⟨fmt_len (d:=109) (by decide) (by (simp only [List.length_cons,List.length_append,List.length_nil];omega)),?_⟩))|(k_here;(with_reducible show wpAny _ _ (formatField (Value.str (tx _) _) Str.empty) _ _ _);(refine formatField_str (hsz:=(by rw [tx_len];simp only [List.length_cons,List.length_append,List.length_nil];have hsl9:sizeLine=16777216:=rfl;omega)) ?_);intro _ _)|(k_here;(with_reducible show wpAny _ _ (convS (Value.str (tx _) _)) _ _ _);(refine SB.convS_str (hsz:=(by rw [tx_len];simp only [List.length_cons,List.length_append,List.length_nil];have hsl9:sizeLine=16777216:=rfl;omega)) ?_);intro _ _)|((with_reducible show wpAny _ _ (eval (PySem.Expr.Lambda ..) _) _ _ _);(k_here;k_dflt (refine' kla_eval (by exact rfl) ?_);(rename TabL _ _ _ _ _ _=>hT9);k_dflt (refine' lam_any (c:=99) (P:=95) (by exact rfl) (by exact rfl) (by k_asm) (by k_asm) (by k_asm) (by exact rfl) (by first|exact hd_99 _ (by k_asm)|exact hd_82 _ (by k_asm)) (by repeat (first|exact EndW.here|apply EndW.cons)) (by repeat (first|exact trivial|refine And.intro (by k_ne) ?_)) (by repeat (first|exact trivial|refine And.intro (by k_ne) ?_)) (by assumption) hT9 (by exact rfl) ?_;k_whole);intro f' c' oc' ctv' ps' h' tk' F' N' hT' hne' l1 l2 l3;clear hT9;(try k_lt l3)))|((fail_if_success (fail_if_success (with_reducible refine is_gm ?_)));first|(k_here;(with_reducible show wpAny _ _ (getMethod (Value.ref 93) (PySem.Str.ofString "sub") _) _ _ _);k_dflt (refine' pm_subJ (by k_asm) (by k_asm) ?_;k_whole))|(k_here;(with_reducible show wpAny _ _ (getMethod (Value.ref 88) (PySem.Str.ofString "fullmatch") _) _ _ _);k_dflt (refine' pm_full (by k_asm) (by k_asm) ?_;k_whole)))|((with_reducible show wpAny _ _ (callWith _ _ (_,[Value.ref _]).snd _ _) _ _ _);refine callWith_method1 ?_)|(k_end;kc_close)|walk1|(dsimp only;walk1)|(leave1;(try dsimp only)))
  show Q _ _
  rename News _ _ _ _=>N9
  rename Fr _ _ _ _=>F9
  rename TabL _ _ _ _ _ _=>hT9
  refine' hret _ _ _ _ _ _ ?a ?b hT9 ?c ?d ?e
  case a=>exact News.get N9 (by k_mem)
  case b=>exact News.get N9 (by k_mem)
  case c=>
    refine or_fresh hg' (News.fresh N9 (by k_mem)) ?_
    simp only [List.map,List.forall_mem_cons,List.not_mem_nil,false_implies,implies_true,and_true]
    refine ⟨Or.inl (by k_ne),Or.inl (by k_ne),Or.inl (by k_ne),Or.inl (by k_ne),Or.inl (by k_ne),Or.inl (by k_ne),Or.inr trivial⟩
  case d=>k_ne
  case e=>
    refine kept_all hg' F9 ?_
    simp only [List.map,List.forall_mem_cons,List.not_mem_nil,false_implies,implies_true,and_true]
    refine ⟨Or.inr (same_get hg0 (News.get N9 (by k_mem))),Or.inr (same_get hg1 (News.get N9 (by k_mem))),Or.inr (same_get hg2 (News.get N9 (by k_mem))),Or.inr (same_get hg3 (News.get N9 (by k_mem))),Or.inr (same_get hg4 (News.get N9 (by k_mem))),Or.inl trivial,Or.inr (same_get hg6 (News.get N9 (by k_mem)))⟩
end Mine
end
section
namespace Mine
variable {j0 j1 j2:Int}
noncomputable abbrev inEnv (L f:Nat) (cd:Value):Env:=envX "shlex.__init__" (fnScope (mK 33 0)) L f cd []
noncomputable abbrev inG (w:World) (A:Around) (g:Heap) (L lx ld f:Nat) (cd:Value) (R:List (Addr × Obj)):Cf:=
  {w:=w,A:=A,cn:= .ofString "shlex.__init__",cs:=fnScope (mK 33 0),L:=L,a:=f,ccd:=cd,cl:=[],h₀:=g,lx:=lx,ld:=ld,R:=R,ns:=["instream","infile","posix","punctuation_chars","self"],hp:=false}
section
variable {w:World} {A A₀:Around} {base g:Heap} {outer:List Env} {L f:Nat} {cd:Value} {pv:Program} {mg mb:Str→Option Value} {mean:ExcName→Option Value} {loose:List Str} {s:Shared} {lx ld:Nat} {R:List (Addr × Obj)} {σ:Sg}
theorem in_cx (X:(K w.params).In g) (l1:lx≠ld) (hR:∀q∈R,q.1≠ld):Cx (inG w A g L lx ld f cd R) where
  X:=X
  ne:=l1
  nR:=hR
  fn:=by kernel_rfl
  prop:=fun h=>nomatch h
theorem s_dq {nm x y:Str} {xp yp ap cp pos:Pos} {E:Value→Shared→Prop} {Q:Flow→Shared→Prop} (c:Cx (inG w A g L lx ld f cd R)) (T:Top pv loose mean mg mb g) (I:Inv (inG w A g L lx ld f cd R) σ s.heap) (hy:nsIn (K w.params) mainGlobals y=some (some (.type "collections.deque"))) (hky:((fnScope (mK 33 0)).names.lookup y==some .globalImplicit)=true) (hyd:(y==("__debug__":Str))=false)
    (h1:okL (fnScope (mK 33 0)) x=true) (h0:(x==(.ofString "self":Str))=true) (ha:atts.contains nm=true) (hz:Nat.ble σ.as.length 900=true)
    (h:∀a h' k,Inv (inG w A g L lx ld f cd ((a,dqO)::R)) ⟨σ.vs,setS nm (.ref a) σ.as⟩ h'→a≠lx→a≠ld→(∀q∈R,q.1≠a)→Q .next {s with heap:=h',toks:=k}):
    wpAny (model pw_il0090_01 w) A (exec (.Assign [.Attribute (.Name x xp) nm ap] (.Call (.Name y yp) [] [] cp) pos) (inEnv L f cd)) Q E s:=by
  obtain ⟨m,es,F,N,M,D,S⟩:=I
  refine plainObj_wpAny_Assign_Attribute (Call_ (nameX_K F c.X (by k_asm) hy (callWith_type0 (use_dq F N fun a h' tk' F' N' hne=>?_)) (beq_iff_eq.mp c.fn) (beq_iff_eq.mp hky) hyd)) rfl
  have ea:g.get? a=none:=(N' _ (.head _)).2.2
  have n1:a≠lx:=fun e=>hne _ (.head _) e.symm
  have n2:a≠ld:=fun e=>hne _ (.tail _ (.head _)) e.symm
  have n3:∀q∈R,q.1≠a:=fun q hq=>hne q (.tail _ (.tail _ hq))
  have I':Inv (inG w A g L lx ld f cd ((a,dqO)::R)) σ h':=⟨m,es,F',fun q hq=>(by
    rcases List.mem_cons.mp hq with rfl|hq
    · exact N' _ (.tail _ (.head _))
    rcases List.mem_cons.mp hq with rfl|hq
    · exact N' _ (.tail _ (.tail _ (.head _)))
    rcases List.mem_cons.mp hq with rfl|hq
    · exact N' _ (.head _)
    exact N' _ (.tail _ (.tail _ (.tail _ hq)))),M,D,S⟩
  have c':Cx (inG w A g L lx ld f cd ((a,dqO)::R)):=in_cx c.X c.ne fun q hq=>(by
    rcases List.mem_cons.mp hq with rfl|hq
    · exact n2
    · exact c.nR q hq)
  exact self_name (s:={heap:=h',gens:=_,drawn:=_,toks:=tk',os:=_}) h1 h0 I' (attr_set (p:= .ref a) (t:=0) c' ha hz trivial I' fun h'' k'' I''=>h a h'' k'' I'' n1 n2 n3)
theorem mp_nil {m:Str→Option Value}:MpR m []:=fun _ _ h=>nomatch h
theorem mp_cons {x:Str} {p:PV} {m:Str→Option Value} {b:Nat} {l:List Sl} (h:m x=some (toV p b)) (hp:good p) (r:MpR m l):MpR m (⟨x,none,p,none⟩::l):=fun y s hs=>by
  cases e:(x==y) with
  | true=>rw [look_t e] at hs;cases hs;rw [←eq_of_beq e];exact ⟨⟨b,rfl,h⟩,hp⟩
  | false=>rw [look_f e] at hs;exact r y s hs
noncomputable def iB:List Stmt:=fnBody (mK 33 0)
noncomputable def vs0 (io:Nat) (pc:PV):List Sl:=[⟨"instream",none, .ref io,none⟩,⟨"infile",none, .none,none⟩,⟨"posix",none, .bool true,none⟩,⟨"punctuation_chars",none,pc,none⟩]
noncomputable def sl (x:Str) (p:PV):Sl:=⟨x,none,p,none⟩
noncomputable def asA (io:Nat):List Sl:=[sl "instream" (.ref io),sl "infile" .none,sl "posix" (.bool true),sl "eof" .none,sl "commenters" (.str "#"),sl "wordchars" (.str wordC),sl "whitespace" (.str " \t\r\n"),sl "whitespace_split" (.bool false),sl "quotes" (.str "'\""),sl "escape" (.str "\\"),sl "escapedquotes" (.str "\""),sl "state" (.str " ")]
noncomputable def asB (io a:Nat):List Sl:=asA io++[sl "pushback" (.ref a),sl "lineno" (.int 1),sl "debug" (.int 0),sl "token" (.str "")]
noncomputable def asC (io a b:Nat):List Sl:=asB io a++[sl "filestack" (.ref b),sl "source" .none,sl "_punctuation_chars" (.str "")]
theorem i_A {io:Nat} {R:List (Addr × Obj)} (c:Cx (inG w A g L lx ld f cd R)):valP (evp (ev c 9) 12 (iB.drop 1) ⟨vs0 io (.bool false),[]⟩)=some (⟨vs0 io (.bool false),asA io⟩,iB.drop 13):=by kernel_rfl
theorem i_B {io a:Nat} {R:List (Addr × Obj)} (c:Cx (inG w A g L lx ld f cd R)):valP (evp (ev c 9) 3 (iB.drop 14) ⟨vs0 io (.bool false),setS "pushback" (.ref a) (asA io)⟩)=some (⟨vs0 io (.bool false),asB io a⟩,iB.drop 17):=by kernel_rfl
theorem i_C {io a b:Nat} {R:List (Addr × Obj)} (c:Cx (inG w A g L lx ld f cd R)):valS (evs (ev c 9) (iB.drop 18) ⟨vs0 io (.bool false),setS "filestack" (.ref b) (asB io a)⟩)=some (.next,⟨vs0 io (.str ""),asC io a b⟩):=by kernel_rfl
theorem use_init {Q:Flow→Shared→Prop} {E:Value→Shared→Prop} {io:Nat} {m:Str→Option Value} {news:List (Addr × Obj)} (X:(K w.params).In g) (T:Top pv loose mean mg mb g) (F:Fr g L s.heap m) (N:News g L s.heap news) (m1:(lx,instObj 788 ld)∈news) (m2:(ld,dictOf [] 0)∈news) (hR:∀q∈R,q∈news) (l1:lx≠ld) (l2:∀q∈R,q.1≠ld)
    (h1:m "self"=some (.ref lx)) (h2:m "instream"=some (.ref io)) (h3:m "infile"=some .none) (h4:m "posix"=some (.bool true)) (h5:m "punctuation_chars"=some (.bool false)) (h6:∀y,(["instream","infile","posix","punctuation_chars","self"]:List Str).contains y=false→m y=none)
    (ret:∀(a b:Nat) (m':Str→Option Value) (t:Nat→Nat) (t2 t3:Nat) (h':Heap) (k:Nat),Fr g L h' m'→News g L h' ((lx,instObj 788 ld)::(ld,lexD w.params t io a b false "#" (.str " " t2) (.str "" t3))::(b,dqO)::(a,dqO)::R)→AllNe a ((lx,dqO)::(ld,dqO)::R)→AllNe b ((lx,dqO)::(ld,dqO)::(a,dqO)::R)→Q .next {s with heap:=h',toks:=k}):
    wpAny (model pw_il0090_01 w) A (execs (iB.drop 1) (inEnv L f cd)) Q E s:=by
  have I0:Inv (inG w A g L lx ld f cd R) ⟨vs0 io (.bool false),[]⟩ s.heap:=⟨m,[],F,fun q hq=>(by
    rcases List.mem_cons.mp hq with rfl|hq
    · exact N _ m1
    rcases List.mem_cons.mp hq with rfl|hq
    · exact N _ m2
    exact N _ (hR q hq)),mp_cons (b:=0) h2 trivial (mp_cons (b:=0) h3 trivial (mp_cons (b:=0) h4 trivial (mp_cons (b:=0) h5 trivial mp_nil))),rfl,h1,h6⟩
  have c0:Cx (inG w A g L lx ld f cd R):=in_cx X l1 l2
  refine valP_ok (i_A c0) I0 fun h1 k1 I1=>?_
  with_unfolding_all show wpAny _ _ (execs (Stmt.Assign [Expr.Attribute (Expr.Name _ _) _ _] (Expr.Call (Expr.Name _ _) [] [] _) _::iB.drop 14) (inEnv L f cd)) _ _ _
  refine wpAny_execs_cons (s_dq c0 T I1 (by kernel_rfl) (by kernel_rfl) rfl (by kernel_rfl) (by kernel_rfl) (by kernel_rfl) (by kernel_rfl) fun a h2 k2 I2 a1 a2 a3=>?_)
  have c1:Cx (inG w A g L lx ld f cd ((a,dqO)::R)):=in_cx X l1 fun q hq=>(by
    rcases List.mem_cons.mp hq with rfl|hq
    · exact a2
    · exact l2 q hq)
  refine valP_ok (i_B c1) (s:={heap:=h2,gens:=_,drawn:=_,toks:=k2,os:=_}) I2 fun h3 k3 I3=>?_
  with_unfolding_all show wpAny _ _ (execs (Stmt.Assign [Expr.Attribute (Expr.Name _ _) _ _] (Expr.Call (Expr.Name _ _) [] [] _) _::iB.drop 18) (inEnv L f cd)) _ _ _
  refine wpAny_execs_cons (s_dq c1 T I3 (by kernel_rfl) (by kernel_rfl) rfl (by kernel_rfl) (by kernel_rfl) (by kernel_rfl) (by kernel_rfl) fun b h4 k4 I4 b1 b2 b3=>?_)
  have c2:Cx (inG w A g L lx ld f cd ((b,dqO)::(a,dqO)::R)):=in_cx X l1 fun q hq=>(by
    rcases List.mem_cons.mp hq with rfl|hq
    · exact b2
    · exact c1.nR q hq)
  refine valS_ok (i_C c2) (s:={heap:=h4,gens:=_,drawn:=_,toks:=k4,os:=_}) I4 fun h5 k5 I5=>?_
  obtain ⟨m',es,F',N',M,D,S,O⟩:=I5
  obtain ⟨τ,rfl⟩:=enr_ents D
  exact ret a b m' (fun n=>τ ([0,2,4,6,8,9,10,11,12,13,14,16,17,18,19,20,21,22,24,26,27,28,29,30,32,34,36,37].getD n 0)) (τ 23) (τ 31) h5 k5 F' N' ⟨Ne.symm a1,Ne.symm a2,allNe_of a3⟩ ⟨Ne.symm b1,Ne.symm b2,b3 _ (.head _),allNe_of fun q hq=>b3 q (.tail _ hq)⟩
theorem use_init2 {Q:Flow→Shared→Prop} {E:Value→Shared→Prop} {io id xt pt u0 u1 u2 u3:Nat} {kp:Int} {v0:Value} {x:Str} {j0 j1 j2:Int} {news:List (Addr × Obj)} (X:(K w.params).In g) (T:Top pv loose mean mg mb g) (N:News g L s.heap news) (m1:(lx,instObj 788 ld)∈news) (m2:(ld,dictOf [] 0)∈news) (m3:(io,instObj 653 id)∈news) (m4:(id,ioD j0 j1 j2 u0 u1 u2 u3 x xt kp pt)∈news)
    (F:Fr g L s.heap (fun y=>if y=(.ofString "instream":Str) then some (.ref io) else List.lookup y [(.ofString "punctuation_chars", .bool false),(.ofString "posix", .bool true),(.ofString "infile", .none),(.ofString "instream",v0),(.ofString "self", .ref lx)])) (l1:lx≠ld) (l2:io≠ld) (l3:id≠ld)
    (ret:∀(a b:Nat) (m':Str→Option Value) (t:Nat→Nat) (t2 t3:Nat) (h':Heap) (k':Nat),Fr g L h' m'→News g L h' [(lx,instObj 788 ld),(ld,lexD w.params t io a b false "#" (.str " " t2) (.str "" t3)),(b,dqO),(a,dqO),(io,instObj 653 id),(id,ioD j0 j1 j2 u0 u1 u2 u3 x xt kp pt)]→AllNe a [(lx,dqO),(ld,dqO),(io,instObj 653 id),(id,ioD j0 j1 j2 u0 u1 u2 u3 x xt kp pt)]→AllNe b [(lx,dqO),(ld,dqO),(a,dqO),(io,instObj 653 id),(id,ioD j0 j1 j2 u0 u1 u2 u3 x xt kp pt)]→Q .next {s with heap:=h',toks:=k'}):
    wpAny (model pw_il0090_01 w) A (execs (iB.drop 1) (inEnv L f cd)) Q E s:=by
  refine use_init (R:=[(io,instObj 653 id),(id,ioD j0 j1 j2 u0 u1 u2 u3 x xt kp pt)]) X T F N m1 m2 (fun q hq=>?_) l1 (fun q hq=>?_) rfl rfl rfl rfl rfl (fun y hy=>?_) ret
  · simp only [List.mem_cons,List.not_mem_nil,or_false] at hq
    rcases hq with rfl|rfl
    · exact m3
    · exact m4
  · simp only [List.mem_cons,List.not_mem_nil,or_false] at hq
    rcases hq with rfl|rfl
    · exact l2
    · exact l3
  · have hh:∀z∈([.ofString "instream", .ofString "infile", .ofString "posix", .ofString "punctuation_chars", .ofString "self"]:List Str),y≠z:=fun z hz e=>by
      subst e
      rw [List.contains_iff_mem.mpr hz] at hy
      exact nomatch hy
    simp only [List.mem_cons,List.not_mem_nil,or_false,forall_eq_or_imp,forall_eq] at hh
    obtain ⟨a,b,c,d,e⟩:=hh
    rw [if_neg a]
    simp only [List.lookup_cons,beq_eq_false_iff_ne.mpr a,beq_eq_false_iff_ne.mpr b,beq_eq_false_iff_ne.mpr c,beq_eq_false_iff_ne.mpr d,beq_eq_false_iff_ne.mpr e,List.lookup_nil]
end
end Mine
end
section
namespace Mine
variable {j0 j1 j2:Int}
noncomputable abbrev tf (t0 t1 t2 t3 t4 t5 t6 t7 t8 t9 t10 t11 t12 t13 t14 t15 t16 t17 t18 t19 t20 t21 t22 t23 t24 t25 t26 t27:Nat):Nat→Nat:=fun n=>[t0,t1,t2,t3,t4,t5,t6,t7,t8,t9,t10,t11,t12,t13,t14,t15,t16,t17,t18,t19,t20,t21,t22,t23,t24,t25,t26,t27].getD n 0
theorem rest_of (h base:Heap) (envs:List Env):∃rest:List (Addr × Obj),(∀q∈rest,h.get? q.1=some q.2)∧(∀q∈rest,base.get? q.1=none)∧(∀e∈envs,∀q∈rest,e.frame≠some q.1)∧
    ∀b o,h.get? b=some o→base.get? b=none→(∀e∈envs,e.frame≠some b)→(b,o)∈rest:=by
  classical
  refine ⟨(List.range h.objs.size).filterMap fun b=>if base.get? b=none∧∀e∈envs,e.frame≠some b then (h.get? b).map fun o=>(b,o) else none,?_,?_,?_,?_⟩
  · intro q hq
    obtain ⟨b,_,hb⟩:=List.mem_filterMap.mp hq
    split at hb
    · obtain ⟨o,ho,rfl⟩:=Option.map_eq_some_iff.mp hb
      exact ho
    · cases hb
  · intro q hq
    obtain ⟨b,_,hb⟩:=List.mem_filterMap.mp hq
    split at hb
    · rename_i hc
      obtain ⟨o,ho,rfl⟩:=Option.map_eq_some_iff.mp hb
      exact hc.1
    · cases hb
  · intro e he q hq
    obtain ⟨b,_,hb⟩:=List.mem_filterMap.mp hq
    split at hb
    · rename_i hc
      obtain ⟨o,ho,rfl⟩:=Option.map_eq_some_iff.mp hb
      exact hc.2 e he
    · cases hb
  · intro b o hb hn hf
    refine List.mem_filterMap.mpr ⟨b,List.mem_range.mpr (Heap.lt_size hb),?_⟩
    rw [if_pos ⟨hn,hf⟩,hb];rfl
theorem ads_none {P:Params} {t:Nat→Nat} {lx ld io id pb fs u0 u1 u2 u3 xt pt:Nat} {l:List Nat} {st tok:Value} {k:Int} {g h:Heap} {L:Addr} (N:News g L h (lex6 P j0 j1 j2 t lx ld io id pb fs u0 u1 u2 u3 l xt st tok k pt)):∀a∈ads6 lx ld io id pb fs,g.get? a=none:=fun a ha=>by
  have:a∈(lex6 P j0 j1 j2 t lx ld io id pb fs u0 u1 u2 u3 l xt st tok k pt).map (·.1):=ha
  obtain ⟨q',hq',rfl⟩:=List.mem_map.mp this
  exact (N q' hq').2.2
theorem fresh_size {g h:Heap} {L:Addr} {m:Str→Option Value} (F:Fr g L h m):g.get? h.objs.size=none:=by
  cases z:g.get? h.objs.size with
  | none=>rfl
  | some o=>exact absurd (Heap.lt_size (F.keep _ _ z)) (Nat.lt_irrefl _)
theorem c_split (w:World) {x:List Nat} {tk:Nat} {ws:List (List Nat)} (hx:x.length≤20000) (hz:ws.length≤1000) (W:Wds x 0 0 ws) {gd:Option (List Code)} {outer:List Env} {base:Heap} {mean mean':ExcName→Option Value} {pv pb':Program} {mg mb mg' mb':Str→Option Value} {loose loose':List Str} {s:Shared} {Q E:Value→Shared→Prop}
    (Bw:Below (ar 540 5600 gd outer) base outer s.heap) (X:(K w.params).In s.heap) (T:Top pv loose mean mg mb s.heap) (XB:(K w.params).In base) (TB:Top pb' loose' mean' mg' mb' base)
    (hret:∀(l:Nat) (h':Heap) (tk':Nat) (vs:List Value) (c':Nat),TextVs vs ws→h'.get? l=some (lstO vs.toArray c')→s.heap.get? l=none→(∀b o,s.heap.get? b=some o→(∀e∈outer,e.frame≠some b)→h'.get? b=some o)→FS outer s.heap h'→Q (.ref l) {s with heap:=h',toks:=tk'}):
    wpAny (model pw_il0090_01 w) (ar 540 5600 gd outer) (call (.ref 800) [.str (tx x) tk]) Q E s:=by
  have hxl:=tx_len x
  have hbs:=Bw.stays
  have hff:=Bw.frames
  obtain ⟨rest,hR1,hR2,hR3,hR4⟩:=rest_of s.heap base outer
  have eK:rw_il0090_01=rw_il0090_01:=rfl
  revert eK X
  k_fill
  intro X eK
  refine wpAny_call ?_
  k_dflt (refine' own_enter (chg:=[]) ?k1 ?k2 ?k3 ?k4 ?k6 ?k7 ?k8 ?k9 ?kB ?_ ?c2 ?c3 ?c4 ?c5;(case k1=>exact Bw);(case k2=>exact fun _ h=>nomatch h);(case k3=>exact X);(case k4=>exact T);(case k6=>k_is);(case k7=>k_is);(case k8=>exact Nat.le_of_ble_eq_true rfl);(case k9=>first|exact BindsTo.of_eq rfl|exact binds_K X rfl (by k_is) rfl rfl rfl);(case c5=>decide);(case kB=>exact locs rfl);(case c2=>exact rfl);(case c3=>exact rfl);(case c4=>exact rfl);k_whole;intro g' L' h' hg' hL' F' N' B' X' T' hlt';clear X T Bw;(try dsimp only);(try k_fold))
  have hgs:g'=s.heap:=hg'
  subst hgs
  clear hg'
  (try (refine let_ctx ?_;intro A9 e9))
  repeat' (first|(k_unfold;(try dsimp only))|((with_reducible show wpAny _ _ (execs [_,_,_,_,_,_,_,_,_,_,_,_,_,_,_,_,_,_,_,_,_] _) _ _ _);k_dflt (with_unfolding_all (refine' use_init2 (by k_asm) (by k_asm) (by k_asm) ?m1 ?m2 ?m3 ?m4 (by k_asm) ?l1 ?l2 ?l3 ?_;(case m1=>k_mem);(case m2=>k_mem);(case m3=>k_mem);(case m4=>k_mem);(case l1=>k_ne);(case l2=>k_ne);(case l3=>k_ne)));intro a' b' m' t' t2' t3' h' k' F' N' n1 n2;(try k_sweep))|((fail_if_success (fail_if_success (with_reducible refine is_call ?_)));first|(k_here;(with_reducible show wpAny _ _ (call (Value.ref 653) [Value.str _ _]) _ _ _);k_dflt (refine' use_sio (by k_asm) (by k_asm) (by k_asm) (by k_asm) (by k_asm) (by exact rfl) (by exact rfl) (by exact rfl) (by exact rfl) (by exact rfl) (by exact rfl) ?_;k_whole);intro a' b' h' tk' j0' j1' j2' u0' u1' u2' u3' xt' pt' F' N' l1 l2 l3)|((with_reducible show wpAny _ _ (call (Value.type "collections.deque") _ _) _ _ _);(k_here;k_dflt (refine' use_dq' (by k_asm) (by k_asm) ?_;k_whole);intro a' h' tk' F' N' l1)))|(k_end;kc_close)|walk1|(dsimp only;walk1)|(leave1;(try dsimp only)))
  rename Fr _ _ _ _=>F9
  rename News _ _ _ _=>N9
  have N6:=lex6_news (t:=tf _ _ _ _ _ _ _ _ _ _ _ _ _ _ _ _ _ _ _ _ _ _ _ _ _ _ _ _) (st:=stV 0 _) (tok:= .str "" _) (k:=((0:Nat):Int)) N9 (by k_mem) (by k_mem) (by k_mem) (by k_mem) (by k_mem) (by k_mem)
  refine list_lex X' T' XB TB B' rfl rfl rfl rfl (Nat.le_of_ble_eq_true rfl) (Nat.le_of_ble_eq_true rfl) ?l1 ?l2 ?l3 ?l4 ?l5 ?l6 hx ?ra hR2 ?rf W hz F9 N6 (fun q hq=>F9.keep _ _ (hR1 q hq)) ?_
  case l1=>k_ne
  case l2=>k_ne
  case l3=>k_ne
  case l4=>k_ne
  case l5=>k_ne
  case l6=>k_ne
  case ra=>
    intro q hq hm
    have:=ads_none N6 _ hm
    rw [hR1 q hq] at this;cases this
  case rf=>
    intro e he q hq hfe
    rcases List.mem_cons.mp he with rfl|he
    · have e1:L'=q.1:=Option.some.inj hfe
      have:=Heap.lt_size (hR1 q hq)
      rw [←e1,hL'] at this
      exact absurd this (Nat.lt_irrefl _)
    · exact hR3 e he q hq hfe
  intro h' tk' vs c' tv g1 g2 g3 g4
  refine Then.rt (by assumption) _ _ ?_
  show Q _ _
  refine hret _ h' tk' vs c' tv g1 (fresh_size F9) (fun b o hb hf=>?_) (fun e he b hb o ho hn=>g4 e (.tail _ he) b hb o (F9.keep _ _ ho) hn)
  cases z:base.get? b with
  | none=>exact g2 _ (hR4 b o hb z hf)
  | some o'=>
    have e1:=hbs b o' z
    rw [hb] at e1
    rw [Option.some.inj e1]
    exact g3 _ _ z
end Mine
end
section
namespace Mine
noncomputable def ordEnv (L:Nat):Env:=envOfC "_law_order" (fnScope (dK 44)) L 841 (.ref 840)
noncomputable def ordSt:Stmt:=stAt (whBody (stAt (fnBody (dK 44)) 2)) 3
theorem ord_grows (p:Int):KPfGrows (fun (l:List Int) k=>if k=p then l else l++[k]):=by
  intro l k
  dsimp only
  split<;>simp
theorem ord_comp (w:World) {gd:Option (List Code)} {outer:List Env} {base g:Heap} {L ax:Nat} {pv:Program} {m mg mb:Str→Option Value} {mean:ExcName→Option Value} {loose:List Str} {s:Shared} {Q:Flow→Shared→Prop} {E:Value→Shared→Prop} {vs:List Value} {ns:List Int} {n:Nat} {oc:Obj} {p:Int} {tp:Nat} {rest:List (Addr × Obj)}
    (B:Below (ar 500 5000 gd outer) base outer g) (F:Fr g L s.heap m) (X:(K w.params).In g) (T:Top pv loose mean mg mb g) (N:News g L s.heap ((ax,listOf vs.toArray n)::(L+1,oc)::rest)) (hi:IntsAre vs ns) (hz:vs.toArray.size≤sizeLine) (hm:m "rest"=some (.ref ax)) (hc:oc.data= .cell (some (.int p tp)))
    (h:∀h' tk' D ys,IntsAre ys (ns.foldl (fun (l:List Int) k=>if k=p then l else l++[k]) [])→Fr g L h' (fun z=>if z= .ofString "rest" then some (.ref D) else m z)→News g L h' ((D,LCg.lst ys)::(ax,listOf vs.toArray n)::(L+1,oc)::rest)→LCg.Off1 D ((ax,listOf vs.toArray n)::(L+1,oc)::rest)→Q .next {s with heap:=h',toks:=tk'}):
    wpAny (model pw_il0090_01 w) ((ar 500 5000 gd outer).deeper (ordEnv L)) (exec ordSt (ordEnv L)) Q E s:=by
  with_unfolding_all show wpAny _ ((ar 500 5000 gd outer).deeper (envOfC _ ⟨_,_,_,_,_⟩ _ _ _)) (exec (.Assign _ _ _) (envOfC _ ⟨_,_,_,_,_⟩ _ _ _)) _ _ _
  have em:m=fun z=>if z= .ofString "rest" then some (.ref ax) else m z:=by
    funext z
    by_cases e:z= .ofString "rest"
    · simp only [if_pos e];rw [e,hm]
    · simp only [if_neg e]
  rw [em] at F
  have eK:rw_il0090_01=rw_il0090_01:=rfl
  revert eK X
  k_fill
  intro X eK
  refine LCt.Assign_ListComp_T (F₀:=F) (by rfl) (by with_unfolding_all rfl) (by with_unfolding_all rfl) (by decide) (by rfl) (by decide) (by rfl) (by rfl) (by rfl) ?_
  walk1
  refine LCt.CompSrcT.ledger (by rfl) (by k_asm) (by k_asm) (by k_mem) (by assumption) ?_
  intro g'
  refine' kci_list (fun (l:List Int) k=>if k=p then l else l++[k]) (by assumption) (fun k' t' I' oI' C' oC' D' m' ys' l' h' tk' E' hk' hI' hC' hx' F' N' off' ne'=>?_) ?_ ?_
  all_goals (try (simp only [LCg.Off3,and_true] at off'))
  all_goals (try ((show KPfMark→_);intro hMark'))
  case refine'_3=>exact ord_grows p
  all_goals (try k_fold)
  all_goals repeat' (first|(k_unfold;(try dsimp only))|(k_end;kc_close)|walk1|(dsimp only;walk1)|(leave1;(try dsimp only)))
  case refine'_1.refine_1=>
    rename k'≠p=>hne
    refine LCg.CompEnd.intro (by assumption) (by assumption) ((ax,listOf vs.toArray n)::(L+1,oc)::rest) (fun q hq=>hq) ⟨off'.1,off'.2.1,off'.2.2⟩ (Or.inr ⟨_,List.mem_cons_self,rfl,_,rfl⟩) ⟨rfl,k',t',rfl,if_neg hne⟩
  case refine'_1.refine_2=>
    rename k'=p=>heq
    refine LCg.CompEnd.intro (by assumption) (by assumption) ((ax,listOf vs.toArray n)::(L+1,oc)::rest) (fun q hq=>hq) ⟨off'.1,off'.2.1,off'.2.2⟩ (Or.inr ⟨_,List.mem_cons_self,rfl,_,rfl⟩) ⟨rfl,if_pos heq⟩
  case refine'_2=>
    rename Fr _ _ _ _=>F9
    rename News _ _ _ _=>N9
    rename (_∧_∧LCg.Off1 _ _)=>o9
    refine h _ _ _ _ (by assumption) ?_ N9 o9
    have e2:∀D:Nat,(fun z=>if z=Str.ofString "rest" then some (Value.ref D) else (fun z=>if z=Str.ofString "rest" then some (Value.ref ax) else m z) z)=fun z=>if z=Str.ofString "rest" then some (Value.ref D) else m z:=fun D=>by
      funext z
      by_cases e:z=Str.ofString "rest"
      · simp only [if_pos e]
      · simp only [if_neg e]
    rw [←e2]
    exact F9
end Mine
end
section
namespace Mine
variable {j0 j1 j2:Int}
theorem perm_filter {p:Int}:∀(l acc:List Int),l.foldl (fun (l:List Int) k=>if k=p then l else l++[k]) acc=acc++l.filter (fun k=>decide (k≠p)):=by
  intro u0
  induction u0 with
  | nil=>
    intro acc
    simp
  | cons a l ih=>
    intro acc
    rw [List.foldl_cons,ih]
    by_cases e:a=p
    · rw [if_pos e,List.filter_cons_of_neg (by simp [e])]
    · rw [if_neg e,List.filter_cons_of_pos (by simp [e])];simp
theorem perm_take {ns:List Int} (hn:ns.Nodup) {i:Nat} (hi:i<ns.length):ns.Perm (ns.getD i 0::ns.foldl (fun (l:List Int) k=>if k=ns.getD i 0 then l else l++[k]) []):=by
  rw [perm_filter,List.nil_append]
  have hm:ns.getD i 0∈ns:=by
    rw [List.getD_eq_getElem?_getD,List.getElem?_eq_getElem hi];exact List.getElem_mem hi
  generalize ns.getD i 0=p at hm ⊢
  have h1:=List.perm_cons_erase hm
  rw [hn.erase_eq_filter p] at h1
  refine h1.trans (List.Perm.of_eq (congrArg _ ?_))
  refine List.filter_congr fun x _=>?_
  by_cases e:x=p
  · simp [e]
  · simp [e]
noncomputable def Left (ns:List Int) (k:Nat):Prop:=ns.Nodup∧ns.length=k
theorem Left.next {ns ns':List Int} {p:Int} {k:Nat} (h:Left ns (k+1)) (e:ns.Perm (p::ns')):Left ns' k:=by
  refine ⟨(List.nodup_cons.mp (e.nodup_iff.mp h.1)).2,?_⟩
  have h1:=e.length_eq
  have h2:=h.2
  simp only [List.length_cons] at h1
  omega
theorem use_ordc {gd:Option (List Code)} {outer:List Env} {base g:Heap} {L ax:Nat} {pv:Program} {m mg mb:Str→Option Value} {mean:ExcName→Option Value} {loose:List Str} {s:Shared} {Q:Flow→Shared→Prop} {E:Value→Shared→Prop} {vs:List Value} {ns:List Int} {n k:Nat} {oc:Obj} {i:Int} {tp:Nat} {rest news:List (Addr × Obj)} (w:World) (B:Below (ar 500 5000 gd outer) base outer g) (F:Fr g L s.heap m) (X:(K w.params).In g) (T:Top pv loose mean mg mb g) (N:News g L s.heap news) (e:news=rest) (hm:m "rest"=some (.ref ax)) (mc:(L+1,oc)∈rest) (ma:(ax,listOf vs.toArray n)∈rest) (hl:Left ns (k+1)) (hi:IntsAre vs ns) (hc:oc.data= .cell (some (.int (ns.getD i.toNat 0) tp))) (hk:k<10) (h0:0≤i) (h1:i<((k+1:Nat):Int)) (h:∀h' tk' D ys ns',IntsAre ys ns'→Left ns' k→ns.Perm (ns.getD i.toNat 0::ns')→Fr g L h' (fun z=>if z= .ofString "rest" then some (.ref D) else m z)→News g L h' ((D,listOf ys.toArray ys.length)::rest)→LCg.Off1 D rest→Q .next {s with heap:=h',toks:=tk'}):
    wpAny (model pw_il0090_01 w) ((ar 500 5000 gd outer).deeper (ordEnv L)) (exec ordSt (ordEnv L)) Q E s:=by
  subst e
  have hz:vs.toArray.size≤sizeLine:=by
    have h2:=hi.length
    have h3:=hl.2
    have h4:sizeLine=16777216:=rfl
    rw [List.size_toArray];omega
  have N2:News g L s.heap ((ax,listOf vs.toArray n)::(L+1,oc)::news):=fun q hq=>by
    rcases List.mem_cons.mp hq with rfl|hq
    · exact N _ ma
    · rcases List.mem_cons.mp hq with rfl|hq
      · exact N _ mc
      · exact N _ hq
  refine ord_comp w B F X T N2 hi hz hm hc fun h' tk' D ys hy F' N' o1=>?_
  have hp:=perm_take hl.1 (i:=i.toNat) (by rw [hl.2];omega)
  refine h h' tk' D ys _ hy (hl.next hp) hp F' (fun q hq=>N' q ?_) o1.2.2
  rcases List.mem_cons.mp hq with rfl|hq
  · exact .head _
  · exact .tail _ (.tail _ (.tail _ hq))
theorem item_left {prog:Program} {w:World} {A:Around} {E:Value→Shared→Prop} {s:Shared} {value slice:PySem.Expr} {l:Addr} {vs:List Value} {ns:List Int} {n z:Nat} {k:Int} {u:Nat} {Q:Value→Shared→Prop} {g:Heap} {L:Nat} {news:List (Addr × Obj)} (N:News g L s.heap news) (ml:(l,listOf vs.toArray n)∈news) (hi:IntsAre vs ns) (hl:Left ns z) (h0:0≤k) (h1:k<(z:Int)) (hz:z<10)
    (h:∀t,Q (.int (ns.getD k.toNat 0) t) s) (hs:subscripted slice false (.ref l) (.int k u)=operate [.ref l, .int k u] (getItem (.ref l) (.int k u))):
    wpAny (model prog w) A (subscriptTail value slice (.ref l) (.int k u)) Q E s:=by
  have hll:s.heap.IsList l vs.toArray:=⟨_,(N _ ml).1,rfl,_,rfl⟩
  have hlen:=hi.length
  have h2:=hl.2
  have hk:k.toNat<ns.length:=by omega
  obtain ⟨t,ht⟩:=hi.get k.toNat ns[k.toNat] (by simp [hk])
  have e:ns.getD k.toNat 0=ns[k.toNat]:=by
    rw [List.getD_eq_getElem?_getD,List.getElem?_eq_getElem hk];rfl
  have:=h t
  rw [e] at this
  exact tail_any hll.typeIs slot_list_getitem.lookup (wpAny_getItem_list hll h0 (by omega) (by simpa using ht) this) hs
theorem perm4 {a b c d:Int} {n1 n2 n3 n4:List Int} (h1:[0,1,2,3].Perm (a::n1)) (h2:n1.Perm (b::n2)) (h3:n2.Perm (c::n3)) (h4:n3.Perm (d::n4)) (h5:Left n4 0):[0,1,2,3].Perm [a,b,c,d]:=by
  have e:n4=[]:=List.length_eq_zero_iff.mp h5.2
  subst e
  exact h1.trans ((h2.trans ((h3.trans (h4.cons _)).cons _)).cons _)
theorem ints4 {a b c d:Nat}:IntsAre [.int 0 a, .int 1 b, .int 2 c, .int 3 d] [0,1,2,3]:= .cons _ _ (.cons _ _ (.cons _ _ (.cons _ _ .nil)))
theorem left4:Left [0,1,2,3] 4:=by unfold Left;decide
end Mine
end
section
namespace Mine
variable {j0 j1 j2:Int}
theorem c_order (w:World) {n:Int} {t0:Nat}:Pure w 841 [.int n t0] 500 5000 (fun v h h'=>∃(l:Nat) (p0 p1 p2 p3:Int) (t0 t1 t2 t3 c:Nat),v= .ref l∧h'.get? l=some (listOf #[.int p0 t0, .int p1 t1, .int p2 t2, .int p3 t3] c)∧h.get? l=none∧[0,1,2,3].Perm [p0,p1,p2,p3]):=by
  intro gd outer base mean pv mg mb loose s Q E Bw X T hret
  have eK:rw_il0090_01=rw_il0090_01:=rfl
  revert eK X
  k_fill
  intro X eK
  refine wpAny_call ?_
  k_dflt (refine' own_enterC (chg:=[]) ?k1 ?k2 ?k3 ?k4 ?k6 ?k7 ?k8 ?k9 ?kB ?kD ?_ ?c2 ?c3 ?c4;(case k1=>exact Bw);(case k2=>exact fun _ h=>nomatch h);(case k3=>exact X);(case k4=>exact T);(case k6=>k_is);(case k7=>k_is);(case k8=>exact Nat.le_of_ble_eq_true rfl);(case k9=>first|exact BindsTo.of_eq rfl|exact binds_K X rfl (by k_is) rfl rfl rfl);(case kB=>exact rfl);(case kD=>decide+kernel);(case c2=>exact rfl);(case c3=>exact rfl);(case c4=>exact rfl);k_whole;intro g' L' h' tk' cells' hg' hL' F' N' Y' B' X' T' hlt';clear X T Bw;k_cells Y';(try simp only [List.cons_append,List.nil_append] at N');(try dsimp only);(try k_fold))
  have hgs:g'=s.heap:=hg'
  subst hgs
  clear hg'
  (try (refine let_ctx ?_;intro A9 e9))
  repeat' (first|(k_unfold;(try dsimp only))|((fail_if_success (fail_if_success (with_reducible refine is_exec ?_)));first|((with_reducible show wpAny _ _ (exec (Stmt.Assign _ (PySem.Expr.ListComp ..) _) _) _ _ _);(k_here;k_dflt (with_unfolding_all (refine' use_ordc _ (by k_asm) (by k_asm) (by k_asm) (by k_asm) (by k_asm) rfl (by exact rfl) (by k_mem) (by k_mem) (by first|assumption|exact left4) (by first|assumption|exact ints4) (by assumption) (by decide) (by exact Int.fmod_nonneg_of_pos _ (by decide)) (by exact Int.fmod_lt_of_pos _ (by decide)) ?_);k_whole);intro h' tk' D' ys' ns' hI' hE' hp' F' N' o1';(try simp only [LCg.Off1,and_true] at o1'))))|(k_here;(with_reducible show wpAny _ _ (subscriptTail _ _ (Value.ref _) (Value.int _ _)) _ _ _);k_dflt (refine' item_left (by k_asm) (by k_mem) (by first|assumption|exact ints4) (by first|assumption|exact left4) (by exact Int.fmod_nonneg_of_pos _ (by decide)) (by exact Int.fmod_lt_of_pos _ (by decide)) (by decide) ?_ (by with_unfolding_all rfl);k_whole);intro t9')|(k_end;kc_close)|walk1|(dsimp only;walk1)|(leave1;(try dsimp only)))
  show Q _ _
  rename Fr _ _ _ _=>F9
  rename News _ _ _ _=>N9
  rename Left _ 0=>hE0
  refine hret _ _ _ F9.keep ⟨_,_,_,_,_,_,_,_,_,_,rfl,News.get N9 (by k_mem),News.fresh N9 (by k_mem),?_⟩
  exact perm4 (by assumption) (by assumption) (by assumption) (by assumption) hE0
end Mine
end
end
section
namespace Mine
open Mine.Re
variable {w:World} {gd:Option (List Code)} {outer:List Env} {base g:Heap} {L:Nat} {pv:Program} {mg mb:Str→Option Value} {mean:ExcName→Option Value} {loose:List Str} {s:Shared}
theorem sh_more {A:Around} {rs pr tt c:Nat} {r:List Nat} {oth:Str→Option Value} {Q:Bool→Shared→Prop} {E:Value→Shared→Prop} (F:Fr g L s.heap (SM rs pr (.str (tx (c::r)) tt) oth)) (hz:(c::r).length≤100000) (h:∀k,Q true {s with toks:=k}):
    wpAny (model pw_il0090_01 w) A (isTrue shT (shEnv L) (eval shT (shEnv L))) Q E s:=by
  with_unfolding_all show wpAny _ _ (isTrue (Expr.Name _ _) (envOf _ ⟨_,_,_,_,_⟩ _ _ _) (eval (Expr.Name _ _) (envOf _ ⟨_,_,_,_,_⟩ _ _ _))) _ _ _
  (try (refine let_ctx ?_;intro A9 e9))
  repeat' (first|(k_unfold;(try dsimp only))|(k_end;kc_close)|walk1|(dsimp only;walk1)|(leave1;(try dsimp only)))
  refine P.truthy_str (by rw [tx_len];omega) ?_
  have e:(((tx (c::r)).length:Int) !=0)=true:=by rw [tx_len];simp;omega
  rw [e];exact h _
theorem sh_done {A:Around} {rs pr tt:Nat} {oth:Str→Option Value} {Q:Bool→Shared→Prop} {E:Value→Shared→Prop} (F:Fr g L s.heap (SM rs pr (.str (tx []) tt) oth)) (h:∀k,Q false {s with toks:=k}):
    wpAny (model pw_il0090_01 w) A (isTrue shT (shEnv L) (eval shT (shEnv L))) Q E s:=by
  with_unfolding_all show wpAny _ _ (isTrue (Expr.Name _ _) (envOf _ ⟨_,_,_,_,_⟩ _ _ _) (eval (Expr.Name _ _) (envOf _ ⟨_,_,_,_,_⟩ _ _ _))) _ _ _
  (try (refine let_ctx ?_;intro A9 e9))
  repeat' (first|(k_unfold;(try dsimp only))|(k_end;kc_close)|walk1|(dsimp only;walk1)|(leave1;(try dsimp only)))
  refine P.truthy_str (by rw [tx_len];decide) ?_
  exact h _
noncomputable abbrev shW (w:World) (A:Around) (E:Value→Shared→Prop) (L:Nat) (Q:Flow→Shared→Prop) (s:Shared):Prop:=WhlRest pw_il0090_01 w A E (shEnv L) shT shB [] Q 1 s
theorem sh_go {A:Around} {E:Value→Shared→Prop} {Q:Flow→Shared→Prop} {rs pr tt c:Nat} {r:List Nat} {oth:Str→Option Value} (hE:PassesOwn (model pw_il0090_01 w) A (shEnv L) E) (F:Fr g L s.heap (SM rs pr (.str (tx (c::r)) tt) oth)) (hz:(c::r).length≤100000)
    (h:∀k,wpAny (model pw_il0090_01 w) A (execs shB (shEnv L)) (WhlPost pw_il0090_01 w A E (shEnv L) shT shB [] Q 1) E {s with toks:=k}):shW w A E L Q s:=
  whl_turn hE (sh_more F hz fun k=>WhlIf.yes rfl (h k))
theorem sh_end {A:Around} {E:Value→Shared→Prop} {Q:Flow→Shared→Prop} {rs pr tt:Nat} {oth:Str→Option Value} (hE:PassesOwn (model pw_il0090_01 w) A (shEnv L) E) (F:Fr g L s.heap (SM rs pr (.str (tx []) tt) oth))
    (h:∀k,Q .next {s with toks:=k}):shW w A E L Q s:=
  whl_turn hE (sh_done F fun k=>WhlIf.no rfl (wpAny_execs_nil (h k)))
end Mine
end
section
local macro_rules | `(tactic|omega)=> `(tactic|first|decide|lia)
section
namespace Mine
open Mine.Re
variable {w:World} {gd:Option (List Code)} {outer:List Env} {base g:Heap} {L:Nat} {pv:Program} {m mg mb:Str→Option Value} {mean:ExcName→Option Value} {loose:List Str} {s:Shared} {Q:Flow→Shared→Prop} {E:Value→Shared→Prop}
    {rs pr it hl cA tt p0 p1:Nat} {ito hlo oA:Obj} {ps:Array Value} {l:List Nat} {pos:Pos}
theorem use_sh0 (F:Fr g L s.heap m) (N:News g L s.heap [(pr,lstO #[] p0),(it,ito),(rs,lstO #[] p1),(hl,hlo),(78,tabObj ps),(cA,oA)]) (X:(K w.params).In g) (T:Top pv loose mean mg mb g) (B:Below (ar 540 5600 gd outer) base outer g)
    (h1:m "text"=some (.str (tx (107::61::34::(Es l++[34]))) tt)) (h2:m "pairs"=some (.ref pr)) (h3:m "result"=some (.ref rs)) (hE:PassesOwn (model pw_il0090_01 w) ((ar 540 5600 gd outer).deeper (shEnv L)) (shEnv L) E)
    (hT:TabL 30 49 "split_header_words.<locals>.<lambda>" ps cA oA) (hz:l.length≤20000) (h10:∀c∈l,c≠10) (q0:@Ne Nat pr rs) (q1:@Ne Nat pr hl) (q2:@Ne Nat pr it) (q3:@Ne Nat pr 78) (q4:@Ne Nat pr cA) (q5:@Ne Nat rs hl) (q6:@Ne Nat rs it) (q7:@Ne Nat rs 78) (q8:@Ne Nat rs cA) (q9:@Ne Nat hl 78) (q10:@Ne Nat it 78) (q11:@Ne Nat hl cA) (q12:@Ne Nat it cA) (q13:@Ne Nat cA 78)
    (hret:∀(h':Heap) (tk':Nat) (D c' k1 k2 t':Nat) (oc':Obj) (ps':Array Value) (oth':Str→Option Value),Fr g L h' (SM rs pr (.str (tx []) t') oth')→TabL 30 49 "split_header_words.<locals>.<lambda>" ps' c' oc'→News g L h' [(pr,lstO #[.ref D] (p0+1)),(D,tupO [.str (tx [107]) k1, .str (tx l) k2]),(rs,lstO #[] p1),(hl,hlo),(it,ito),(78,tabObj ps'),(c',oc'),(cA,oA)]→@Ne Nat D pr→@Ne Nat D rs→@Ne Nat D hl→@Ne Nat D it→@Ne Nat D 78→@Ne Nat D cA→@Ne Nat D c'→@Ne Nat c' pr→@Ne Nat c' rs→@Ne Nat c' hl→@Ne Nat c' it→@Ne Nat c' 78→Q .next {s with heap:=h',toks:=tk'}):
    wpAny (model pw_il0090_01 w) ((ar 540 5600 gd outer).deeper (shEnv L)) (exec (.While shT shB [] pos) (shEnv L)) Q E s:=by
  have hes:=es_len l
  obtain ⟨oth,F⟩:=fr_sm F h1 h2 h3
  refine whl_start 1 (sh_go hE F (by simp only [List.length_cons,List.length_append,List.length_nil];omega) fun k=>?_)
  refine ShA w (s:={s with toks:=k}) (e1:=hl) (e2:=it) (e3:=hl) (xs:=#[]) (ys:=#[]) (rest:=[]) B F X T (newsC (by k_mem) N (newsC (by k_mem) N (newsC (by k_mem) N (newsC (by k_mem) N (newsC (by k_mem) N (newsC (by k_mem) N (newsC (by k_mem) N (News.nil)))))))) hT hz (by decide) h10 (by simp) (by first|assumption|(exact Ne.symm (by assumption))) (by first|assumption|(exact Ne.symm (by assumption))) (by first|assumption|(exact Ne.symm (by assumption))) (by first|assumption|(exact Ne.symm (by assumption))) (by first|assumption|(exact Ne.symm (by assumption))) (by first|assumption|(exact Ne.symm (by assumption))) (by first|assumption|(exact Ne.symm (by assumption))) (by first|assumption|(exact Ne.symm (by assumption))) (by first|assumption|(exact Ne.symm (by assumption))) (by first|assumption|(exact Ne.symm (by assumption))) (by first|assumption|(exact Ne.symm (by assumption))) (by first|assumption|(exact Ne.symm (by assumption))) (by first|assumption|(exact Ne.symm (by assumption))) (by first|assumption|(exact Ne.symm (by assumption))) (by first|assumption|(exact Ne.symm (by assumption))) ?_
  intro ha tka D c' k1 k2 t' oc' ps' otha F hT Na fa0 fa1 fa2 fa3 fa4 fa5 fa6 fa7 fa8 fa9 fa10 fa11 fa12 fa13
  have Nz:News g L ha [(pr,lstO #[.ref D] (p0+1)),(D,tupO [.str (tx [107]) k1, .str (tx l) k2]),(rs,lstO #[] p1),(hl,hlo),(it,ito),(hl,hlo),(78,tabObj ps'),(c',oc'),(cA,oA)]:=Na
  refine sh_end hE F fun k=>?_
  exact hret _ k D c' k1 k2 t' oc' ps' _ F hT (newsC (by k_mem) Nz (newsC (by k_mem) Nz (newsC (by k_mem) Nz (newsC (by k_mem) Nz (newsC (by k_mem) Nz (newsC (by k_mem) Nz (newsC (by k_mem) Nz (newsC (by k_mem) Nz (News.nil))))))))) (by first|assumption|(exact Ne.symm (by assumption))) (by first|assumption|(exact Ne.symm (by assumption))) (by first|assumption|(exact Ne.symm (by assumption))) (by first|assumption|(exact Ne.symm (by assumption))) (by first|assumption|(exact Ne.symm (by assumption))) (by first|assumption|(exact Ne.symm (by assumption))) (by first|assumption|(exact Ne.symm (by assumption))) (by first|assumption|(exact Ne.symm (by assumption))) (by first|assumption|(exact Ne.symm (by assumption))) (by first|assumption|(exact Ne.symm (by assumption))) (by first|assumption|(exact Ne.symm (by assumption))) (by first|assumption|(exact Ne.symm (by assumption)))
theorem use_sh1 (F:Fr g L s.heap m) (N:News g L s.heap [(pr,lstO #[] p0),(it,ito),(rs,lstO #[] p1),(hl,hlo),(78,tabObj ps),(cA,oA)]) (X:(K w.params).In g) (T:Top pv loose mean mg mb g) (B:Below (ar 540 5600 gd outer) base outer g)
    (h1:m "text"=some (.str (tx (110::59::32::107::61::34::(Es l++[34]))) tt)) (h2:m "pairs"=some (.ref pr)) (h3:m "result"=some (.ref rs)) (hE:PassesOwn (model pw_il0090_01 w) ((ar 540 5600 gd outer).deeper (shEnv L)) (shEnv L) E)
    (hT:TabL 30 49 "split_header_words.<locals>.<lambda>" ps cA oA) (hz:l.length≤20000) (h10:∀c∈l,c≠10) (q0:@Ne Nat pr rs) (q1:@Ne Nat pr hl) (q2:@Ne Nat pr it) (q3:@Ne Nat pr 78) (q4:@Ne Nat pr cA) (q5:@Ne Nat rs hl) (q6:@Ne Nat rs it) (q7:@Ne Nat rs 78) (q8:@Ne Nat rs cA) (q9:@Ne Nat hl 78) (q10:@Ne Nat it 78) (q11:@Ne Nat hl cA) (q12:@Ne Nat it cA) (q13:@Ne Nat cA 78)
    (hret:∀(h':Heap) (tk':Nat) (D0 D c' k0 k1 k2 t':Nat) (oc':Obj) (ps':Array Value) (oth':Str→Option Value),Fr g L h' (SM rs pr (.str (tx []) t') oth')→TabL 30 49 "split_header_words.<locals>.<lambda>" ps' c' oc'→News g L h' [(pr,lstO #[.ref D0, .ref D] (p0+1+1)),(D0,tupO [.str (tx [110]) k0, .none]),(D,tupO [.str (tx [107]) k1, .str (tx l) k2]),(rs,lstO #[] p1),(hl,hlo),(it,ito),(78,tabObj ps'),(c',oc'),(cA,oA)]→@Ne Nat D0 pr→@Ne Nat D0 rs→@Ne Nat D0 hl→@Ne Nat D0 it→@Ne Nat D0 78→@Ne Nat D0 cA→@Ne Nat D D0→@Ne Nat c' D0→@Ne Nat D pr→@Ne Nat D rs→@Ne Nat D hl→@Ne Nat D it→@Ne Nat D 78→@Ne Nat D cA→@Ne Nat D c'→@Ne Nat c' pr→@Ne Nat c' rs→@Ne Nat c' hl→@Ne Nat c' it→@Ne Nat c' 78→Q .next {s with heap:=h',toks:=tk'}):
    wpAny (model pw_il0090_01 w) ((ar 540 5600 gd outer).deeper (shEnv L)) (exec (.While shT shB [] pos) (shEnv L)) Q E s:=by
  have hes:=es_len l
  obtain ⟨oth,F⟩:=fr_sm F h1 h2 h3
  refine whl_start 1 (sh_go hE F (by simp only [List.length_cons,List.length_append,List.length_nil];omega) fun k=>?_)
  refine ShB w (s:={s with toks:=k}) (e1:=hl) (e2:=it) (e3:=78) (e4:=cA) (xs:=#[]) (ys:=#[]) (r:=107::61::34::(Es l++[34])) B F X T (newsC (by k_mem) N (newsC (by k_mem) N (newsC (by k_mem) N (newsC (by k_mem) N (newsC (by k_mem) N (newsC (by k_mem) N (News.nil))))))) (by simp only [List.length_cons,List.length_append,List.length_nil];omega) (by simp) (by simp) (by first|assumption|(exact Ne.symm (by assumption))) (by first|assumption|(exact Ne.symm (by assumption))) (by first|assumption|(exact Ne.symm (by assumption))) (by first|assumption|(exact Ne.symm (by assumption))) (by first|assumption|(exact Ne.symm (by assumption))) ?_
  intro hb tkb D0 k0 t0 othb F Nb fb0 fb1 fb2 fb3 fb4 fb5
  have Ny:News g L hb [(pr,lstO #[.ref D0] (p0+1)),(D0,tupO [.str (tx [110]) k0, .none]),(rs,lstO #[] p1),(hl,hlo),(it,ito),(78,tabObj ps),(cA,oA)]:=Nb
  refine sh_go hE F (by simp only [List.length_cons,List.length_append,List.length_nil];omega) fun k=>?_
  refine ShC w (s:={s with heap:=hb,toks:=k}) (e1:=hl) (e2:=it) (e3:=D0) (e4:=78) (e5:=cA) (xs:=#[.ref D0]) (ys:=#[]) (r:=61::34::(Es l++[34])) B F X T (newsC (by k_mem) Ny (newsC (by k_mem) Ny (newsC (by k_mem) Ny (newsC (by k_mem) Ny (newsC (by k_mem) Ny (newsC (by k_mem) Ny (newsC (by k_mem) Ny (News.nil)))))))) (by simp only [List.length_cons,List.length_append,List.length_nil];omega) ?_
  intro hc tkc t1 othc F Nc 
  refine sh_go hE F (by simp only [List.length_cons,List.length_append,List.length_nil];omega) fun k=>?_
  refine ShA w (s:={s with heap:=hc,toks:=k}) (e1:=hl) (e2:=it) (e3:=D0) (xs:=#[.ref D0]) (ys:=#[]) (rest:=[]) B F X T (newsC (by k_mem) Nc (newsC (by k_mem) Nc (newsC (by k_mem) Nc (newsC (by k_mem) Nc (newsC (by k_mem) Nc (newsC (by k_mem) Nc (newsC (by k_mem) Nc (News.nil)))))))) hT hz (by decide) h10 (by simp) (by first|assumption|(exact Ne.symm (by assumption))) (by first|assumption|(exact Ne.symm (by assumption))) (by first|assumption|(exact Ne.symm (by assumption))) (by first|assumption|(exact Ne.symm (by assumption))) (by first|assumption|(exact Ne.symm (by assumption))) (by first|assumption|(exact Ne.symm (by assumption))) (by first|assumption|(exact Ne.symm (by assumption))) (by first|assumption|(exact Ne.symm (by assumption))) (by first|assumption|(exact Ne.symm (by assumption))) (by first|assumption|(exact Ne.symm (by assumption))) (by first|assumption|(exact Ne.symm (by assumption))) (by first|assumption|(exact Ne.symm (by assumption))) (by first|assumption|(exact Ne.symm (by assumption))) (by first|assumption|(exact Ne.symm (by assumption))) (by first|assumption|(exact Ne.symm (by assumption))) ?_
  intro ha tka D c' k1 k2 t' oc' ps' otha F hT Na fa0 fa1 fa2 fa3 fa4 fa5 fa6 fa7 fa8 fa9 fa10 fa11 fa12 fa13
  have Nz:News g L ha [(pr,lstO #[.ref D0, .ref D] (p0+1+1)),(D,tupO [.str (tx [107]) k1, .str (tx l) k2]),(rs,lstO #[] p1),(hl,hlo),(it,ito),(D0,tupO [.str (tx [110]) k0, .none]),(78,tabObj ps'),(c',oc'),(cA,oA)]:=Na
  refine sh_end hE F fun k=>?_
  exact hret _ k D0 D c' k0 k1 k2 t' oc' ps' _ F hT (newsC (by k_mem) Nz (newsC (by k_mem) Nz (newsC (by k_mem) Nz (newsC (by k_mem) Nz (newsC (by k_mem) Nz (newsC (by k_mem) Nz (newsC (by k_mem) Nz (newsC (by k_mem) Nz (newsC (by k_mem) Nz (News.nil)))))))))) (by first|assumption|(exact Ne.symm (by assumption))) (by first|assumption|(exact Ne.symm (by assumption))) (by first|assumption|(exact Ne.symm (by assumption))) (by first|assumption|(exact Ne.symm (by assumption))) (by first|assumption|(exact Ne.symm (by assumption))) (by first|assumption|(exact Ne.symm (by assumption))) (by first|assumption|(exact Ne.symm (by assumption))) (by first|assumption|(exact Ne.symm (by assumption))) (by first|assumption|(exact Ne.symm (by assumption))) (by first|assumption|(exact Ne.symm (by assumption))) (by first|assumption|(exact Ne.symm (by assumption))) (by first|assumption|(exact Ne.symm (by assumption))) (by first|assumption|(exact Ne.symm (by assumption))) (by first|assumption|(exact Ne.symm (by assumption))) (by first|assumption|(exact Ne.symm (by assumption))) (by first|assumption|(exact Ne.symm (by assumption))) (by first|assumption|(exact Ne.symm (by assumption))) (by first|assumption|(exact Ne.symm (by assumption))) (by first|assumption|(exact Ne.symm (by assumption))) (by first|assumption|(exact Ne.symm (by assumption)))
theorem use_sh2 (F:Fr g L s.heap m) (N:News g L s.heap [(pr,lstO #[] p0),(it,ito),(rs,lstO #[] p1),(hl,hlo),(78,tabObj ps),(cA,oA)]) (X:(K w.params).In g) (T:Top pv loose mean mg mb g) (B:Below (ar 540 5600 gd outer) base outer g)
    (h1:m "text"=some (.str (tx (107::61::34::(Es l++34::[44,32,109,61,55]))) tt)) (h2:m "pairs"=some (.ref pr)) (h3:m "result"=some (.ref rs)) (hE:PassesOwn (model pw_il0090_01 w) ((ar 540 5600 gd outer).deeper (shEnv L)) (shEnv L) E)
    (hT:TabL 30 49 "split_header_words.<locals>.<lambda>" ps cA oA) (hz:l.length≤20000) (h10:∀c∈l,c≠10) (q0:@Ne Nat pr rs) (q1:@Ne Nat pr hl) (q2:@Ne Nat pr it) (q3:@Ne Nat pr 78) (q4:@Ne Nat pr cA) (q5:@Ne Nat rs hl) (q6:@Ne Nat rs it) (q7:@Ne Nat rs 78) (q8:@Ne Nat rs cA) (q9:@Ne Nat hl 78) (q10:@Ne Nat it 78) (q11:@Ne Nat hl cA) (q12:@Ne Nat it cA) (q13:@Ne Nat cA 78)
    (hret:∀(h':Heap) (tk':Nat) (D D1 p2 p3 c' k1 k2 k3 k4 t':Nat) (oc':Obj) (ps':Array Value) (oth':Str→Option Value),Fr g L h' (SM rs p2 (.str (tx []) t') oth')→TabL 30 49 "split_header_words.<locals>.<lambda>" ps' c' oc'→News g L h' [(p2,lstO #[.ref D1] (p3+1)),(D1,tupO [.str (tx [109]) k3, .str (tx [55]) k4]),(pr,lstO #[.ref D] (p0+1)),(D,tupO [.str (tx [107]) k1, .str (tx l) k2]),(rs,lstO #[.ref pr] (p1+1)),(hl,hlo),(it,ito),(78,tabObj ps'),(c',oc'),(cA,oA)]→@Ne Nat D pr→@Ne Nat D rs→@Ne Nat D hl→@Ne Nat D it→@Ne Nat D 78→@Ne Nat D cA→@Ne Nat D c'→@Ne Nat c' pr→@Ne Nat c' rs→@Ne Nat c' hl→@Ne Nat c' it→@Ne Nat c' 78→@Ne Nat p2 pr→@Ne Nat p2 rs→@Ne Nat p2 hl→@Ne Nat p2 it→@Ne Nat p2 D→@Ne Nat p2 78→@Ne Nat p2 c'→@Ne Nat p2 cA→@Ne Nat D1 p2→@Ne Nat D1 rs→@Ne Nat D1 hl→@Ne Nat D1 it→@Ne Nat D1 D→@Ne Nat D1 pr→@Ne Nat D1 78→@Ne Nat D1 c'→@Ne Nat D1 cA→Q .next {s with heap:=h',toks:=tk'}):
    wpAny (model pw_il0090_01 w) ((ar 540 5600 gd outer).deeper (shEnv L)) (exec (.While shT shB [] pos) (shEnv L)) Q E s:=by
  have hes:=es_len l
  obtain ⟨oth,F⟩:=fr_sm F h1 h2 h3
  refine whl_start 1 (sh_go hE F (by simp only [List.length_cons,List.length_append,List.length_nil];omega) fun k=>?_)
  refine ShA w (s:={s with toks:=k}) (e1:=hl) (e2:=it) (e3:=hl) (xs:=#[]) (ys:=#[]) (rest:=[44,32,109,61,55]) B F X T (newsC (by k_mem) N (newsC (by k_mem) N (newsC (by k_mem) N (newsC (by k_mem) N (newsC (by k_mem) N (newsC (by k_mem) N (newsC (by k_mem) N (News.nil)))))))) hT hz (by decide) h10 (by simp) (by first|assumption|(exact Ne.symm (by assumption))) (by first|assumption|(exact Ne.symm (by assumption))) (by first|assumption|(exact Ne.symm (by assumption))) (by first|assumption|(exact Ne.symm (by assumption))) (by first|assumption|(exact Ne.symm (by assumption))) (by first|assumption|(exact Ne.symm (by assumption))) (by first|assumption|(exact Ne.symm (by assumption))) (by first|assumption|(exact Ne.symm (by assumption))) (by first|assumption|(exact Ne.symm (by assumption))) (by first|assumption|(exact Ne.symm (by assumption))) (by first|assumption|(exact Ne.symm (by assumption))) (by first|assumption|(exact Ne.symm (by assumption))) (by first|assumption|(exact Ne.symm (by assumption))) (by first|assumption|(exact Ne.symm (by assumption))) (by first|assumption|(exact Ne.symm (by assumption))) ?_
  intro ha tka D c' k1 k2 t0 oc' ps' otha F hT Na fa0 fa1 fa2 fa3 fa4 fa5 fa6 fa7 fa8 fa9 fa10 fa11 fa12 fa13
  have Nx:News g L ha [(pr,lstO #[.ref D] (p0+1)),(D,tupO [.str (tx [107]) k1, .str (tx l) k2]),(rs,lstO #[] p1),(hl,hlo),(it,ito),(hl,hlo),(78,tabObj ps'),(c',oc'),(cA,oA)]:=Na
  refine sh_go hE F (by decide) fun k=>?_
  refine ShD w (s:={s with heap:=ha,toks:=k}) (e1:=hl) (e2:=it) (e3:=D) (e4:=78) (e5:=c') (e6:=cA) (x0:=D) B F X T (newsC (by k_mem) Nx (newsC (by k_mem) Nx (newsC (by k_mem) Nx (newsC (by k_mem) Nx (newsC (by k_mem) Nx (newsC (by k_mem) Nx (newsC (by k_mem) Nx (newsC (by k_mem) Nx (News.nil))))))))) (by first|assumption|(exact Ne.symm (by assumption))) (by first|assumption|(exact Ne.symm (by assumption))) (by first|assumption|(exact Ne.symm (by assumption))) (by first|assumption|(exact Ne.symm (by assumption))) (by first|assumption|(exact Ne.symm (by assumption))) (by first|assumption|(exact Ne.symm (by assumption))) (by first|assumption|(exact Ne.symm (by assumption))) ?_
  intro hd tkd p2 p3 t1 othd F Nd fd0 fd1 fd2 fd3 fd4 fd5 fd6 fd7
  have Ny:News g L hd [(p2,lstO #[] p3),(pr,lstO #[.ref D] (p0+1)),(rs,lstO #[.ref pr] (p1+1)),(hl,hlo),(it,ito),(D,tupO [.str (tx [107]) k1, .str (tx l) k2]),(78,tabObj ps'),(c',oc'),(cA,oA)]:=Nd
  refine sh_go hE F (by decide) fun k=>?_
  refine ShE w (s:={s with heap:=hd,toks:=k}) (e1:=hl) (e2:=it) (e3:=D) (e4:=pr) (e5:=78) (e6:=c') (e7:=cA) (xs:=#[]) (ys:=#[.ref pr]) B F X T (newsC (by k_mem) Ny (newsC (by k_mem) Ny (newsC (by k_mem) Ny (newsC (by k_mem) Ny (newsC (by k_mem) Ny (newsC (by k_mem) Ny (newsC (by k_mem) Ny (newsC (by k_mem) Ny (newsC (by k_mem) Ny (News.nil)))))))))) (by decide) (by first|assumption|(exact Ne.symm (by assumption))) (by first|assumption|(exact Ne.symm (by assumption))) (by first|assumption|(exact Ne.symm (by assumption))) (by first|assumption|(exact Ne.symm (by assumption))) (by first|assumption|(exact Ne.symm (by assumption))) (by first|assumption|(exact Ne.symm (by assumption))) (by first|assumption|(exact Ne.symm (by assumption))) (by first|assumption|(exact Ne.symm (by assumption))) ?_
  intro hf tke D1 k3 k4 t' othe F Nf fe0 fe1 fe2 fe3 fe4 fe5 fe6 fe7 fe8
  have Nz:News g L hf [(p2,lstO #[.ref D1] (p3+1)),(D1,tupO [.str (tx [109]) k3, .str (tx [55]) k4]),(rs,lstO #[.ref pr] (p1+1)),(hl,hlo),(it,ito),(D,tupO [.str (tx [107]) k1, .str (tx l) k2]),(pr,lstO #[.ref D] (p0+1)),(78,tabObj ps'),(c',oc'),(cA,oA)]:=Nf
  refine sh_end hE F fun k=>?_
  exact hret _ k D D1 p2 p3 c' k1 k2 k3 k4 t' oc' ps' _ F hT (newsC (by k_mem) Nz (newsC (by k_mem) Nz (newsC (by k_mem) Nz (newsC (by k_mem) Nz (newsC (by k_mem) Nz (newsC (by k_mem) Nz (newsC (by k_mem) Nz (newsC (by k_mem) Nz (newsC (by k_mem) Nz (newsC (by k_mem) Nz (News.nil))))))))))) (by first|assumption|(exact Ne.symm (by assumption))) (by first|assumption|(exact Ne.symm (by assumption))) (by first|assumption|(exact Ne.symm (by assumption))) (by first|assumption|(exact Ne.symm (by assumption))) (by first|assumption|(exact Ne.symm (by assumption))) (by first|assumption|(exact Ne.symm (by assumption))) (by first|assumption|(exact Ne.symm (by assumption))) (by first|assumption|(exact Ne.symm (by assumption))) (by first|assumption|(exact Ne.symm (by assumption))) (by first|assumption|(exact Ne.symm (by assumption))) (by first|assumption|(exact Ne.symm (by assumption))) (by first|assumption|(exact Ne.symm (by assumption))) (by first|assumption|(exact Ne.symm (by assumption))) (by first|assumption|(exact Ne.symm (by assumption))) (by first|assumption|(exact Ne.symm (by assumption))) (by first|assumption|(exact Ne.symm (by assumption))) (by first|assumption|(exact Ne.symm (by assumption))) (by first|assumption|(exact Ne.symm (by assumption))) (by first|assumption|(exact Ne.symm (by assumption))) (by first|assumption|(exact Ne.symm (by assumption))) (by first|assumption|(exact Ne.symm (by assumption))) (by first|assumption|(exact Ne.symm (by assumption))) (by first|assumption|(exact Ne.symm (by assumption))) (by first|assumption|(exact Ne.symm (by assumption))) (by first|assumption|(exact Ne.symm (by assumption))) (by first|assumption|(exact Ne.symm (by assumption))) (by first|assumption|(exact Ne.symm (by assumption))) (by first|assumption|(exact Ne.symm (by assumption))) (by first|assumption|(exact Ne.symm (by assumption)))
theorem fresh_hide {g h:Heap} {ads:List Addr} {c:Addr} (hg:g=hideAll h ads) (hn:g.get? c=none) (ha:∀a∈ads,@Ne Nat a c):h.get? c=none:=by
  rcases or_fresh (cA:=h.objs.size) hg hn (fun a m=> .inl (ha a m)) with e|e
  · rw [e]
    cases z:h.get? h.objs.size with
    | none=>rfl
    | some o=>exact absurd (Heap.lt_size z) (Nat.lt_irrefl _)
  · exact e
end Mine
end
section
namespace Mine
open Mine.Re
theorem c_sh0 (w:World) {cA hl u1 n1:Nat} {l:List Nat} {ps:Array Value} {oA:Obj} {pv:Program}
    (Bh:Below (ar 540 5600 gd outer) base outer (hideAll s.heap [hl,78,cA])) (XB:(K w.params).In base) (TB:Top pv loose mean mg mb base)
    (hg0:s.heap.get? hl=some (lstO #[.str (tx (107::61::34::(Es l++[34]))) u1] n1)) (hg1:s.heap.get? 78=some (tabObj ps)) (hg2:s.heap.get? cA=some (oA)) (hT:TabL 30 49 "split_header_words.<locals>.<lambda>" ps cA oA) (hz:l.length≤20000) (h10:∀c∈l,c≠10) (q0:@Ne Nat hl 78) (r0:@Ne Nat hl cA) (q9:@Ne Nat cA 78)
    (hret:∀(h':Heap) (tk' rs pr D a1 a2 a3 a4 cA':Nat) (oA':Obj) (ps':Array Value),h'.get? rs=some (lstO #[.ref pr] a4)→h'.get? pr=some (lstO #[.ref D] a3)→h'.get? D=some (tupO [.str (tx [107]) a1, .str (tx l) a2])→s.heap.get? rs=none→s.heap.get? pr=none→s.heap.get? D=none→@Ne Nat rs pr→@Ne Nat rs D→@Ne Nat pr D→@Ne Nat rs cA'→@Ne Nat pr cA'→@Ne Nat D cA'→h'.get? 78=some (tabObj ps')→h'.get? cA'=some oA'→TabL 30 49 "split_header_words.<locals>.<lambda>" ps' cA' oA'→(cA'=cA∨s.heap.get? cA'=none)→@Ne Nat cA' 78→(∀b o,b≠78→s.heap.get? b=some o→h'.get? b=some o)→Q (.ref rs) {s with heap:=h',toks:=tk'}):
    wpAny (model pw_il0090_01 w) (ar 540 5600 gd outer) (call (.ref 83) [.ref hl]) Q E s:=by
  have X:=XB.keeps Bh.stays
  have T:=TB.keeps Bh.stays
  have eK:rw_il0090_01=rw_il0090_01:=rfl
  revert eK X XB
  k_fill
  intro X XB eK
  refine wpAny_call ?_
  k_dflt (refine' own_enter (chg:=[(hl,lstO #[.str (tx (107::61::34::(Es l++[34]))) u1] n1),(78,tabObj ps),(cA,oA)]) ?k1 ?k2 ?k3 ?k4 ?k6 ?k7 ?k8 ?k9 ?kB ?_ ?c2 ?c3 ?c4 ?c5;(case k1=>exact Bh);(case k2=>(intro q hq;simp only [List.mem_cons,List.not_mem_nil,or_false] at hq;rcases hq with rfl|rfl|rfl;exact hg0;exact hg1;exact hg2));(case k3=>exact XB);(case k4=>exact T);(case k6=>k_is);(case k7=>k_is);(case k8=>exact Nat.le_of_ble_eq_true rfl);(case k9=>first|exact BindsTo.of_eq rfl|exact binds_K (Frag.In.keeps XB fun b o e=>of_hideAll _ e) rfl (by k_is) rfl rfl rfl);(case c5=>decide);(case kB=>exact locs rfl);(case c2=>exact rfl);(case c3=>exact rfl);(case c4=>exact rfl);k_whole;intro g' L' h' hg' hL' F' N' B' X' T' hlt';clear X XB T TB Bh;(try dsimp only);(try k_fold))
  (try (refine let_ctx ?_;intro A9 e9))
  repeat' (first|(k_unfold;(try dsimp only))|((fail_if_success (fail_if_success (with_reducible refine is_exec ?_)));first|((with_reducible show wpAny _ _ (exec (Stmt.While ..) _) _ _ _);(k_dflt (with_unfolding_all (refine' use_sh0 (l:=_) (by k_asm) (by k_asm) (by k_asm) (by k_asm) (by k_asm) (by exact rfl) (by exact rfl) (by exact rfl) (by with_unfolding_all passes_own) (by assumption) (by assumption) (by assumption) (by k_ne) (by k_ne) (by k_ne) (by k_ne) (by k_ne) (by k_ne) (by k_ne) (by k_ne) (by k_ne) (by k_ne) (by k_ne) (by k_ne) (by k_ne) (by k_ne) ?_));intro h' tk' D' c' k1' k2' t' oc' ps' oth' F' hT' N' f0' f1' f2' f3' f4' f5' f6' f7' f8' f9' f10' f11')))|(k_end;kc_close)|walk1|(dsimp only;walk1)|(leave1;(try dsimp only)))
  show Q _ _
  rename Fr _ _ _ _=>F9
  rename News _ _ _ _=>N9
  clear hT
  rename TabL _ _ _ _ _ _=>hT9
  refine' hret _ _ _ _ _ _ _ _ _ _ _ _ ?e0 ?e1 ?e2 ?g0 ?g1 ?g2 ?w0 ?w1 ?w2 ?w3 ?w4 ?w5 ?a ?b hT9 ?c ?d ?e
  case e0=>exact News.get N9 (by k_mem)
  case e1=>exact News.get N9 (by k_mem)
  case e2=>exact News.get N9 (by k_mem)
  case g0=>exact fresh_hide hg' (News.fresh N9 (by k_mem)) (by simp only [List.map,List.forall_mem_cons,List.not_mem_nil,false_implies,implies_true,and_true];exact ⟨by k_ne,by k_ne,by k_ne⟩)
  case g1=>exact fresh_hide hg' (News.fresh N9 (by k_mem)) (by simp only [List.map,List.forall_mem_cons,List.not_mem_nil,false_implies,implies_true,and_true];exact ⟨by k_ne,by k_ne,by k_ne⟩)
  case g2=>exact fresh_hide hg' (News.fresh N9 (by k_mem)) (by simp only [List.map,List.forall_mem_cons,List.not_mem_nil,false_implies,implies_true,and_true];exact ⟨by k_ne,by k_ne,by k_ne⟩)
  case w0=>k_ne
  case w1=>k_ne
  case w2=>k_ne
  case w3=>k_ne
  case w4=>k_ne
  case w5=>k_ne
  case a=>exact News.get N9 (by k_mem)
  case b=>exact News.get N9 (by k_mem)
  case c=>
    refine or_fresh hg' (News.fresh N9 (by k_mem)) ?_
    simp only [List.map,List.forall_mem_cons,List.not_mem_nil,false_implies,implies_true,and_true]
    exact ⟨Or.inl (by k_ne),Or.inl (by k_ne),Or.inr trivial⟩
  case d=>k_ne
  case e=>
    refine kept_all hg' F9 ?_
    simp only [List.map,List.forall_mem_cons,List.not_mem_nil,false_implies,implies_true,and_true]
    refine ⟨Or.inr (same_get hg0 (News.get N9 (by k_mem))),Or.inl trivial,Or.inr (same_get hg2 (News.get N9 (by k_mem)))⟩
end Mine
end
section
namespace Mine
open Mine.Re
theorem c_sh1 (w:World) {cA hl u1 n1:Nat} {l:List Nat} {ps:Array Value} {oA:Obj} {pv:Program}
    (Bh:Below (ar 540 5600 gd outer) base outer (hideAll s.heap [hl,78,cA])) (XB:(K w.params).In base) (TB:Top pv loose mean mg mb base)
    (hg0:s.heap.get? hl=some (lstO #[.str (tx (110::59::32::107::61::34::(Es l++[34]))) u1] n1)) (hg1:s.heap.get? 78=some (tabObj ps)) (hg2:s.heap.get? cA=some (oA)) (hT:TabL 30 49 "split_header_words.<locals>.<lambda>" ps cA oA) (hz:l.length≤20000) (h10:∀c∈l,c≠10) (q0:@Ne Nat hl 78) (r0:@Ne Nat hl cA) (q9:@Ne Nat cA 78)
    (hret:∀(h':Heap) (tk' rs pr D0 D a1 a2 a3 a4 a5 cA':Nat) (oA':Obj) (ps':Array Value),h'.get? rs=some (lstO #[.ref pr] a4)→h'.get? pr=some (lstO #[.ref D0, .ref D] a3)→h'.get? D0=some (tupO [.str (tx [110]) a5, .none])→h'.get? D=some (tupO [.str (tx [107]) a1, .str (tx l) a2])→s.heap.get? rs=none→s.heap.get? pr=none→s.heap.get? D0=none→s.heap.get? D=none→@Ne Nat rs pr→@Ne Nat rs D0→@Ne Nat rs D→@Ne Nat pr D0→@Ne Nat pr D→@Ne Nat D0 D→@Ne Nat rs cA'→@Ne Nat pr cA'→@Ne Nat D0 cA'→@Ne Nat D cA'→h'.get? 78=some (tabObj ps')→h'.get? cA'=some oA'→TabL 30 49 "split_header_words.<locals>.<lambda>" ps' cA' oA'→(cA'=cA∨s.heap.get? cA'=none)→@Ne Nat cA' 78→(∀b o,b≠78→s.heap.get? b=some o→h'.get? b=some o)→Q (.ref rs) {s with heap:=h',toks:=tk'}):
    wpAny (model pw_il0090_01 w) (ar 540 5600 gd outer) (call (.ref 83) [.ref hl]) Q E s:=by
  have X:=XB.keeps Bh.stays
  have T:=TB.keeps Bh.stays
  have eK:rw_il0090_01=rw_il0090_01:=rfl
  revert eK X XB
  k_fill
  intro X XB eK
  refine wpAny_call ?_
  k_dflt (refine' own_enter (chg:=[(hl,lstO #[.str (tx (110::59::32::107::61::34::(Es l++[34]))) u1] n1),(78,tabObj ps),(cA,oA)]) ?k1 ?k2 ?k3 ?k4 ?k6 ?k7 ?k8 ?k9 ?kB ?_ ?c2 ?c3 ?c4 ?c5;(case k1=>exact Bh);(case k2=>(intro q hq;simp only [List.mem_cons,List.not_mem_nil,or_false] at hq;rcases hq with rfl|rfl|rfl;exact hg0;exact hg1;exact hg2));(case k3=>exact XB);(case k4=>exact T);(case k6=>k_is);(case k7=>k_is);(case k8=>exact Nat.le_of_ble_eq_true rfl);(case k9=>first|exact BindsTo.of_eq rfl|exact binds_K (Frag.In.keeps XB fun b o e=>of_hideAll _ e) rfl (by k_is) rfl rfl rfl);(case c5=>decide);(case kB=>exact locs rfl);(case c2=>exact rfl);(case c3=>exact rfl);(case c4=>exact rfl);k_whole;intro g' L' h' hg' hL' F' N' B' X' T' hlt';clear X XB T TB Bh;(try dsimp only);(try k_fold))
  (try (refine let_ctx ?_;intro A9 e9))
  repeat' (first|(k_unfold;(try dsimp only))|((fail_if_success (fail_if_success (with_reducible refine is_exec ?_)));first|((with_reducible show wpAny _ _ (exec (Stmt.While ..) _) _ _ _);(k_dflt (with_unfolding_all (refine' use_sh1 (l:=_) (by k_asm) (by k_asm) (by k_asm) (by k_asm) (by k_asm) (by exact rfl) (by exact rfl) (by exact rfl) (by with_unfolding_all passes_own) (by assumption) (by assumption) (by assumption) (by k_ne) (by k_ne) (by k_ne) (by k_ne) (by k_ne) (by k_ne) (by k_ne) (by k_ne) (by k_ne) (by k_ne) (by k_ne) (by k_ne) (by k_ne) (by k_ne) ?_));intro h' tk' E' D' c' k0' k1' k2' t' oc' ps' oth' F' hT' N' f0' f1' f2' f3' f4' f5' f6' f7' f8' f9' f10' f11' f12' f13' f14' f15' f16' f17' f18' f19')))|(k_end;kc_close)|walk1|(dsimp only;walk1)|(leave1;(try dsimp only)))
  show Q _ _
  rename Fr _ _ _ _=>F9
  rename News _ _ _ _=>N9
  clear hT
  rename TabL _ _ _ _ _ _=>hT9
  refine' hret _ _ _ _ _ _ _ _ _ _ _ _ _ _ ?e0 ?e1 ?e2 ?e3 ?g0 ?g1 ?g2 ?g3 ?w0 ?w1 ?w2 ?w3 ?w4 ?w5 ?w6 ?w7 ?w8 ?w9 ?a ?b hT9 ?c ?d ?e
  case e0=>exact News.get N9 (by k_mem)
  case e1=>exact News.get N9 (by k_mem)
  case e2=>exact News.get N9 (by k_mem)
  case e3=>exact News.get N9 (by k_mem)
  case g0=>exact fresh_hide hg' (News.fresh N9 (by k_mem)) (by simp only [List.map,List.forall_mem_cons,List.not_mem_nil,false_implies,implies_true,and_true];exact ⟨by k_ne,by k_ne,by k_ne⟩)
  case g1=>exact fresh_hide hg' (News.fresh N9 (by k_mem)) (by simp only [List.map,List.forall_mem_cons,List.not_mem_nil,false_implies,implies_true,and_true];exact ⟨by k_ne,by k_ne,by k_ne⟩)
  case g2=>exact fresh_hide hg' (News.fresh N9 (by k_mem)) (by simp only [List.map,List.forall_mem_cons,List.not_mem_nil,false_implies,implies_true,and_true];exact ⟨by k_ne,by k_ne,by k_ne⟩)
  case g3=>exact fresh_hide hg' (News.fresh N9 (by k_mem)) (by simp only [List.map,List.forall_mem_cons,List.not_mem_nil,false_implies,implies_true,and_true];exact ⟨by k_ne,by k_ne,by k_ne⟩)
  case w0=>k_ne
  case w1=>k_ne
  case w2=>k_ne
  case w3=>k_ne
  case w4=>k_ne
  case w5=>k_ne
  case w6=>k_ne
  case w7=>k_ne
  case w8=>k_ne
  case w9=>k_ne
  case a=>exact News.get N9 (by k_mem)
  case b=>exact News.get N9 (by k_mem)
  case c=>
    refine or_fresh hg' (News.fresh N9 (by k_mem)) ?_
    simp only [List.map,List.forall_mem_cons,List.not_mem_nil,false_implies,implies_true,and_true]
    exact ⟨Or.inl (by k_ne),Or.inl (by k_ne),Or.inr trivial⟩
  case d=>k_ne
  case e=>
    refine kept_all hg' F9 ?_
    simp only [List.map,List.forall_mem_cons,List.not_mem_nil,false_implies,implies_true,and_true]
    refine ⟨Or.inr (same_get hg0 (News.get N9 (by k_mem))),Or.inl trivial,Or.inr (same_get hg2 (News.get N9 (by k_mem)))⟩
end Mine
end
section
namespace Mine
open Mine.Re
theorem c_sh2 (w:World) {cA hl u1 n1:Nat} {l:List Nat} {ps:Array Value} {oA:Obj} {pv:Program}
    (Bh:Below (ar 540 5600 gd outer) base outer (hideAll s.heap [hl,78,cA])) (XB:(K w.params).In base) (TB:Top pv loose mean mg mb base)
    (hg0:s.heap.get? hl=some (lstO #[.str (tx (107::61::34::(Es l++34::[44,32,109,61,55]))) u1] n1)) (hg1:s.heap.get? 78=some (tabObj ps)) (hg2:s.heap.get? cA=some (oA)) (hT:TabL 30 49 "split_header_words.<locals>.<lambda>" ps cA oA) (hz:l.length≤20000) (h10:∀c∈l,c≠10) (q0:@Ne Nat hl 78) (r0:@Ne Nat hl cA) (q9:@Ne Nat cA 78)
    (hret:∀(h':Heap) (tk' rs p2 D1 pr D a1 a2 a3 a4 a5 a6 a7 cA':Nat) (oA':Obj) (ps':Array Value),h'.get? rs=some (lstO #[.ref pr, .ref p2] a4)→h'.get? p2=some (lstO #[.ref D1] a5)→h'.get? D1=some (tupO [.str (tx [109]) a6, .str (tx [55]) a7])→h'.get? pr=some (lstO #[.ref D] a3)→h'.get? D=some (tupO [.str (tx [107]) a1, .str (tx l) a2])→s.heap.get? rs=none→s.heap.get? p2=none→s.heap.get? D1=none→s.heap.get? pr=none→s.heap.get? D=none→@Ne Nat rs p2→@Ne Nat rs D1→@Ne Nat rs pr→@Ne Nat rs D→@Ne Nat p2 D1→@Ne Nat p2 pr→@Ne Nat p2 D→@Ne Nat D1 pr→@Ne Nat D1 D→@Ne Nat pr D→@Ne Nat rs cA'→@Ne Nat p2 cA'→@Ne Nat D1 cA'→@Ne Nat pr cA'→@Ne Nat D cA'→h'.get? 78=some (tabObj ps')→h'.get? cA'=some oA'→TabL 30 49 "split_header_words.<locals>.<lambda>" ps' cA' oA'→(cA'=cA∨s.heap.get? cA'=none)→@Ne Nat cA' 78→(∀b o,b≠78→s.heap.get? b=some o→h'.get? b=some o)→Q (.ref rs) {s with heap:=h',toks:=tk'}):
    wpAny (model pw_il0090_01 w) (ar 540 5600 gd outer) (call (.ref 83) [.ref hl]) Q E s:=by
  have X:=XB.keeps Bh.stays
  have T:=TB.keeps Bh.stays
  have eK:rw_il0090_01=rw_il0090_01:=rfl
  revert eK X XB
  k_fill
  intro X XB eK
  refine wpAny_call ?_
  k_dflt (refine' own_enter (chg:=[(hl,lstO #[.str (tx (107::61::34::(Es l++34::[44,32,109,61,55]))) u1] n1),(78,tabObj ps),(cA,oA)]) ?k1 ?k2 ?k3 ?k4 ?k6 ?k7 ?k8 ?k9 ?kB ?_ ?c2 ?c3 ?c4 ?c5;(case k1=>exact Bh);(case k2=>(intro q hq;simp only [List.mem_cons,List.not_mem_nil,or_false] at hq;rcases hq with rfl|rfl|rfl;exact hg0;exact hg1;exact hg2));(case k3=>exact XB);(case k4=>exact T);(case k6=>k_is);(case k7=>k_is);(case k8=>exact Nat.le_of_ble_eq_true rfl);(case k9=>first|exact BindsTo.of_eq rfl|exact binds_K (Frag.In.keeps XB fun b o e=>of_hideAll _ e) rfl (by k_is) rfl rfl rfl);(case c5=>decide);(case kB=>exact locs rfl);(case c2=>exact rfl);(case c3=>exact rfl);(case c4=>exact rfl);k_whole;intro g' L' h' hg' hL' F' N' B' X' T' hlt';clear X XB T TB Bh;(try dsimp only);(try k_fold))
  (try (refine let_ctx ?_;intro A9 e9))
  repeat' (first|(k_unfold;(try dsimp only))|((fail_if_success (fail_if_success (with_reducible refine is_exec ?_)));first|((with_reducible show wpAny _ _ (exec (Stmt.While ..) _) _ _ _);(k_dflt (with_unfolding_all (refine' use_sh2 (l:=_) (by k_asm) (by k_asm) (by k_asm) (by k_asm) (by k_asm) (by exact rfl) (by exact rfl) (by exact rfl) (by with_unfolding_all passes_own) (by assumption) (by assumption) (by assumption) (by k_ne) (by k_ne) (by k_ne) (by k_ne) (by k_ne) (by k_ne) (by k_ne) (by k_ne) (by k_ne) (by k_ne) (by k_ne) (by k_ne) (by k_ne) (by k_ne) ?_));intro h' tk' D' E' p2' p3' c' k1' k2' k3' k4' t' oc' ps' oth' F' hT' N' f0' f1' f2' f3' f4' f5' f6' f7' f8' f9' f10' f11' f12' f13' f14' f15' f16' f17' f18' f19' f20' f21' f22' f23' f24' f25' f26' f27' f28')))|(k_end;kc_close)|walk1|(dsimp only;walk1)|(leave1;(try dsimp only)))
  show Q _ _
  rename Fr _ _ _ _=>F9
  rename News _ _ _ _=>N9
  clear hT
  rename TabL _ _ _ _ _ _=>hT9
  refine' hret _ _ _ _ _ _ _ _ _ _ _ _ _ _ _ _ _ ?e0 ?e1 ?e2 ?e3 ?e4 ?g0 ?g1 ?g2 ?g3 ?g4 ?w0 ?w1 ?w2 ?w3 ?w4 ?w5 ?w6 ?w7 ?w8 ?w9 ?w10 ?w11 ?w12 ?w13 ?w14 ?a ?b hT9 ?c ?d ?e
  case e0=>exact News.get N9 (by k_mem)
  case e1=>exact News.get N9 (by k_mem)
  case e2=>exact News.get N9 (by k_mem)
  case e3=>exact News.get N9 (by k_mem)
  case e4=>exact News.get N9 (by k_mem)
  case g0=>exact fresh_hide hg' (News.fresh N9 (by k_mem)) (by simp only [List.map,List.forall_mem_cons,List.not_mem_nil,false_implies,implies_true,and_true];exact ⟨by k_ne,by k_ne,by k_ne⟩)
  case g1=>exact fresh_hide hg' (News.fresh N9 (by k_mem)) (by simp only [List.map,List.forall_mem_cons,List.not_mem_nil,false_implies,implies_true,and_true];exact ⟨by k_ne,by k_ne,by k_ne⟩)
  case g2=>exact fresh_hide hg' (News.fresh N9 (by k_mem)) (by simp only [List.map,List.forall_mem_cons,List.not_mem_nil,false_implies,implies_true,and_true];exact ⟨by k_ne,by k_ne,by k_ne⟩)
  case g3=>exact fresh_hide hg' (News.fresh N9 (by k_mem)) (by simp only [List.map,List.forall_mem_cons,List.not_mem_nil,false_implies,implies_true,and_true];exact ⟨by k_ne,by k_ne,by k_ne⟩)
  case g4=>exact fresh_hide hg' (News.fresh N9 (by k_mem)) (by simp only [List.map,List.forall_mem_cons,List.not_mem_nil,false_implies,implies_true,and_true];exact ⟨by k_ne,by k_ne,by k_ne⟩)
  case w0=>k_ne
  case w1=>k_ne
  case w2=>k_ne
  case w3=>k_ne
  case w4=>k_ne
  case w5=>k_ne
  case w6=>k_ne
  case w7=>k_ne
  case w8=>k_ne
  case w9=>k_ne
  case w10=>k_ne
  case w11=>k_ne
  case w12=>k_ne
  case w13=>k_ne
  case w14=>k_ne
  case a=>exact News.get N9 (by k_mem)
  case b=>exact News.get N9 (by k_mem)
  case c=>
    refine or_fresh hg' (News.fresh N9 (by k_mem)) ?_
    simp only [List.map,List.forall_mem_cons,List.not_mem_nil,false_implies,implies_true,and_true]
    exact ⟨Or.inl (by k_ne),Or.inl (by k_ne),Or.inr trivial⟩
  case d=>k_ne
  case e=>
    refine kept_all hg' F9 ?_
    simp only [List.map,List.forall_mem_cons,List.not_mem_nil,false_implies,implies_true,and_true]
    refine ⟨Or.inr (same_get hg0 (News.get N9 (by k_mem))),Or.inl trivial,Or.inr (same_get hg2 (News.get N9 (by k_mem)))⟩
end Mine
end
section
namespace Mine
noncomputable abbrev SameOff (outer:List Env) (g g':Heap):Prop:=∀b,(∀e∈outer,e.frame≠some b)→g'.get? b=g.get? b
noncomputable def reb (h':Heap):List Env→Heap→Heap
  | [],g=>g
  | e::r,g=>match e.frame with
    | some b=>(reb h' r g).update b (fun o=>(h'.get? b).getD o)
    | none=>reb h' r g
theorem reb_size {h':Heap}:∀(l:List Env) (g:Heap),(reb h' l g).objs.size=g.objs.size:=by
  intro u0
  induction u0 with
  | nil=>
    intro _
    exact rfl
  | cons e r ih=>
    intro g
    unfold reb
    cases e.frame with
    | none=>exact ih g
    | some b=>simp only [Heap.size_update];exact ih g
theorem reb_other {h':Heap} {b:Addr} {l:List Env}:∀{g:Heap},(∀e∈l,e.frame≠some b)→(reb h' l g).get? b=g.get? b:=by
  induction l with
  | nil=>exact fun _=>rfl
  | cons e r ih=>
    intro g hn
    unfold reb
    have h1:=hn e (.head _)
    have h2:=ih (g:=g) fun x hx=>hn x (.tail _ hx)
    cases he:e.frame with
    | none=>exact h2
    | some a=>exact (Heap.get?_update_other _ _ (fun e'=>h1 (by rw [he,e']))).trans h2
theorem get_notFreed {h:Heap} {b:Addr} {o:Obj} (e:h.get? b=some o):o.isFreed=false:=(Heap.get?_some_iff.mp e).2
theorem reb_frame {h':Heap} {b:Addr} {o o':Obj} (e':h'.get? b=some o') {l:List Env}:∀{g:Heap},g.get? b=some o→(∃e∈l,e.frame=some b)→(reb h' l g).get? b=some o':=by
  induction l with
  | nil=>rintro g _ ⟨_,h,_⟩;exact nomatch h
  | cons e r ih=>
    intro g hg hx
    unfold reb
    by_cases hb:e.frame=some b
    · rw [hb]
      have:∃o1,(reb h' r g).get? b=some o1:=by
        by_cases hr:∃e∈r,e.frame=some b
        · exact ⟨o',ih hg hr⟩
        · exact ⟨o,(reb_other fun x hx h=>hr ⟨x,hx,h⟩).trans hg⟩
      obtain ⟨o1,ho1⟩:=this
      have:=Heap.get?_update_self (fun o=>(h'.get? b).getD o) ho1 (by rw [e'];exact get_notFreed e')
      rw [this,e'];rfl
    · have hr:∃e∈r,e.frame=some b:=by
        obtain ⟨x,hx,h⟩:=hx
        rcases List.mem_cons.mp hx with rfl|hx
        · exact absurd h hb
        · exact ⟨x,hx,h⟩
      have:=ih hg hr
      cases he:e.frame with
      | none=>exact this
      | some a=>exact (Heap.get?_update_other _ _ (fun e2=>hb (by rw [he,e2]))).trans this
section
variable {A₀:Around} {base g h h':Heap} {env:Env} {outer:List Env} {L:Addr} {m:Str→Option Value} {news:List (Addr × Obj)}
theorem rebase {P:Addr→Prop} (B:Below A₀ base outer g) (F:Fr g L h m) (N:News g L h news) (hf:env.frame=some L)
    (k:∀b o,h.get? b=some o→(∀e∈env::outer,e.frame≠some b)→¬P b→h'.get? b=some o) (hP:∀b,P b→base.get? b=none∧∀o,g.get? b≠some o) (hPL:¬P L) (S:FS (env::outer) h h') (hm:∀q∈news,¬P q.1):
    ∃g',Below A₀ base outer g'∧Fr g' L h' m∧News g' L h' news∧g'.objs.size=g.objs.size∧(∀b,(∀e∈outer,e.frame≠some b)→g'.get? b=g.get? b)∧FS outer g g'∧(∀b,g.get? b=none→g'.get? b=none):=by
  have hfr:∀e∈outer,∀b,e.frame=some b→base.get? b=none∧∃o,g.get? b=some o∧∀vs,o.data≠ .fields vs:=fun e he b hb=>B.frames.mem (List.mem_filterMap.mpr ⟨e,he,hb⟩)
  have key:∀b o,g.get? b=some o→(∃e∈outer,e.frame=some b)→∃sl,h'.get? b=some {o with slots:=sl}:=by
    rintro b o hb ⟨e,he,heb⟩
    obtain ⟨_,o1,h1,h2⟩:=hfr e he b heb
    rw [hb] at h1;cases h1
    exact S e (.tail _ he) b heb o (F.keep _ _ hb) h2
  have kept:∀b o,g.get? b=some o→(∀e∈outer,e.frame≠some b)→h'.get? b=some o:=fun b o hb hn=>by
    refine k b o (F.keep _ _ hb) (fun e he=>?_) fun p=>(hP b p).2 o hb
    rcases List.mem_cons.mp he with rfl|he
    · rw [hf];intro e;cases e;exact absurd (Heap.lt_size hb) (Nat.not_lt.mpr F.above)
    · exact hn e he
  refine ⟨reb h' outer g,⟨B.stack,?_,?_⟩,⟨?_,?_,?_⟩,?_,reb_size _ _,fun b hn=>reb_other hn,?_,?_⟩
  · intro b o hb
    refine (reb_other fun e he hb'=>?_).trans (B.stays _ _ hb)
    rw [(hfr e he b hb').1] at hb;cases hb
  · refine B.frames.of_keeps fun b o hb _=>?_
    by_cases hx:∃e∈outer,e.frame=some b
    · obtain ⟨sl,hsl⟩:=key b o hb hx
      exact ⟨_,reb_frame hsl hb hx,rfl⟩
    · exact ⟨o,(reb_other fun e he h=>hx ⟨e,he,h⟩).trans hb,rfl⟩
  · obtain ⟨o,es,ep,e1,e2,e3⟩:=F.ns
    obtain ⟨sl,hsl⟩:=S env (.head _) L hf o e1 (fun vs e=>by rw [e2] at e;cases e)
    exact ⟨_,es,ep,hsl,e2,e3⟩
  · intro b o hb
    by_cases hx:∃e∈outer,e.frame=some b
    · obtain ⟨e,he,heb⟩:=hx
      obtain ⟨_,o1,h1,_⟩:=hfr e he b heb
      obtain ⟨sl,hsl⟩:=key b o1 h1 ⟨e,he,heb⟩
      rw [reb_frame hsl h1 ⟨e,he,heb⟩] at hb;cases hb
      exact hsl
    · have hn:∀e∈outer,e.frame≠some b:=fun e he h=>hx ⟨e,he,h⟩
      rw [reb_other hn] at hb
      exact kept b o hb hn
  · rw [reb_size];exact F.above
  · intro q hq
    obtain ⟨n1,n2,n3⟩:=N q hq
    have hn:∀e∈outer,e.frame≠some q.1:=fun e he h=>by
      obtain ⟨_,o1,h1,_⟩:=hfr e he _ h
      rw [n3] at h1;cases h1
    refine ⟨k _ _ n1 (fun e he=>?_) (hm q hq),n2,(reb_other hn).trans n3⟩
    rcases List.mem_cons.mp he with rfl|he
    · rw [hf];intro e;exact n2 (Option.some.inj e).symm
    · exact hn e he
  · intro e he b hb o hg hv
    obtain ⟨sl,hsl⟩:=key b o hg ⟨e,he,hb⟩
    exact ⟨sl,reb_frame hsl hg ⟨e,he,hb⟩⟩
  · intro b hb
    refine (reb_other fun e he h=>?_).trans hb
    obtain ⟨_,o1,h1,_⟩:=hfr e he _ h
    rw [hb] at h1;cases h1
end
end Mine
end
section
namespace Mine
inductive End1 (x:Addr × Obj):List (Addr × Obj)→List (Addr × Obj)→Prop
  | here:End1 x [x] []
  | cons {p l r}:End1 x l r→End1 x (p::l) (p::r)
theorem End1.eq {x:Addr × Obj} {l r:List (Addr × Obj)} (h:End1 x l r):l=r++[x]:=by
  induction h with
  | here=>rfl
  | cons _ ih=>rw [ih];rfl
theorem news_new {h₀ h':Heap} {L a:Addr} {o:Obj} {m:Str→Option Value} {news:List (Addr × Obj)} {h:Heap} (F:Fr h₀ L h' m) (N:News h₀ L h' news) (h1:h'.get? a=some o) (h2:h.get? a=none) (hk:∀q∈news,∃o,h.get? q.1=some o) (hL:∃o,h.get? L=some o) (h0:∀b o,h₀.get? b=some o→∃o',h.get? b=some o'):
    News h₀ L h' ((a,o)::news)∧AllNe a news:=by
  refine ⟨fun q hq=>?_,allNe_of fun q hq e=>?_⟩
  · rcases List.mem_cons.mp hq with rfl|hq
    · refine ⟨h1,fun e=>?_,?_⟩
      · obtain ⟨o',e'⟩:=hL;rw [show L=a from e.symm,h2] at e';cases e'
      · cases z:h₀.get? a with
        | none=>rfl
        | some o=>obtain ⟨o',e'⟩:=h0 _ _ z;rw [h2] at e';cases e'
    · exact N q hq
  · obtain ⟨o',e'⟩:=hk q hq;rw [e,h2] at e';cases e'
theorem fr_get {h₀ h:Heap} {L:Addr} {m:Str→Option Value} (F:Fr h₀ L h m):∃o,h.get? L=some o:=by
  obtain ⟨o,_,_,e,_⟩:=F.ns;exact ⟨o,e⟩
section
variable {w:World} {A A₀:Around} {base g:Heap} {env:Env} {outer:List Env} {L:Addr} {pv pb':Program} {m mg mb mg' mb':Str→Option Value} {mean mean':ExcName→Option Value} {loose loose':List Str} {news:List (Addr × Obj)} {s:Shared} {Q E:Value→Shared→Prop} {x:List Nat} {tk:Nat}
theorem use_split {ws:List (List Nat)} (B:Below A₀ base outer g) (F:Fr g L s.heap m) (N:News g L s.heap news) (X:(K w.params).In g) (T:Top pv loose mean mg mb g) (XB:(K w.params).In base) (TB:Top pb' loose' mean' mg' mb' base)
    (hx:x.length≤20000) (hz:ws.length≤1000) (W:Wds x 0 0 ws) (hA:A.frames=some (env::outer)) (hf:env.frame=some L) (hke:env.scope.kind= .function) (hh:A.handled=none) (hd:Nat.ble A.depth 540=true) (hu:Nat.ble A.units 5600=true)
    (ret:∀(g' h':Heap) (tk' l c':Nat) (vs:List Value),TextVs vs ws→Below A₀ base outer g'→Fr g' L h' m→(K w.params).In g'→Top pb' loose' mean' mg' mb' g'→News g' L h' ((l,lstO vs.toArray c')::news)→AllNe l news→g'.objs.size=g.objs.size→SameOff outer g g'→FS outer g g'→Q (.ref l) {s with heap:=h',toks:=tk'}):
    wpAny (model pw_il0090_01 w) A (call (.ref 800) [.str (tx x) tk]) Q E s:=by
  have BP:=pushX B F hf hke
  refine weaken (A':=ar 540 5600 A.guards (env::outer)) hh (Nat.le_of_ble_eq_true hd) hA.symm rfl (Nat.le_of_ble_eq_true hu) ?_
  refine c_split w hx hz W ⟨rfl,BP.stays,BP.frames⟩ (X.keeps F.keep) (T.keeps F.keep) XB TB fun l h' tk' vs c' tv e1 e2 k fs=>?_
  obtain ⟨g',B',F',N',z1,z2,z3,_⟩:=rebase (P:=fun _=>False) B F N hf (fun b o e he _=>k b o e he) (fun _ p=>p.elim) (fun p=>p) fs (fun _ _ p=>p)
  have hin:∀b o,g'.get? b=some o→∃o',s.heap.get? b=some o':=fun b o e=>by
    by_cases hx:∃e∈outer,e.frame=some b
    · obtain ⟨e,he,hb⟩:=hx
      obtain ⟨_,o1,h1,h2⟩:=funFrames_in BP.frames e (.tail _ he)
      rw [hb] at h1;cases h1
      exact ⟨o1,h2⟩
    · rw [z2 b fun e he h=>hx ⟨e,he,h⟩] at e
      exact ⟨o,F.keep _ _ e⟩
  obtain ⟨N2,ne⟩:=news_new F' N' e1 e2 (fun q hq=>⟨_,(N q hq).1⟩) (fr_get F) hin
  exact ret g' h' tk' l c' vs tv B' F' (XB.keeps B'.stays) (TB.keeps B'.stays) N2 ne z1 z2 z3
theorem use_join {wl c:Nat} {vs:List Value} {rs:List (List Nat)} {ps:Array Value} {rest:List (Addr × Obj)} (B:Below A₀ base outer g) (F:Fr g L s.heap m) (N:News g L s.heap news) (XB:(K w.params).In base) (TB:Top pb' loose' mean' mg' mb' base)
    (hA:A.frames=some (env::outer)) (hf:env.frame=some L) (hke:env.scope.kind= .function) (hh:A.handled=none) (hd:Nat.ble A.depth 540=true) (hu:Nat.ble A.units 5600=true)
    (W:End1 (802,tabObj ps) news rest) (ht:TriplesOk ps.toList) (hwl:(wl,lstO vs.toArray c)∈news) (hno:AllNe 802 rest) (hG:AllBare s.gens) (hn:vs.length=rs.length) (hn2:vs.length≤1000)
    (hv:∀(i:Nat) (v:Value),vs[i]?=some v→∃l t r,v=Value.str (tx l) t∧rs[i]?=some r∧QOk l r) (hok:JoinOk " " (rs.map tx)=true)
    (ret:∀(h':Heap) (tk' t:Nat) (gs':Array GenState) (ps':Array Value),Fr g L h' m→News g L h' ((802,tabObj ps')::rest)→TriplesOk ps'.toList→AllBare gs'→(∀b o,b≠802→s.heap.get? b=some o→h'.get? b=some o)→Q (.str (Str.join " " (rs.map tx)) t) {s with heap:=h',toks:=tk',gens:=gs'}):
    wpAny (model pw_il0090_01 w) A (call (.ref 807) [.ref wl]) Q E s:=by
  have BP:=pushX B F hf hke
  have hm:(802,tabObj ps)∈news:=by
    rw [W.eq];exact List.mem_append_right _ (.head _)
  refine weaken (A':=ar 540 5600 A.guards (env::outer)) hh (Nat.le_of_ble_eq_true hd) hA.symm rfl (Nat.le_of_ble_eq_true hu) ?_
  refine c_join w ⟨rfl,BP.stays,BP.frames⟩ XB TB ?_ (N _ hm).1 ht (N _ hwl).1 hG hn hn2 hv hok fun h' tk' t gs' ps' e1 e2 k e3=>?_
  · cases z:base.get? 802 with
    | none=>rfl
    | some o=>have:=B.stays _ _ z;rw [(N _ hm).2.2] at this;cases this
  · have nL:=(N _ hm).2.1
    refine ret h' tk' t gs' ps' ⟨?_,fun b o e=>k b o (fun eb=>?_) (F.keep _ _ e),F.above⟩ ?_ e2 e3 k
    · obtain ⟨o,es,ep,f1,f2⟩:=F.ns
      exact ⟨o,es,ep,k _ _ (fun e=>nL e.symm) f1,f2⟩
    · rw [eb,(N _ hm).2.2] at e;cases e
    · intro q hq
      rcases List.mem_cons.mp hq with rfl|hq
      · exact ⟨e1,(N _ hm).2⟩
      · have hq':q∈news:=by rw [W.eq];exact List.mem_append_left _ hq
        exact ⟨k _ _ (allNe_all hno q hq) (N q hq').1,(N q hq').2⟩
end
end Mine
end
section
namespace Mine
open Mine.Re
noncomputable def lineD (d:Nat) (l:List Nat):List Nat:=match d with|0=>line0 l|1=>line1 l|_=>line2 l
theorem ofs7:Str.ofString "7"=tx [55]:=by decide
theorem ofsxy:Str.ofString "x-y"=tx [120,45,121]:=by decide
theorem ofsk:Str.ofString "k"=tx [107]:=by decide
theorem ofsn:Str.ofString "n"=tx [110]:=by decide
theorem ofsm:Str.ofString "m"=tx [109]:=by decide
theorem qok_text {l:List Nat} (ha:∀c∈l,c∈alph) (hb:32∈l) (hz:l.length≤20000):QOk l (line0 l):=
  ⟨List.length_pos_of_mem hb,hz, .inl ⟨ha,hb,rfl⟩⟩
theorem qok_7:QOk [55] [55]:=⟨by decide,by decide, .inr ⟨rfl,20,by omega,uns_7⟩⟩
theorem qok_xy:QOk [120,45,121] [120,45,121]:=⟨by decide,by decide, .inr ⟨rfl,20,by omega,uns_xy⟩⟩
theorem line_len0 (l:List Nat):(line0 l).length≤5*l.length+2:=by have:=qt_len l;simp [line0];omega
theorem joinok1 {a:List Nat} (h:a.length≤100000):JoinOk " " ([a].map tx)=true:=by
  have e:(Str.ofString " ").length=1:=by decide
  have hs:sizeLine=16777216:=rfl
  simp [JoinOk,Builtin.Str.tooLong,tx_len,e];omega
theorem joinok2 {a b:List Nat} (h:a.length+b.length≤100000):JoinOk " " ([a,b].map tx)=true:=by
  have e:(Str.ofString " ").length=1:=by decide
  have hs:sizeLine=16777216:=rfl
  simp [JoinOk,Builtin.Str.tooLong,tx_len,e];omega
theorem joined2 (a b:List Nat):Str.join " " ([a,b].map tx)=tx (a++32::b):=by
  show tx a++Str.ofString " "++tx b=_
  rw [show Str.ofString " "=tx [32] by decide,tx_append,tx_append]
  simp
theorem line1_eq (l:List Nat):[55]++32::line0 l=line1 l:=rfl
theorem line2_eq (l:List Nat):line0 l++32::[120,45,121]=line2 l:=by simp [line0,line2]
section
variable {w:World} {A A₀:Around} {base g:Heap} {env:Env} {outer:List Env} {L:Addr} {pv pb':Program} {m mg mb mg' mb':Str→Option Value} {mean mean':ExcName→Option Value} {loose loose':List Str} {news:List (Addr × Obj)} {s:Shared} {Q E:Value→Shared→Prop} {l:List Nat} {tk:Nat}
theorem hv1 {l:List Nat} {t:Nat} (h:QOk l (line0 l)):∀(i:Nat) (v:Value),[Value.str (tx l) t][i]?=some v→∃l' t' r,v=Value.str (tx l') t'∧[line0 l][i]?=some r∧QOk l' r:=by
  intro u0
  induction u0 with
  | zero=>
    intro _ e
    cases e;exact ⟨l,t,_,rfl,rfl,h⟩
  | succ n ih=>
    intro _ e
    simp at e
theorem hv2 {a b r q:List Nat} {y z:Str} {t u:Nat} (ey:y=tx a) (ez:z=tx b) (h:QOk a r) (h':QOk b q):∀(i:Nat) (v:Value),[Value.str y t,Value.str z u][i]?=some v→∃l' t' r',v=Value.str (tx l') t'∧[r,q][i]?=some r'∧QOk l' r'
  | 0,_,e=>by cases e;exact ⟨a,t,_,by rw [ey],rfl,h⟩
  | 1,_,e=>by cases e;exact ⟨b,u,_,by rw [ez],rfl,h'⟩
  | n+2,_,e=>by simp at e
end
theorem strOk_tx {l:List Nat} (ha:∀c∈l,c∈alph):PyData.strOk (tx l)=true:=by
  have hal:∀c∈alph,c<0x110000:=by decide
  show (tx l).cps.all (·<0x110000)=true
  simp [tx]
  intro c hc
  exact hal c (ha c hc)
theorem sok7:PyData.strOk (tx [55])=true:=by kernel_rfl
theorem sokxy:PyData.strOk (tx [120,45,121])=true:=by kernel_rfl
theorem sokk:PyData.strOk (tx [107])=true:=by kernel_rfl
theorem sokn:PyData.strOk (tx [110])=true:=by kernel_rfl
theorem sokm:PyData.strOk (tx [109])=true:=by kernel_rfl
section
variable {prog:Program} {w:World} {A:Around} {E:Value→Shared→Prop} {s:Shared} {Q:Value→Shared→Prop} {a b:Value} {da db:PyData} {as bs:List Addr}
theorem same_ne (ra:Reads s.heap a da as) (rb:Reads s.heap b db bs) (ha:SeqAt.shaped da=true) (hb:SeqAt.shaped db=true) (hu:Nat.ble (A.units+65) cLine=true) (he:PyData.eqv da db=true) (h:Q (.bool false) s):wpAny (model prog w) A (compareOp .NotEq a b) Q E s:=
  ne_dataH ra rb ha hb (Nat.le_of_ble_eq_true hu) (by rw [he];exact h)
end
end Mine
end
section
namespace Mine
open Mine.Re
section
variable {w:World} {A A₀:Around} {base g:Heap} {env:Env} {outer:List Env} {L:Addr} {pv pb':Program} {m mg mb mg' mb':Str→Option Value} {mean mean':ExcName→Option Value} {loose loose':List Str} {news:List (Addr × Obj)} {s:Shared} {Q E:Value→Shared→Prop} {l:List Nat} {tk:Nat}
theorem use_join0 {wl c t1:Nat} {ps:Array Value} {rest:List (Addr × Obj)} (F:Fr g L s.heap m) (B:Below A₀ base outer g) (N:News g L s.heap news) (XB:(K w.params).In base) (TB:Top pb' loose' mean' mg' mb' base) (hA:A.frames=some (env::outer)) (hf:env.frame=some L) (hke:env.scope.kind= .function) (hh:A.handled=none) (hd:Nat.ble A.depth 540=true) (hu:Nat.ble A.units 5600=true) (hwl:(wl,lstO #[.str (tx l) t1] c)∈news) (W:End1 (802,tabObj ps) news rest) (ht:TriplesOk ps.toList) (hno:AllNe 802 rest) (hG:AllBare s.gens) (ha:∀c∈l,c∈alph) (hb:32∈l) (hz:l.length≤3000) (ret:∀(h':Heap) (tk' t:Nat) (gs':Array GenState) (ps':Array Value),Fr g L h' m→News g L h' ((802,tabObj ps')::rest)→TriplesOk ps'.toList→AllBare gs'→Q (.str (tx (line0 l)) t) {s with heap:=h',toks:=tk',gens:=gs'}):
    wpAny (model pw_il0090_01 w) A (call (.ref 807) [.ref wl]) Q E s:=by
  have hl0:=line_len0 l
  refine use_join (vs:=[.str (tx l) t1]) (rs:=[line0 l]) B F N XB TB hA hf hke hh hd hu W ht hwl hno hG rfl (by simp) (hv1 (qok_text ha hb (by omega))) (joinok1 (by omega)) fun h' tk' t gs' ps' F' N' e2 e3 k=>?_
  · have R:=ret h' tk' t gs' ps' F' N' e2 e3
    exact R
theorem use_split0 (F:Fr g L s.heap m) (B:Below A₀ base outer g) (N:News g L s.heap news) (X:(K w.params).In g) (T:Top pv loose mean mg mb g) (XB:(K w.params).In base) (TB:Top pb' loose' mean' mg' mb' base) (hn:∀c∈l,c≠10) (h1:1≤l.length) (hz:l.length≤3000) (hA:A.frames=some (env::outer)) (hf:env.frame=some L) (hke:env.scope.kind= .function) (hh:A.handled=none) (hd:Nat.ble A.depth 540=true) (hu:Nat.ble A.units 5600=true) (ret:∀(g' h':Heap) (tk' a c' t1:Nat),Below A₀ base outer g'→Fr g' L h' m→(K w.params).In g'→Top pb' loose' mean' mg' mb' g'→News g' L h' ((a,lstO #[.str (tx l) t1] c')::news)→AllNe a news→g'.objs.size=g.objs.size→SameOff outer g g'→FS outer g g'→Q (.ref a) {s with heap:=h',toks:=tk'}):
    wpAny (model pw_il0090_01 w) A (call (.ref 800) [.str (tx (line0 l)) tk]) Q E s:=by
  have hl0:=line_len0 l
  refine use_split (ws:=[l]) B F N X T XB TB (by omega) (by simp) (wds0 hn h1 (by omega)) hA hf hke hh hd hu fun g' h' tk' a c' vs tv B' F' X' T' N' n1 z1 z2 z3=>?_
  cases tv with|cons r=>cases r with|nil=>exact ret g' h' tk' a c' _ B' F' X' T' N' n1 z1 z2 z3
theorem use_join1 {wl c t1 t2:Nat} {ps:Array Value} {rest:List (Addr × Obj)} (F:Fr g L s.heap m) (B:Below A₀ base outer g) (N:News g L s.heap news) (XB:(K w.params).In base) (TB:Top pb' loose' mean' mg' mb' base) (hA:A.frames=some (env::outer)) (hf:env.frame=some L) (hke:env.scope.kind= .function) (hh:A.handled=none) (hd:Nat.ble A.depth 540=true) (hu:Nat.ble A.units 5600=true) (hwl:(wl,lstO #[.str "7" t1, .str (tx l) t2] c)∈news) (W:End1 (802,tabObj ps) news rest) (ht:TriplesOk ps.toList) (hno:AllNe 802 rest) (hG:AllBare s.gens) (ha:∀c∈l,c∈alph) (hb:32∈l) (hz:l.length≤3000) (ret:∀(h':Heap) (tk' t:Nat) (gs':Array GenState) (ps':Array Value),Fr g L h' m→News g L h' ((802,tabObj ps')::rest)→TriplesOk ps'.toList→AllBare gs'→Q (.str (tx (line1 l)) t) {s with heap:=h',toks:=tk',gens:=gs'}):
    wpAny (model pw_il0090_01 w) A (call (.ref 807) [.ref wl]) Q E s:=by
  have hl0:=line_len0 l
  refine use_join (vs:=[.str "7" t1, .str (tx l) t2]) (rs:=[[55],line0 l]) B F N XB TB hA hf hke hh hd hu W ht hwl hno hG rfl (by simp) (hv2 ofs7 rfl qok_7 (qok_text ha hb (by omega))) (joinok2 (by simp;omega)) fun h' tk' t gs' ps' F' N' e2 e3 k=>?_
  · have R:=ret h' tk' t gs' ps' F' N' e2 e3
    rw [joined2,line1_eq];exact R
theorem use_split1 (F:Fr g L s.heap m) (B:Below A₀ base outer g) (N:News g L s.heap news) (X:(K w.params).In g) (T:Top pv loose mean mg mb g) (XB:(K w.params).In base) (TB:Top pb' loose' mean' mg' mb' base) (hn:∀c∈l,c≠10) (h1:1≤l.length) (hz:l.length≤3000) (hA:A.frames=some (env::outer)) (hf:env.frame=some L) (hke:env.scope.kind= .function) (hh:A.handled=none) (hd:Nat.ble A.depth 540=true) (hu:Nat.ble A.units 5600=true) (ret:∀(g' h':Heap) (tk' a c' t1 t2:Nat),Below A₀ base outer g'→Fr g' L h' m→(K w.params).In g'→Top pb' loose' mean' mg' mb' g'→News g' L h' ((a,lstO #[.str (tx [55]) t1, .str (tx l) t2] c')::news)→AllNe a news→g'.objs.size=g.objs.size→SameOff outer g g'→FS outer g g'→Q (.ref a) {s with heap:=h',toks:=tk'}):
    wpAny (model pw_il0090_01 w) A (call (.ref 800) [.str (tx (line1 l)) tk]) Q E s:=by
  have hl0:=line_len0 l
  refine use_split (ws:=[[55],l]) B F N X T XB TB (by simp only [line0,line1,line2,List.length_cons,List.length_append,List.length_nil] at hl0 ⊢;omega) (by simp) (wds1 hn h1 (by omega)) hA hf hke hh hd hu fun g' h' tk' a c' vs tv B' F' X' T' N' n1 z1 z2 z3=>?_
  cases tv with|cons r=>cases r with|cons r=>cases r with|nil=>exact ret g' h' tk' a c' _ _ B' F' X' T' N' n1 z1 z2 z3
theorem use_join2 {wl c t1 t2:Nat} {ps:Array Value} {rest:List (Addr × Obj)} (F:Fr g L s.heap m) (B:Below A₀ base outer g) (N:News g L s.heap news) (XB:(K w.params).In base) (TB:Top pb' loose' mean' mg' mb' base) (hA:A.frames=some (env::outer)) (hf:env.frame=some L) (hke:env.scope.kind= .function) (hh:A.handled=none) (hd:Nat.ble A.depth 540=true) (hu:Nat.ble A.units 5600=true) (hwl:(wl,lstO #[.str (tx l) t1, .str "x-y" t2] c)∈news) (W:End1 (802,tabObj ps) news rest) (ht:TriplesOk ps.toList) (hno:AllNe 802 rest) (hG:AllBare s.gens) (ha:∀c∈l,c∈alph) (hb:32∈l) (hz:l.length≤3000) (ret:∀(h':Heap) (tk' t:Nat) (gs':Array GenState) (ps':Array Value),Fr g L h' m→News g L h' ((802,tabObj ps')::rest)→TriplesOk ps'.toList→AllBare gs'→Q (.str (tx (line2 l)) t) {s with heap:=h',toks:=tk',gens:=gs'}):
    wpAny (model pw_il0090_01 w) A (call (.ref 807) [.ref wl]) Q E s:=by
  have hl0:=line_len0 l
  refine use_join (vs:=[.str (tx l) t1, .str "x-y" t2]) (rs:=[line0 l,[120,45,121]]) B F N XB TB hA hf hke hh hd hu W ht hwl hno hG rfl (by simp) (hv2 rfl ofsxy (qok_text ha hb (by omega)) qok_xy) (joinok2 (by simp;omega)) fun h' tk' t gs' ps' F' N' e2 e3 k=>?_
  · have R:=ret h' tk' t gs' ps' F' N' e2 e3
    rw [joined2,line2_eq];exact R
theorem use_split2 (F:Fr g L s.heap m) (B:Below A₀ base outer g) (N:News g L s.heap news) (X:(K w.params).In g) (T:Top pv loose mean mg mb g) (XB:(K w.params).In base) (TB:Top pb' loose' mean' mg' mb' base) (hn:∀c∈l,c≠10) (h1:1≤l.length) (hz:l.length≤3000) (hA:A.frames=some (env::outer)) (hf:env.frame=some L) (hke:env.scope.kind= .function) (hh:A.handled=none) (hd:Nat.ble A.depth 540=true) (hu:Nat.ble A.units 5600=true) (ret:∀(g' h':Heap) (tk' a c' t1 t2:Nat),Below A₀ base outer g'→Fr g' L h' m→(K w.params).In g'→Top pb' loose' mean' mg' mb' g'→News g' L h' ((a,lstO #[.str (tx l) t1, .str (tx [120,45,121]) t2] c')::news)→AllNe a news→g'.objs.size=g.objs.size→SameOff outer g g'→FS outer g g'→Q (.ref a) {s with heap:=h',toks:=tk'}):
    wpAny (model pw_il0090_01 w) A (call (.ref 800) [.str (tx (line2 l)) tk]) Q E s:=by
  have hl0:=line_len0 l
  refine use_split (ws:=[l,[120,45,121]]) B F N X T XB TB (by simp only [line0,line1,line2,List.length_cons,List.length_append,List.length_nil] at hl0 ⊢;omega) (by simp) (wds2 hn h1 (by omega)) hA hf hke hh hd hu fun g' h' tk' a c' vs tv B' F' X' T' N' n1 z1 z2 z3=>?_
  cases tv with|cons r=>cases r with|cons r=>cases r with|nil=>exact ret g' h' tk' a c' _ _ B' F' X' T' N' n1 z1 z2 z3
end
end Mine
end
section
namespace Mine
theorem kept_line {g g2 h h':Heap} {ads:List Addr} {outer:List Env} {L:Addr} {m:Str→Option Value} (hg:g=hideAll h ads) (z:∀b,(∀e∈outer,e.frame≠some b)→g2.get? b=g.get? b) (F:Fr g2 L h' m):
    ∀b o,b ∉ ads→(∀e∈outer,e.frame≠some b)→h.get? b=some o→h'.get? b=some o:=fun b o hb he e=>by
  refine F.keep b o ?_
  rw [z b he,hg]
  exact hideAll_get _ e hb
theorem kept_line1 {g g2 h h':Heap} {a:Addr} {outer:List Env} {L:Addr} {m:Str→Option Value} (hg:g=hideAll h [a]) (z:∀b,(∀e∈outer,e.frame≠some b)→g2.get? b=g.get? b) (F:Fr g2 L h' m):
    ∀b o,b≠a→(∀e∈outer,e.frame≠some b)→h.get? b=some o→h'.get? b=some o:=fun b o hb he e=>kept_line hg z F b o (by simpa using hb) he e
theorem fs_line {g g2 h h' base:Heap} {ads:List Addr} {A:Around} {outer:List Env} {L:Addr} {m:Str→Option Value} (hg:g=hideAll h ads) (B:Below A base outer g) (S:FS outer g g2) (F:Fr g2 L h' m):FS outer h h':=fun e he b hb o ho hv=>by
  obtain ⟨b',o1,h1,h2⟩:=funFrames_in B.frames e he
  rw [hb] at h1;cases h1
  have h3:h.get? b=some o1:=of_hideAll ads (hg▸h2)
  rw [ho] at h3;cases h3
  obtain ⟨sl,hs⟩:=S e he b hb o h2 hv
  exact ⟨sl,F.keep _ _ hs⟩
end Mine
end
section
namespace Mine
open Mine.Re
noncomputable def head0 (l:List Nat):List Nat:=107::61::34::(Es l++[34])
noncomputable def head1 (l:List Nat):List Nat:=110::59::32::107::61::34::(Es l++[34])
noncomputable def head2 (l:List Nat):List Nat:=107::61::34::(Es l++34::[44,32,109,61,55])
theorem head2_eq (l:List Nat):(107::61::34::(Es l++[34]))++[44,32]++[109,61,55]=head2 l:=by simp [head2]
inductive Del (x:Addr × Obj):List (Addr × Obj)→List (Addr × Obj)→Prop
  | here {l}:Del x (x::l) l
  | cons {p l r}:Del x l r→Del x (p::l) (p::r)
theorem Del.mem {x:Addr × Obj} {l r:List (Addr × Obj)} (h:Del x l r):x∈l∧∀q∈r,q∈l:=by
  induction h with
  | here=>exact ⟨.head _,fun q hq=> .tail _ hq⟩
  | cons _ ih=>exact ⟨.tail _ ih.1,fun q hq=>by
      rcases List.mem_cons.mp hq with rfl|hq
      · exact .head _
      · exact .tail _ (ih.2 q hq)⟩
theorem news_tab {g h h':Heap} {L P c:Addr} {m:Str→Option Value} {news rest:List (Addr × Obj)} {o p oc:Obj} (F:Fr g L h m) (N:News g L h news) (W:Del (P,o) news rest) (hn:AllNe P rest) (h1:h'.get? P=some p) (h2:h'.get? c=some oc) (hc:(c,oc)∈news∨h.get? c=none) (k:∀b o,b≠P→h.get? b=some o→h'.get? b=some o):
    Fr g L h' m∧News g L h' ((P,p)::(c,oc)::rest):=by
  have hm:=N _ W.mem.1
  refine ⟨⟨?_,fun b o e=>k b o (fun eb=>?_) (F.keep _ _ e),F.above⟩,fun q hq=>?_⟩
  · obtain ⟨o,es,ep,f1,f2⟩:=F.ns
    exact ⟨o,es,ep,k _ _ (fun e=>hm.2.1 e.symm) f1,f2⟩
  · rw [eb,hm.2.2] at e;cases e
  · rcases List.mem_cons.mp hq with rfl|hq
    · exact ⟨h1,hm.2⟩
    · rcases List.mem_cons.mp hq with rfl|hq
      · refine ⟨h2,?_⟩
        rcases hc with hc|hc
        · exact (N _ hc).2
        · refine ⟨fun e=>?_,?_⟩
          · obtain ⟨o,e'⟩:=fr_get F;rw [show L=c from e.symm,hc] at e';cases e'
          · cases z:g.get? c with
            | none=>rfl
            | some o=>have:=F.keep _ _ z;rw [hc] at this;cases this
      · exact ⟨k _ _ (allNe_all hn q hq) (N q (W.mem.2 q hq)).1,(N q (W.mem.2 q hq)).2⟩
noncomputable def Orig (_:Nat) (_:Obj):Prop:=True
theorem mem_tab {l c:Nat} {q:Str} {ps:Array Value} {k:Nat} {o:Obj} {news:List (Addr × Obj)} (_:TabL l c q ps k o) (h:(k,o)∈news):(k,o)∈news:=h
theorem mem_orig {k:Nat} {o:Obj} {news:List (Addr × Obj)} (_:Orig k o) (h:(k,o)∈news):(k,o)∈news:=h
theorem ne_of_lt' {a b:Nat} (h:a<b):@Ne Nat a b:=Nat.ne_of_lt h
theorem ne_of_gt' {a b:Nat} (h:b<a):@Ne Nat a b:=Nat.ne_of_gt h
theorem apart_of {g h:Heap} {L c c' z:Nat} {oz:Obj} {news:List (Addr × Obj)} (N:News g L h news) (mz:(z,oz)∈news) (nz:@Ne Nat c z) (hc:c'=c∨h.get? c'=none):@Ne Nat c' z:=fun e=>by
  rcases hc with hc|hc
  · exact nz (hc▸e)
  · subst e;rw [(N _ mz).1] at hc;cases hc
theorem kept_two {g h h':Heap} {ads:List Addr} {L P R:Addr} {m:Str→Option Value} (hg:g=hideAll h ads) (F:Fr g L h' m) (ha:∀a∈ads,(a=P∨a=R)∨∀o,h.get? a=some o→h'.get? a=some o):∀b o,b≠P→b≠R→h.get? b=some o→h'.get? b=some o:=fun b o hb hr e=>by
  by_cases hm:b∈ads
  · rcases ha b hm with (h1|h1)|h1
    · exact absurd h1 hb
    · exact absurd h1 hr
    · exact h1 o e
  · exact kept_hide hg F b o hm e
section
variable {w:World} {A A₀:Around} {base g:Heap} {env:Env} {outer:List Env} {L:Addr} {pb':Program} {m mg' mb':Str→Option Value} {mean':ExcName→Option Value} {loose':List Str} {news rest:List (Addr × Obj)} {s:Shared} {Q E:Value→Shared→Prop} {l:List Nat} {tk:Nat}
theorem use_jh0 {cA ll l1 t1 k1 k2 n1 n2:Nat} {ps:Array Value} {oA:Obj} {x y:Nat} {ox oy:Obj} (F:Fr g L s.heap m) (B:Below A₀ base outer g) (N:News g L s.heap news) (XB:(K w.params).In base) (TB:Top pb' loose' mean' mg' mb' base) (hA:A.frames=some (env::outer)) (hf:env.frame=some L) (hke:env.scope.kind= .function) (hh:A.handled=none) (hd:Nat.ble A.depth 540=true) (hu:Nat.ble A.units 5600=true) (W:Del (95,tabObj ps) news rest) (hT:TabL 61 50 "join_header_words.<locals>.<lambda>" ps cA oA) (m0:(ll,lstO #[.ref l1] n1)∈news) (m1:(l1,lstO #[.ref t1] n2)∈news) (m2:(t1,tupO [.str "k" k1, .str (tx l) k2])∈news) (mc:(cA,oA)∈news) (hno:AllNe 95 rest) (ha:∀c∈l,c∈alph) (hb:32∈l) (hz:l.length≤3000) (q0:@Ne Nat ll 95) (q1:@Ne Nat l1 95) (q2:@Ne Nat t1 95) (r0:@Ne Nat ll cA) (r1:@Ne Nat l1 cA) (r2:@Ne Nat t1 cA) (q9:@Ne Nat cA 95) (mx:(x,ox)∈news) (my:(y,oy)∈news) (nx:@Ne Nat cA x) (ny:@Ne Nat cA y) (ret:∀(h':Heap) (tk' t cA':Nat) (oA':Obj) (ps':Array Value),Fr g L h' m→News g L h' ((95,tabObj ps')::(cA',oA')::rest)→TabL 61 50 "join_header_words.<locals>.<lambda>" ps' cA' oA'→@Ne Nat cA' 95→@Ne Nat cA' x→@Ne Nat cA' y→(cA'=cA∨s.heap.get? cA'=none)→Q (.str (tx (head0 l)) t) {s with heap:=h',toks:=tk'}):
    wpAny (model pw_il0090_01 w) A (call (.ref 100) [.ref ll]) Q E s:=by
  refine weaken (A':=ar 540 5600 A.guards (env::outer)) hh (Nat.le_of_ble_eq_true hd) hA.symm rfl (Nat.le_of_ble_eq_true hu) ?_
  have BS:=below_sub (as:=[ll,l1,t1,95,cA]) B F N hA hf hke (by
    intro a ha
    simp only [List.mem_cons,List.not_mem_nil,or_false] at ha
    rcases ha with rfl|rfl|rfl|rfl|rfl
    · exact ⟨_,m0⟩
    · exact ⟨_,m1⟩
    · exact ⟨_,m2⟩
    · exact ⟨_,W.mem.1⟩
    · exact ⟨_,mc⟩)
  refine c_jh0 (k3:=0) (k4:=0) (n3:=0) w ⟨rfl,BS.stays,BS.frames⟩ XB TB (N _ m0).1 (N _ m1).1 (N _ m2).1 (N _ W.mem.1).1 (N _ mc).1 hT ha hb (by omega) (List.length_pos_of_mem hb) q0 q1 q2 r0 r1 r2 q9 fun h' tk' t cA' oA' ps' e1 e2 hT' hc hne kk=>?_
  have hcn:(cA',oA')∈news∨s.heap.get? cA'=none:=by
    rcases hc with rfl|hc
    · refine .inl ?_
      have:=kk _ _ q9 (N _ mc).1
      rw [e2] at this;cases this;exact mc
    · exact .inr hc
  obtain ⟨F',N'⟩:=news_tab F N W hno e1 e2 hcn kk
  have ap:∀z oz,(z,oz)∈news→@Ne Nat cA z→@Ne Nat cA' z:=fun z oz mz nz=>apart_of N mz nz hc
  have R:=ret h' tk' t cA' oA' ps' F' N' hT' hne (ap _ _ mx nx) (ap _ _ my ny) hc
  exact R
theorem use_jh1 {cA ll l1 t1 t2 k1 k2 k3 n1 n2:Nat} {ps:Array Value} {oA:Obj} {x y:Nat} {ox oy:Obj} (F:Fr g L s.heap m) (B:Below A₀ base outer g) (N:News g L s.heap news) (XB:(K w.params).In base) (TB:Top pb' loose' mean' mg' mb' base) (hA:A.frames=some (env::outer)) (hf:env.frame=some L) (hke:env.scope.kind= .function) (hh:A.handled=none) (hd:Nat.ble A.depth 540=true) (hu:Nat.ble A.units 5600=true) (W:Del (95,tabObj ps) news rest) (hT:TabL 61 50 "join_header_words.<locals>.<lambda>" ps cA oA) (m0:(ll,lstO #[.ref l1] n1)∈news) (m1:(l1,lstO #[.ref t1, .ref t2] n2)∈news) (m2:(t1,tupO [.str "n" k3, .none])∈news) (m3:(t2,tupO [.str "k" k1, .str (tx l) k2])∈news) (mc:(cA,oA)∈news) (hno:AllNe 95 rest) (ha:∀c∈l,c∈alph) (hb:32∈l) (hz:l.length≤3000) (q0:@Ne Nat ll 95) (q1:@Ne Nat l1 95) (q2:@Ne Nat t1 95) (q3:@Ne Nat t2 95) (r0:@Ne Nat ll cA) (r1:@Ne Nat l1 cA) (r2:@Ne Nat t1 cA) (r3:@Ne Nat t2 cA) (q9:@Ne Nat cA 95) (mx:(x,ox)∈news) (my:(y,oy)∈news) (nx:@Ne Nat cA x) (ny:@Ne Nat cA y) (ret:∀(h':Heap) (tk' t cA':Nat) (oA':Obj) (ps':Array Value),Fr g L h' m→News g L h' ((95,tabObj ps')::(cA',oA')::rest)→TabL 61 50 "join_header_words.<locals>.<lambda>" ps' cA' oA'→@Ne Nat cA' 95→@Ne Nat cA' x→@Ne Nat cA' y→(cA'=cA∨s.heap.get? cA'=none)→Q (.str (tx (head1 l)) t) {s with heap:=h',toks:=tk'}):
    wpAny (model pw_il0090_01 w) A (call (.ref 100) [.ref ll]) Q E s:=by
  refine weaken (A':=ar 540 5600 A.guards (env::outer)) hh (Nat.le_of_ble_eq_true hd) hA.symm rfl (Nat.le_of_ble_eq_true hu) ?_
  have BS:=below_sub (as:=[ll,l1,t1,t2,95,cA]) B F N hA hf hke (by
    intro a ha
    simp only [List.mem_cons,List.not_mem_nil,or_false] at ha
    rcases ha with rfl|rfl|rfl|rfl|rfl|rfl
    · exact ⟨_,m0⟩
    · exact ⟨_,m1⟩
    · exact ⟨_,m2⟩
    · exact ⟨_,m3⟩
    · exact ⟨_,W.mem.1⟩
    · exact ⟨_,mc⟩)
  refine c_jh1 (k4:=0) (n3:=0) w ⟨rfl,BS.stays,BS.frames⟩ XB TB (N _ m0).1 (N _ m1).1 (N _ m2).1 (N _ m3).1 (N _ W.mem.1).1 (N _ mc).1 hT ha hb (by omega) (List.length_pos_of_mem hb) q0 q1 q2 q3 r0 r1 r2 r3 q9 fun h' tk' t cA' oA' ps' e1 e2 hT' hc hne kk=>?_
  have hcn:(cA',oA')∈news∨s.heap.get? cA'=none:=by
    rcases hc with rfl|hc
    · refine .inl ?_
      have:=kk _ _ q9 (N _ mc).1
      rw [e2] at this;cases this;exact mc
    · exact .inr hc
  obtain ⟨F',N'⟩:=news_tab F N W hno e1 e2 hcn kk
  have ap:∀z oz,(z,oz)∈news→@Ne Nat cA z→@Ne Nat cA' z:=fun z oz mz nz=>apart_of N mz nz hc
  have R:=ret h' tk' t cA' oA' ps' F' N' hT' hne (ap _ _ mx nx) (ap _ _ my ny) hc
  exact R
theorem use_jh2 {cA ll l1 l2 t1 t2 k1 k2 k3 k4 n1 n2 n3:Nat} {ps:Array Value} {oA:Obj} {x y:Nat} {ox oy:Obj} (F:Fr g L s.heap m) (B:Below A₀ base outer g) (N:News g L s.heap news) (XB:(K w.params).In base) (TB:Top pb' loose' mean' mg' mb' base) (hA:A.frames=some (env::outer)) (hf:env.frame=some L) (hke:env.scope.kind= .function) (hh:A.handled=none) (hd:Nat.ble A.depth 540=true) (hu:Nat.ble A.units 5600=true) (W:Del (95,tabObj ps) news rest) (hT:TabL 61 50 "join_header_words.<locals>.<lambda>" ps cA oA) (m0:(ll,lstO #[.ref l1, .ref l2] n1)∈news) (m1:(l1,lstO #[.ref t1] n2)∈news) (m2:(l2,lstO #[.ref t2] n3)∈news) (m3:(t1,tupO [.str "k" k1, .str (tx l) k2])∈news) (m4:(t2,tupO [.str "m" k3, .str "7" k4])∈news) (mc:(cA,oA)∈news) (hno:AllNe 95 rest) (ha:∀c∈l,c∈alph) (hb:32∈l) (hz:l.length≤3000) (q0:@Ne Nat ll 95) (q1:@Ne Nat l1 95) (q2:@Ne Nat l2 95) (q3:@Ne Nat t1 95) (q4:@Ne Nat t2 95) (r0:@Ne Nat ll cA) (r1:@Ne Nat l1 cA) (r2:@Ne Nat l2 cA) (r3:@Ne Nat t1 cA) (r4:@Ne Nat t2 cA) (q9:@Ne Nat cA 95) (mx:(x,ox)∈news) (my:(y,oy)∈news) (nx:@Ne Nat cA x) (ny:@Ne Nat cA y) (ret:∀(h':Heap) (tk' t cA':Nat) (oA':Obj) (ps':Array Value),Fr g L h' m→News g L h' ((95,tabObj ps')::(cA',oA')::rest)→TabL 61 50 "join_header_words.<locals>.<lambda>" ps' cA' oA'→@Ne Nat cA' 95→@Ne Nat cA' x→@Ne Nat cA' y→(cA'=cA∨s.heap.get? cA'=none)→Q (.str (tx (head2 l)) t) {s with heap:=h',toks:=tk'}):
    wpAny (model pw_il0090_01 w) A (call (.ref 100) [.ref ll]) Q E s:=by
  refine weaken (A':=ar 540 5600 A.guards (env::outer)) hh (Nat.le_of_ble_eq_true hd) hA.symm rfl (Nat.le_of_ble_eq_true hu) ?_
  have BS:=below_sub (as:=[ll,l1,l2,t1,t2,95,cA]) B F N hA hf hke (by
    intro a ha
    simp only [List.mem_cons,List.not_mem_nil,or_false] at ha
    rcases ha with rfl|rfl|rfl|rfl|rfl|rfl|rfl
    · exact ⟨_,m0⟩
    · exact ⟨_,m1⟩
    · exact ⟨_,m2⟩
    · exact ⟨_,m3⟩
    · exact ⟨_,m4⟩
    · exact ⟨_,W.mem.1⟩
    · exact ⟨_,mc⟩)
  refine c_jh2 w ⟨rfl,BS.stays,BS.frames⟩ XB TB (N _ m0).1 (N _ m1).1 (N _ m2).1 (N _ m3).1 (N _ m4).1 (N _ W.mem.1).1 (N _ mc).1 hT ha hb (by omega) (List.length_pos_of_mem hb) q0 q1 q2 q3 q4 r0 r1 r2 r3 r4 q9 fun h' tk' t cA' oA' ps' e1 e2 hT' hc hne kk=>?_
  have hcn:(cA',oA')∈news∨s.heap.get? cA'=none:=by
    rcases hc with rfl|hc
    · refine .inl ?_
      have:=kk _ _ q9 (N _ mc).1
      rw [e2] at this;cases this;exact mc
    · exact .inr hc
  obtain ⟨F',N'⟩:=news_tab F N W hno e1 e2 hcn kk
  have ap:∀z oz,(z,oz)∈news→@Ne Nat cA z→@Ne Nat cA' z:=fun z oz mz nz=>apart_of N mz nz hc
  have R:=ret h' tk' t cA' oA' ps' F' N' hT' hne (ap _ _ mx nx) (ap _ _ my ny) hc
  rw [head2_eq];exact R
theorem use_sp0 {cA hl u1 n1:Nat} {ps:Array Value} {oA:Obj} {x y z:Nat} {ox oy oz:Obj} (F:Fr g L s.heap m) (B:Below A₀ base outer g) (N:News g L s.heap news) (XB:(K w.params).In base) (TB:Top pb' loose' mean' mg' mb' base) (hA:A.frames=some (env::outer)) (hf:env.frame=some L) (hke:env.scope.kind= .function) (hh:A.handled=none) (hd:Nat.ble A.depth 540=true) (hu:Nat.ble A.units 5600=true) (W:Del (78,tabObj ps) news rest) (hT:TabL 30 49 "split_header_words.<locals>.<lambda>" ps cA oA) (m0:(hl,lstO #[.str (tx (head0 l)) u1] n1)∈news) (mc:(cA,oA)∈news) (hno:AllNe 78 rest) (hz:l.length≤3000) (h10:∀c∈l,c≠10) (q0:@Ne Nat hl 78) (r0:@Ne Nat hl cA) (q9:@Ne Nat cA 78) (mx:(x,ox)∈news) (my:(y,oy)∈news) (mz:(z,oz)∈news) (nx:@Ne Nat cA x) (ny:@Ne Nat cA y) (nz:@Ne Nat cA z) (ret:∀(h':Heap) (tk' rs pr D a1 a2 a3 a4 cA':Nat) (oA':Obj) (ps':Array Value),Fr g L h' m→News g L h' ((rs,lstO #[.ref pr] a4)::(pr,lstO #[.ref D] a3)::(D,tupO [.str (tx [107]) a1, .str (tx l) a2])::(78,tabObj ps')::(cA',oA')::rest)→TabL 30 49 "split_header_words.<locals>.<lambda>" ps' cA' oA'→@Ne Nat cA' 78→@Ne Nat cA' x→@Ne Nat cA' y→@Ne Nat cA' z→(cA'=cA∨s.heap.get? cA'=none)→Q (.ref rs) {s with heap:=h',toks:=tk'}):
    wpAny (model pw_il0090_01 w) A (call (.ref 83) [.ref hl]) Q E s:=by
  refine weaken (A':=ar 540 5600 A.guards (env::outer)) hh (Nat.le_of_ble_eq_true hd) hA.symm rfl (Nat.le_of_ble_eq_true hu) ?_
  have BS:=below_sub (as:=[hl,78,cA]) B F N hA hf hke (by
    intro a ha
    simp only [List.mem_cons,List.not_mem_nil,or_false] at ha
    rcases ha with rfl|rfl|rfl
    · exact ⟨_,m0⟩
    · exact ⟨_,W.mem.1⟩
    · exact ⟨_,mc⟩)
  refine c_sh0 w ⟨rfl,BS.stays,BS.frames⟩ XB TB (N _ m0).1 (N _ W.mem.1).1 (N _ mc).1 hT (by omega) h10 q0 r0 q9 fun h' tk' rs pr D a1 a2 a3 a4 cA' oA' ps' e0 e1 e2 g0 g1 g2 w0 w1 w2 w3 w4 w5 x1 x2 hT' hc hne kk=>?_
  have hcn:(cA',oA')∈news∨s.heap.get? cA'=none:=by
    rcases hc with rfl|hc
    · refine .inl ?_
      have:=kk _ _ q9 (N _ mc).1
      rw [x2] at this;cases this;exact mc
    · exact .inr hc
  obtain ⟨F',N'⟩:=news_tab F N W hno x1 x2 hcn kk
  have nw:∀a o,h'.get? a=some o→s.heap.get? a=none→h'.get? a=some o∧a≠L∧g.get? a=none:=fun a o e1 e2=>by
    refine ⟨e1,fun e=>?_,?_⟩
    · obtain ⟨o,e'⟩:=fr_get F;rw [show L=a from e.symm,e2] at e';cases e'
    · cases z:g.get? a with
      | none=>rfl
      | some o=>have:=F.keep _ _ z;rw [e2] at this;cases this
  have ap:∀z oz,(z,oz)∈news→@Ne Nat cA z→@Ne Nat cA' z:=fun z oz mz nz=>apart_of N mz nz hc
  refine ret h' tk' rs pr D a1 a2 a3 a4 cA' oA' ps' F' ?_ hT' hne (ap _ _ mx nx) (ap _ _ my ny) (ap _ _ mz nz) hc
  intro q hq
  rcases List.mem_cons.mp hq with rfl|hq
  · exact nw _ _ e0 g0
  rcases List.mem_cons.mp hq with rfl|hq
  · exact nw _ _ e1 g1
  rcases List.mem_cons.mp hq with rfl|hq
  · exact nw _ _ e2 g2
  exact N' q hq
theorem use_sp1 {cA hl u1 n1:Nat} {ps:Array Value} {oA:Obj} {x y z:Nat} {ox oy oz:Obj} (F:Fr g L s.heap m) (B:Below A₀ base outer g) (N:News g L s.heap news) (XB:(K w.params).In base) (TB:Top pb' loose' mean' mg' mb' base) (hA:A.frames=some (env::outer)) (hf:env.frame=some L) (hke:env.scope.kind= .function) (hh:A.handled=none) (hd:Nat.ble A.depth 540=true) (hu:Nat.ble A.units 5600=true) (W:Del (78,tabObj ps) news rest) (hT:TabL 30 49 "split_header_words.<locals>.<lambda>" ps cA oA) (m0:(hl,lstO #[.str (tx (head1 l)) u1] n1)∈news) (mc:(cA,oA)∈news) (hno:AllNe 78 rest) (hz:l.length≤3000) (h10:∀c∈l,c≠10) (q0:@Ne Nat hl 78) (r0:@Ne Nat hl cA) (q9:@Ne Nat cA 78) (mx:(x,ox)∈news) (my:(y,oy)∈news) (mz:(z,oz)∈news) (nx:@Ne Nat cA x) (ny:@Ne Nat cA y) (nz:@Ne Nat cA z) (ret:∀(h':Heap) (tk' rs pr D0 D a1 a2 a3 a4 a5 cA':Nat) (oA':Obj) (ps':Array Value),Fr g L h' m→News g L h' ((rs,lstO #[.ref pr] a4)::(pr,lstO #[.ref D0, .ref D] a3)::(D0,tupO [.str (tx [110]) a5, .none])::(D,tupO [.str (tx [107]) a1, .str (tx l) a2])::(78,tabObj ps')::(cA',oA')::rest)→TabL 30 49 "split_header_words.<locals>.<lambda>" ps' cA' oA'→@Ne Nat cA' 78→@Ne Nat cA' x→@Ne Nat cA' y→@Ne Nat cA' z→(cA'=cA∨s.heap.get? cA'=none)→Q (.ref rs) {s with heap:=h',toks:=tk'}):
    wpAny (model pw_il0090_01 w) A (call (.ref 83) [.ref hl]) Q E s:=by
  refine weaken (A':=ar 540 5600 A.guards (env::outer)) hh (Nat.le_of_ble_eq_true hd) hA.symm rfl (Nat.le_of_ble_eq_true hu) ?_
  have BS:=below_sub (as:=[hl,78,cA]) B F N hA hf hke (by
    intro a ha
    simp only [List.mem_cons,List.not_mem_nil,or_false] at ha
    rcases ha with rfl|rfl|rfl
    · exact ⟨_,m0⟩
    · exact ⟨_,W.mem.1⟩
    · exact ⟨_,mc⟩)
  refine c_sh1 w ⟨rfl,BS.stays,BS.frames⟩ XB TB (N _ m0).1 (N _ W.mem.1).1 (N _ mc).1 hT (by omega) h10 q0 r0 q9 fun h' tk' rs pr D0 D a1 a2 a3 a4 a5 cA' oA' ps' e0 e1 e2 e3 g0 g1 g2 g3 w0 w1 w2 w3 w4 w5 w6 w7 w8 w9 x1 x2 hT' hc hne kk=>?_
  have hcn:(cA',oA')∈news∨s.heap.get? cA'=none:=by
    rcases hc with rfl|hc
    · refine .inl ?_
      have:=kk _ _ q9 (N _ mc).1
      rw [x2] at this;cases this;exact mc
    · exact .inr hc
  obtain ⟨F',N'⟩:=news_tab F N W hno x1 x2 hcn kk
  have nw:∀a o,h'.get? a=some o→s.heap.get? a=none→h'.get? a=some o∧a≠L∧g.get? a=none:=fun a o e1 e2=>by
    refine ⟨e1,fun e=>?_,?_⟩
    · obtain ⟨o,e'⟩:=fr_get F;rw [show L=a from e.symm,e2] at e';cases e'
    · cases z:g.get? a with
      | none=>rfl
      | some o=>have:=F.keep _ _ z;rw [e2] at this;cases this
  have ap:∀z oz,(z,oz)∈news→@Ne Nat cA z→@Ne Nat cA' z:=fun z oz mz nz=>apart_of N mz nz hc
  refine ret h' tk' rs pr D0 D a1 a2 a3 a4 a5 cA' oA' ps' F' ?_ hT' hne (ap _ _ mx nx) (ap _ _ my ny) (ap _ _ mz nz) hc
  intro q hq
  rcases List.mem_cons.mp hq with rfl|hq
  · exact nw _ _ e0 g0
  rcases List.mem_cons.mp hq with rfl|hq
  · exact nw _ _ e1 g1
  rcases List.mem_cons.mp hq with rfl|hq
  · exact nw _ _ e2 g2
  rcases List.mem_cons.mp hq with rfl|hq
  · exact nw _ _ e3 g3
  exact N' q hq
theorem use_sp2 {cA hl u1 n1:Nat} {ps:Array Value} {oA:Obj} {x y z:Nat} {ox oy oz:Obj} (F:Fr g L s.heap m) (B:Below A₀ base outer g) (N:News g L s.heap news) (XB:(K w.params).In base) (TB:Top pb' loose' mean' mg' mb' base) (hA:A.frames=some (env::outer)) (hf:env.frame=some L) (hke:env.scope.kind= .function) (hh:A.handled=none) (hd:Nat.ble A.depth 540=true) (hu:Nat.ble A.units 5600=true) (W:Del (78,tabObj ps) news rest) (hT:TabL 30 49 "split_header_words.<locals>.<lambda>" ps cA oA) (m0:(hl,lstO #[.str (tx (head2 l)) u1] n1)∈news) (mc:(cA,oA)∈news) (hno:AllNe 78 rest) (hz:l.length≤3000) (h10:∀c∈l,c≠10) (q0:@Ne Nat hl 78) (r0:@Ne Nat hl cA) (q9:@Ne Nat cA 78) (mx:(x,ox)∈news) (my:(y,oy)∈news) (mz:(z,oz)∈news) (nx:@Ne Nat cA x) (ny:@Ne Nat cA y) (nz:@Ne Nat cA z) (ret:∀(h':Heap) (tk' rs p2 D1 pr D a1 a2 a3 a4 a5 a6 a7 cA':Nat) (oA':Obj) (ps':Array Value),Fr g L h' m→News g L h' ((rs,lstO #[.ref pr, .ref p2] a4)::(p2,lstO #[.ref D1] a5)::(D1,tupO [.str (tx [109]) a6, .str (tx [55]) a7])::(pr,lstO #[.ref D] a3)::(D,tupO [.str (tx [107]) a1, .str (tx l) a2])::(78,tabObj ps')::(cA',oA')::rest)→TabL 30 49 "split_header_words.<locals>.<lambda>" ps' cA' oA'→@Ne Nat cA' 78→@Ne Nat cA' x→@Ne Nat cA' y→@Ne Nat cA' z→(cA'=cA∨s.heap.get? cA'=none)→Q (.ref rs) {s with heap:=h',toks:=tk'}):
    wpAny (model pw_il0090_01 w) A (call (.ref 83) [.ref hl]) Q E s:=by
  refine weaken (A':=ar 540 5600 A.guards (env::outer)) hh (Nat.le_of_ble_eq_true hd) hA.symm rfl (Nat.le_of_ble_eq_true hu) ?_
  have BS:=below_sub (as:=[hl,78,cA]) B F N hA hf hke (by
    intro a ha
    simp only [List.mem_cons,List.not_mem_nil,or_false] at ha
    rcases ha with rfl|rfl|rfl
    · exact ⟨_,m0⟩
    · exact ⟨_,W.mem.1⟩
    · exact ⟨_,mc⟩)
  refine c_sh2 w ⟨rfl,BS.stays,BS.frames⟩ XB TB (N _ m0).1 (N _ W.mem.1).1 (N _ mc).1 hT (by omega) h10 q0 r0 q9 fun h' tk' rs p2 D1 pr D a1 a2 a3 a4 a5 a6 a7 cA' oA' ps' e0 e1 e2 e3 e4 g0 g1 g2 g3 g4 w0 w1 w2 w3 w4 w5 w6 w7 w8 w9 w10 w11 w12 w13 w14 x1 x2 hT' hc hne kk=>?_
  have hcn:(cA',oA')∈news∨s.heap.get? cA'=none:=by
    rcases hc with rfl|hc
    · refine .inl ?_
      have:=kk _ _ q9 (N _ mc).1
      rw [x2] at this;cases this;exact mc
    · exact .inr hc
  obtain ⟨F',N'⟩:=news_tab F N W hno x1 x2 hcn kk
  have nw:∀a o,h'.get? a=some o→s.heap.get? a=none→h'.get? a=some o∧a≠L∧g.get? a=none:=fun a o e1 e2=>by
    refine ⟨e1,fun e=>?_,?_⟩
    · obtain ⟨o,e'⟩:=fr_get F;rw [show L=a from e.symm,e2] at e';cases e'
    · cases z:g.get? a with
      | none=>rfl
      | some o=>have:=F.keep _ _ z;rw [e2] at this;cases this
  have ap:∀z oz,(z,oz)∈news→@Ne Nat cA z→@Ne Nat cA' z:=fun z oz mz nz=>apart_of N mz nz hc
  refine ret h' tk' rs p2 D1 pr D a1 a2 a3 a4 a5 a6 a7 cA' oA' ps' F' ?_ hT' hne (ap _ _ mx nx) (ap _ _ my ny) (ap _ _ mz nz) hc
  intro q hq
  rcases List.mem_cons.mp hq with rfl|hq
  · exact nw _ _ e0 g0
  rcases List.mem_cons.mp hq with rfl|hq
  · exact nw _ _ e1 g1
  rcases List.mem_cons.mp hq with rfl|hq
  · exact nw _ _ e2 g2
  rcases List.mem_cons.mp hq with rfl|hq
  · exact nw _ _ e3 g3
  rcases List.mem_cons.mp hq with rfl|hq
  · exact nw _ _ e4 g4
  exact N' q hq
end
end Mine
end
section
namespace Mine
noncomputable def ForPost (Q:Flow→Shared→Prop) (P:Shared→Prop):Flow→Shared→Prop
  | .ret v,s=>Q (.ret v) s
  | .brk,s=>Q .next s
  | _,s=>P s
inductive RebTo (s:Shared) (L I ax:Nat) (oI oa:Obj) (J:Heap→(Str→Option Value)→List (Addr × Obj)→Array GenState→Prop) (s₂:Shared):Prop
  | mk (h':Heap) (tk':Nat) (gs':Array GenState) (g':Heap) (m':Str→Option Value) (news':List (Addr × Obj)) (e:s₂={s with heap:=h',toks:=tk',gens:=gs'}) (F:Fr g' L h' m') (N:News g' L h' ((I,oI)::(ax,oa)::news')) (j:J g' m' news' gs'):RebTo s L I ax oI oa J s₂
inductive RebAt (s:Shared) (L ax c:Nat) (vs:List Value) (J:Nat→Nat→Heap→(Str→Option Value)→List (Addr × Obj)→Array GenState→Prop) (k:Nat) (s':Shared):Prop
  | mk (i:Nat) (h:Heap) (tk:Nat) (gs:Array GenState) (g:Heap) (m:Str→Option Value) (news:List (Addr × Obj)) (oI:Obj) (e:s'={s with heap:=h,toks:=tk,gens:=gs}) (hi:i≤vs.length) (hk:k=vs.length+1 - i) (F:Fr g L h m) (N:News g L h ((s.heap.objs.size,oI)::(ax,lstO vs.toArray c)::news)) (hit:h.IsListIter s.heap.objs.size ax i) (hJ:J s.heap.objs.size i g m news gs):RebAt s L ax c vs J k s'
section
variable {prog:Program} {w:World} {A:Around} {s:Shared} {env:Env}
theorem for_reb {x:Str} {px pos:Pos} {iter:Expr} {body:List Stmt} {Q:Flow→Shared→Prop} {E:Value→Shared→Prop} {g₀:Heap} {m₀:Str→Option Value} {news₀:List (Addr × Obj)} {ax c:Nat} {vs:List Value} {L:Addr}
    (hL:env.locals=L) (hx:env.kindOf x=some .local) (hp:(env.scope.kind== .class||(env.scope.kind== .module && env.locals !=env.globals))=false) (hh:A.handled=none) (hE:PassesOwn (model prog w) A env E)
    (F:Fr g₀ L s.heap m₀) (N:News g₀ L s.heap ((ax,lstO vs.toArray c)::news₀))
    (hit:∀R:Value→Shared→Prop,R (.ref ax) s→wpAny (model prog w) A (eval iter env) R E s) (hs:∀x,foldedSetIterable iter env x=pure x)
    (J:Nat→Nat→Heap→(Str→Option Value)→List (Addr × Obj)→Array GenState→Prop)
    (h0:∀I,(∀q∈(ax,lstO vs.toArray c)::news₀,@Ne Nat q.1 I)→J I 0 g₀ m₀ news₀ s.gens)
    (hJn:∀I i g m news gs,J I i g m news gs→∀q∈news,@Ne Nat q.1 I)
    (step:∀(I i:Nat) (v:Value) (g h:Heap) (m:Str→Option Value) (news:List (Addr × Obj)) (gs:Array GenState) (tk:Nat) (oI:Obj),vs[i]?=some v→J I i g m news gs→@Ne Nat ax I→Fr g L h (fun y=>if y=x then some v else m y)→News g L h ((I,oI)::(ax,lstO vs.toArray c)::news)→
      wpAny (model prog w) A (execs body env) (ForPost Q (RebTo s L I ax oI (lstO vs.toArray c) (J I (i+1)))) E {s with heap:=h,toks:=tk,gens:=gs})
    (done:∀(I:Nat) (g h:Heap) (m:Str→Option Value) (news:List (Addr × Obj)) (gs:Array GenState) (tk:Nat),J I vs.length g m news gs→Fr g L h m→News g L h ((ax,lstO vs.toArray c)::news)→Q .next {s with heap:=h,toks:=tk,gens:=gs}):
    wpAny (model prog w) A (exec (.For (.Name x px) iter body [] pos) env) Q E s:=by
  subst hL
  refine wpAny_For (hit _ ?_) hs
  have hl:s.heap.IsList ax vs.toArray:=⟨_,(N _ (.head _)).1,rfl,_,rfl⟩
  refine wpAny_pyIter_list hl ?_
  have lt:∀q∈(ax,lstO vs.toArray c)::news₀,@Ne Nat q.1 s.heap.objs.size:=fun q hq=>Nat.ne_of_lt (Heap.lt_size (N q hq).1)
  have hn:ax≠s.heap.objs.size:=lt _ (.head _)
  have W:=Walks.list (prog:=prog) (w:=w) hh s.heap.objs.size ax hn vs.toArray
  have N1:News g₀ env.locals (s.heap.push {cls:= .type "list_iterator",data:= .fields #[.ref ax, .int 0 0]}) ((s.heap.objs.size,{cls:= .type "list_iterator",data:= .fields #[.ref ax, .int 0 0]})::(ax,lstO vs.toArray c)::news₀):=fun q hq=>by
    rcases List.mem_cons.mp hq with rfl|hq
    · exact ⟨Heap.get?_push_size _ rfl,(Nat.ne_of_lt F.ns.lt).symm,next_is_new F⟩
    · exact ⟨Heap.get?_push_of_some _ (N q hq).1,(N q hq).2⟩
  refine codeAny_forLoop (R:=fun r s'=>match r with| .ok f=>Q f s'| .error e=>cameBackBy (model prog w) A env E e s')
    (RebAt s env.locals ax c vs J) ?_ (vs.length+1)
    ⟨0,_,_,_,g₀,m₀,news₀,_,rfl,Nat.zero_le _,rfl,F.push _,N1,⟨_,Heap.get?_push_size _ rfl,rfl,rfl⟩,h0 _ lt⟩
  rintro k s' ⟨i,h,tk,gs,g,m,news,oI,rfl,hi,rfl,F',N',hit',hJ⟩
  have hIL:s.heap.objs.size≠env.locals:=(N' _ (.head _)).2.1
  have hl':h.IsList ax vs.toArray:=⟨_,(N' _ (.tail _ (.head _))).1,rfl,_,rfl⟩
  have upd:∀h₁:Heap,(∀b o,b ∉ [s.heap.objs.size]→h.get? b=some o→h₁.get? b=some o)→Fr g env.locals h₁ m:=fun h₁ hk=>
    ⟨F'.ns.at' fun o e=>hk _ o (by simpa using Ne.symm hIL) e,fun b o e=>hk b o (by
      simp only [List.mem_singleton]
      intro q;have:=(N' _ (.head _)).2.2;rw [q,this] at e;cases e) (F'.keep b o e),F'.above⟩
  by_cases hlt:i<vs.length
  · refine W.item i _ _ _ (by simpa using hlt) ⟨hit',hl'⟩ fun v h₁ tk₁ hP hst₁ hk₁=>?_
    have F₁:=upd h₁ hk₁
    obtain ⟨oI₁,eI₁,hcI,hdI⟩:=hst₁.1
    refine wpAny_assign_Name (wpAny_storeName_local hx F₁.ns (fun h₂ hn₂ hs₂=>?_) hp)
    have F₂:=F₁.set hn₂ hs₂
    have eI₂:h₂.get? s.heap.objs.size=some oI₁:=(hs₂.2 _ hIL).trans eI₁
    have hNn:=hJn _ _ _ _ _ _ hJ
    have N₂:News g env.locals h₂ ((s.heap.objs.size,oI₁)::(ax,lstO vs.toArray c)::news):=fun q hq=>by
      rcases List.mem_cons.mp hq with rfl|hq
      · exact ⟨eI₂,(N' _ (.head _)).2⟩
      · have z:=N' q (.tail _ hq)
        refine ⟨(hs₂.2 _ z.2.1).trans (hk₁ _ _ ?_ z.1),z.2⟩
        simp only [List.mem_singleton]
        rcases List.mem_cons.mp hq with rfl|hq
        · exact hn
        · exact hNn q hq
    refine wpAny_mono (wpAny_passesOwn hE (step s.heap.objs.size i v g h₂ m news gs _ oI₁ (by simpa using hP) hJ hn F₂ N₂)) (fun f s₃ h₃=>?_) fun _ _ e=>e
    have go:RebTo s env.locals s.heap.objs.size ax oI₁ (lstO vs.toArray c) (J s.heap.objs.size (i+1)) s₃→∃m',m'<vs.length+1 - i∧RebAt s env.locals ax c vs J m' s₃:=by
      rintro ⟨h',tk',gs',g',m',news',rfl,F₃,N₃,hJ₃⟩
      exact ⟨vs.length+1 - (i+1),Nat.sub_lt_sub_left (Nat.lt_succ_of_lt hlt) (Nat.lt_succ_self i), .mk (i+1) h' tk' gs' g' m' news' oI₁ rfl hlt rfl F₃ N₃ ⟨_,(N₃ _ (.head _)).1,hcI,hdI⟩ hJ₃⟩
    cases f with
    | ret v=>exact h₃
    | brk=>exact h₃
    | cont=>exact go h₃
    | next=>exact go h₃
  · have hin:i=vs.length:=by omega
    subst hin
    have W':=W.done (s:={s with heap:=h,toks:=tk,gens:=gs})
    rw [List.size_toArray] at W'
    refine W' _ _ ⟨hit',hl'⟩ fun h₁ tk₁ hk₁=>wpAny_execs_nil ?_
    have hNn:=hJn _ _ _ _ _ _ hJ
    refine done s.heap.objs.size g h₁ m news gs tk₁ hJ (upd h₁ hk₁) fun q hq=>?_
    have z:=N' q (.tail _ hq)
    refine ⟨hk₁ _ _ ?_ z.1,z.2⟩
    simp only [List.mem_singleton]
    rcases List.mem_cons.mp hq with rfl|hq
    · exact hn
    · exact hNn q hq
end
end Mine
end
section
open PySem PySem.W PySem.W.X PyProof.Rows PySem.Calls PyProof.Rows.LCg PyProof.Rows.LCp
namespace Mine
noncomputable abbrev enO (it:Nat) (i:Int) (old:Value):Obj:={cls:= .type "enumerate",dict:=none,data:= .fields #[.none, .bool false, .ref it,rawInt i, .none,old],slots:=#[]}
noncomputable def AllInt (ys:List Value):Prop:=∀y∈ys,∃n t,y= .int n t
section
variable {prog:Program} {w:World} {A:Around} {E:Value→Shared→Prop} {s:Shared} {g:Heap} {L:Addr} {m:Str→Option Value} {env:Env}
inductive ElEnd (g:Heap) (L:Addr) (m:Str→Option Value) (led:List (Addr × Obj)) (s:Shared) (y:Value) (s':Shared):Prop
  | mk (n:Int) (t:Nat) (h':Heap) (tk':Nat) (e:y= .int n t) (e':s'={s with heap:=h',toks:=tk'}) (F:Fr g L h' m) (N:News g L h' led):ElEnd g L m led s y s'
theorem enum_block {elt iter:Expr} {x x₂:Str} {px px₂ tp:Pos} {tk} {scope:Scope} {cl:List (Str × Addr)} {pos:Pos} {s₂:Shared} {e it l c:Nat} {vs:List Value} {news:List (Addr × Obj)} {RR:Value→Addr→Result→Shared→Prop}
    (hh:A.handled=none) (hz:vs.length≤100) (hcell:∀y∈scope.names,y.2≠ .cell) (hkind:scope.kind= .function) (hx:scope.names.lookup x=some .local) (hx₂:scope.names.lookup x₂=some .local) (hxx:x≠x₂)
    (hit:s₂.heap.IsListIter it l 0) (F:Fr g L s₂.heap m) (N:News g L s₂.heap ((e,enO it 0 .none)::(l,lstO vs.toArray c)::news)) (hiL:it≠L) (hig:g.get? it=none) (hei:e≠it) (hli:l≠it) (hle:l≠e) (off:∀p∈news,p.1≠e∧p.1≠it)
    (helt:∀(i:Nat) (v:Value) (ti:Nat) (C D:Nat) (oC oe oi:Obj) (ys:List Value) (m₂:Str→Option Value) (h:Heap) (tk:Nat) (E':Value→Shared→Prop),vs[i]?=some v→NsObj oC m₂→m₂ x=some (.int i ti)→m₂ x₂=some v→Fr g L h m→
      News g L h ((C,oC)::(D,lst ys)::(e,oe)::(it,oi)::(l,lstO vs.toArray c)::news)→wpAny (model prog w) A (eval elt (compEnvC scope cl C env)) (ElEnd g L m ((C,oC)::(D,lst ys)::(e,oe)::(it,oi)::(l,lstO vs.toArray c)::news) {s₂ with heap:=h,toks:=tk}) E' {s₂ with heap:=h,toks:=tk})
    (hRR:∀(D C:Nat) (h:Heap) (tk:Nat) (m':Str→Option Value) (ys:List Value),ys.length=vs.length→AllInt ys→Fr g L h m→News g L h ((D,lst ys)::(l,lstO vs.toArray c)::news)→h.Ns C m'→g.get? C=none→C≠L→C≠D→C≠l→D≠L→(∀p∈news,p.1≠C)→(∀p∈(l,lstO vs.toArray c)::news,@Ne Nat p.1 D)→RR (.ref D) C (.ok .next) {s₂ with heap:=h,toks:=tk}):
    wpAny (model prog w) A (newList []) (fun acc s₃=>wpAny (model prog w) A (newFunctionEnv scope env.globals cl [] env.qual none .none (some env)) (fun cenv s₄=>
      codeAny (model prog w) A (.compStart (.ListComp elt [⟨.Tuple [.Name x px, .Name x₂ px₂] tk tp,iter,[],0⟩] scope pos) 0 (.ref e) acc {cenv with scope:=relabel scope env}) (RR acc cenv.locals) s₄) E s₃) E s₂:=by
  refine wpAny_newObj_type (wpAny_newFunctionEnv hcell (by intro y hy;simp at hy) (fun h₁ hns₁ hsb₁=>?_) hkind)
  dsimp only at hns₁ hsb₁ ⊢
  generalize hH2:s₂.heap.push {cls:= .type "list",dict:=none,data:= .seq ([]:List Value).toArray}=H2 at hns₁ hsb₁ ⊢
  have hC:H2.objs.size=s₂.heap.objs.size+1:=by rw [←hH2,Heap.size_push]
  have hDC:s₂.heap.objs.size≠H2.objs.size:=by rw [hC];exact Nat.ne_of_lt (Nat.lt_succ_self _)
  have below:∀b,b<s₂.heap.objs.size→b≠H2.objs.size∧b≠s₂.heap.objs.size:=fun b hb=>⟨by rw [hC];exact Nat.ne_of_lt (Nat.lt_succ_of_lt hb),Nat.ne_of_lt hb⟩
  have old:∀b o,s₂.heap.get? b=some o→h₁.get? b=some o:=fun b o e=>hsb₁.extBut b o (below b (Heap.lt_size e)).1 (Heap.get?_push_of_some _ (hH2▸Heap.get?_push_of_some _ e))
  have hacc:h₁.get? s₂.heap.objs.size=some (lst []):=hsb₁.extBut _ _ hDC (Heap.get?_push_of_some _ (hH2▸Heap.get?_push_size _ rfl))
  have fresh:∀a,s₂.heap.objs.size≤a→s₂.heap.get? a=none:=fun a ha=>by
    cases e:s₂.heap.get? a with
    | none=>rfl
    | some o'=>exact absurd (Heap.lt_size e) (Nat.not_lt.mpr ha)
  have fresh₀:∀a,s₂.heap.objs.size≤a→g.get? a=none:=fun a ha=>by
    cases e:g.get? a with
    | none=>rfl
    | some o'=>have:=F.keep a o' e;rw [fresh a ha] at this;cases this
  have hD₀:g.get? s₂.heap.objs.size=none:=fresh₀ _ (Nat.le_refl _)
  have hC₀:g.get? H2.objs.size=none:=fresh₀ _ (by rw [hC];exact Nat.le_succ _)
  have hLlt:L<s₂.heap.objs.size:=F.ns.lt
  have hDL:s₂.heap.objs.size≠L:=Ne.symm (below L hLlt).2
  have hCL:H2.objs.size≠L:=Ne.symm (below L hLlt).1
  have helt':e<s₂.heap.objs.size:=Heap.lt_size (N _ (.head _)).1
  obtain ⟨oit,hoit,_⟩:=id hit
  have hilt:it<s₂.heap.objs.size:=Heap.lt_size hoit
  have hllt:l<s₂.heap.objs.size:=Heap.lt_size (N _ (.tail _ (.head _))).1
  generalize hDd:s₂.heap.objs.size=D at*
  generalize hCc:H2.objs.size=C at*
  have nlt:∀p∈news,@LT.lt Nat _ p.1 D:=fun p hp=>by rw [←hDd];exact Heap.lt_size (N p (.tail _ (.tail _ hp))).1
  have loop:∀s₃:Shared,s₃={s₂ with heap:=h₁,toks:=s₂.toks+([]:List (Str × Value)).length}→
      codeAny (model prog w) A (.compLoop (.ListComp elt [⟨.Tuple [.Name x px, .Name x₂ px₂] tk tp,iter,[],0⟩] scope pos) 0 (.ref e) (.ref D) (compEnvC scope cl C env))
        (RR (.ref D) C) s₃:=by
    rintro s₃ rfl
    refine codeAny_compLoop_pair
      (fun k s'=>∃h' tk i ys m' old,s'={s₂ with heap:=h',toks:=tk}∧i≤vs.length∧k=vs.length+1 - i∧ys.length=i∧AllInt ys∧h'.IsListIter it l i∧Fr g L h' m∧h'.Ns C m'∧News g L h' ((D,lst ys)::(e,enO it (i:Int) old)::(l,lstO vs.toArray c)::news)) ?_ (vs.length+1)
      ⟨h₁,_,0,[],_, .none,rfl,Nat.zero_le _,rfl,rfl,(fun _ h=>nomatch h),⟨oit,old _ _ hoit,hit.choose_spec.2|>fun z=>by
        obtain ⟨o,a,b,d⟩:=hit
        rw [hoit] at a;cases a;exact ⟨b,d⟩⟩,F.keeps old,hns₁,fun p hp=>?_⟩
    · rintro k s' ⟨h',tk,i,ys,m',od,rfl,hi,rfl,hyl,hai,hit',F',hn',N'⟩
      have he':=(N' _ (.tail _ (.head _))).1
      have hl':h'.IsList l vs.toArray:=⟨_,(N' _ (.tail _ (.tail _ (.head _)))).1,rfl,_,rfl⟩
      by_cases hlt:i<vs.length
      · obtain ⟨v,hv⟩:∃v,vs.toArray[i]?=some v:=⟨vs[i],by simp [hlt]⟩
        have hDh:D<h'.objs.size:=Heap.lt_size (N' _ (.head _)).1
        have hCh:C<h'.objs.size:=hn'.lt
        have hLh:L<h'.objs.size:=F'.ns.lt
        have nlh:∀p∈(D,lst ys)::(e,enO it (i:Int) od)::(l,lstO vs.toArray c)::news,p.1<h'.objs.size:=fun p hp=>Heap.lt_size (N' p hp).1
        refine wpAny_pyNext_enum_item he' hit' hl' hv hei fun h₂ heo hit₂ ht₂ hz₂ hk₂=>?_
        dsimp only at heo ht₂ hz₂ hk₂
        refine wpAny_letOwnedTupleGo_enum heo fun h₃ he₃ hs₃=>?_
        have hsz₃:h₃.objs.size=h₂.objs.size:=hs₃.1
        have ht₃:IsTup h₃ h'.objs.size #[.int i tk,v]:=⟨_,(hs₃.2 _ (Nat.ne_of_gt (Heap.lt_size he'))).trans ht₂,rfl,_,rfl⟩
        refine assign_Tuple_tuple hh ht₃ rfl rfl fun h₅ hx₅=>?_
        have up5:∀b o,b≠e→b≠it→h'.get? b=some o→h₅.get? b=some o:=fun b o h1 h2 q=>hx₅ b o (by
          have hb:@LT.lt Nat _ b h'.objs.size:=Heap.lt_size q
          show @Ne Nat b h₃.objs.size
          omega) (hs₃.extBut b o h1 (hk₂ b o h1 h2 q))
        refine assignInOrder_cons (wpAny_assign_Name (wpAny_storeName_local (lookup_relabel_local hx) (hn'.at' fun o q=>up5 C o (by omega) (by omega) q) (fun h₆ hn₆ hs₆=>?_) (by simp [compEnvC,relabel,hkind])))
        refine assignInOrder_cons (wpAny_assign_Name (wpAny_storeName_local (lookup_relabel_local hx₂) hn₆ (fun h₇ hn₇ hs₇=>?_) (by simp [compEnvC,relabel,hkind])))
        refine assignInOrder_nil ?_
        have up7:∀b o,b≠C→b≠e→b≠it→h'.get? b=some o→h₇.get? b=some o:=fun b o hb h1 h2 q=>hs₇.extBut b o hb (hs₆.extBut b o hb (up5 b o h1 h2 q))
        have e7:∀b,b≠C→∀o,h₃.get? b=some o→h₇.get? b=some o:=fun b hb o q=>hs₇.extBut b o hb (hs₆.extBut b o hb (hx₅ b o (Nat.ne_of_lt (Heap.lt_size q)) q))
        obtain ⟨oC,heC,hoC⟩:=ns_obj hn₇
        have hgC:∀b o,g.get? b=some o→b≠C∧b≠e∧b≠it:=fun b o q=>by
          refine ⟨fun z=>?_,fun z=>?_,fun z=>?_⟩
          · rw [z,hC₀] at q;cases q
          · rw [z,(N' _ (.tail _ (.head _))).2.2] at q;cases q
          · rw [z,hig] at q;cases q
        have F₇:Fr g L h₇ m:=⟨F'.ns.at' fun o q=>up7 L o (Ne.symm hCL) (Ne.symm (N' _ (.tail _ (.head _))).2.1) (Ne.symm hiL) q,fun b o q=>up7 b o (hgC b o q).1 (hgC b o q).2.1 (hgC b o q).2.2 (F'.keep b o q),F'.above⟩
        obtain ⟨oi₂,hoi₂,hci₂,hdi₂⟩:=id hit₂
        have heI:h₇.get? it=some oi₂:=e7 it (by omega) _ (hs₃.extBut it _ (Ne.symm hei) hoi₂)
        have heE:h₇.get? e=some (enO it ((i:Int)+1) v):=e7 e (by omega) _ he₃
        have N₇:News g L h₇ ((C,oC)::(D,lst ys)::(e,enO it ((i:Int)+1) v)::(it,oi₂)::(l,lstO vs.toArray c)::news):=fun p hp=>by
          rcases List.mem_cons.mp hp with rfl|hp
          · exact ⟨heC,hCL,hC₀⟩
          rcases List.mem_cons.mp hp with rfl|hp
          · exact ⟨up7 _ _ hDC (by show D≠e;omega) (by show D≠it;omega) (N' _ (.head _)).1,(N' _ (.head _)).2⟩
          rcases List.mem_cons.mp hp with rfl|hp
          · exact ⟨heE,(N' (e,enO it (i:Int) od) (.tail _ (.head _))).2⟩
          rcases List.mem_cons.mp hp with rfl|hp
          · exact ⟨heI,hiL,hig⟩
          rcases List.mem_cons.mp hp with rfl|hp
          · exact ⟨up7 _ _ (by show l≠C;omega) hle hli (N' _ (.tail _ (.tail _ (.head _)))).1,(N' _ (.tail _ (.tail _ (.head _)))).2⟩
          · have:=nlt p hp
            exact ⟨up7 p.1 p.2 (by show @Ne Nat p.1 C;omega) (off p hp).1 (off p hp).2 (N' _ (.tail _ (.tail _ (.tail _ hp)))).1,(N' _ (.tail _ (.tail _ (.tail _ hp)))).2⟩
        refine wpAny_mono (helt i v tk C D oC _ oi₂ ys _ h₇ _ _ (by simpa using hv) hoC (by simp [hxx]) (by simp) F₇ N₇) (fun y s₄ h₄=>?_) fun _ _ q=>q
        obtain ⟨n,t,h₈,tk₈,rfl,rfl,F₈,N₈⟩:=h₄
        have zC:=(N₈ _ (.head _)).1
        have zD:=(N₈ _ (.tail _ (.head _))).1
        refine append_at (hsz:=by show ys.toArray.size≤sizeLine;have:sizeLine=16777216:=rfl;rw [List.size_toArray];omega) zD fun h₉ hs₉ hD₉=>?_
        have zI:=(N₈ _ (.tail _ (.tail _ (.tail _ (.head _))))).1
        refine ⟨vs.length+1 - (i+1),by omega,h₉,tk₈,i+1,ys++[.int n t],_,v,rfl,hlt,rfl,by rw [List.length_append,List.length_singleton,hyl],fun y hy=>?_,⟨_,hs₉.extBut it oi₂ (by show @Ne Nat it D;omega) zI,hci₂,hdi₂⟩,F₈.change hs₉ hDL hD₀,(hoC.ns zC).sameBut hs₉ (Ne.symm hDC),fun p hp=>?_⟩
        · rcases List.mem_append.mp hy with hy|hy
          · exact hai y hy
          · exact ⟨n,t,List.mem_singleton.mp hy⟩
        · rcases List.mem_cons.mp hp with rfl|hp
          · exact ⟨hD₉.trans (congrArg some (lst_snoc ys _)),hDL,hD₀⟩
          rcases List.mem_cons.mp hp with rfl|hp
          · exact ⟨hs₉.extBut _ _ (by show e≠D;omega) (by have:=(N₈ (e,_) (.tail _ (.tail _ (.head _)))).1;simpa using this),(N' (e,enO it (i:Int) od) (.tail _ (.head _))).2⟩
          rcases List.mem_cons.mp hp with rfl|hp
          · exact ⟨hs₉.extBut _ _ (by show l≠D;omega) (N₈ _ (.tail _ (.tail _ (.tail _ (.tail _ (.head _)))))).1,(N' _ (.tail _ (.tail _ (.head _)))).2⟩
          · have:=nlt p hp
            exact ⟨hs₉.extBut p.1 p.2 (by show @Ne Nat p.1 D;omega) (N₈ _ (.tail _ (.tail _ (.tail _ (.tail _ (.tail _ hp)))))).1,(N' _ (.tail _ (.tail _ (.tail _ hp)))).2⟩
      · have hin:i=vs.length:=by omega
        subst hin
        refine wpAny_pyNext_enum_end hh he' hit' hl' (by simp) fun h₁ he₁=>?_
        have kp:∀b o,b≠it→h'.get? b=some o→h₁.get? b=some o:=fun b o hb e=>he₁ b o hb e
        refine hRR D C h₁ tk m' ys hyl hai ⟨F'.ns.at' fun o e=>kp _ o (Ne.symm hiL) e,fun b o e=>kp b o (fun q=>by rw [q,hig] at e;cases e) (F'.keep b o e),F'.above⟩ (fun p hp=>?_) (hn'.at' fun o e=>kp C o (by omega) e) hC₀ hCL (Ne.symm hDC) (by omega) hDL (fun p hp=>?_) (fun p hp=>?_)
        · rcases List.mem_cons.mp hp with rfl|hp
          · exact ⟨kp _ _ (by show D≠it;omega) (N' _ (.head _)).1,(N' _ (.head _)).2⟩
          · rcases List.mem_cons.mp hp with rfl|hp
            · exact ⟨kp _ _ hli (N' _ (.tail _ (.tail _ (.head _)))).1,(N' _ (.tail _ (.tail _ (.head _)))).2⟩
            · exact ⟨kp _ _ (off p hp).2 (N' _ (.tail _ (.tail _ (.tail _ hp)))).1,(N' _ (.tail _ (.tail _ (.tail _ hp)))).2⟩
        · have:=nlt p hp;show @Ne Nat p.1 C;omega
        · rcases List.mem_cons.mp hp with rfl|hp
          · exact Nat.ne_of_lt hllt
          · exact Nat.ne_of_lt (nlt p hp)
    · rcases List.mem_cons.mp hp with rfl|hp
      · exact ⟨hacc,hDL,hD₀⟩
      · exact ⟨old _ _ (N p hp).1,(N p hp).2⟩
  exact codeAny_compStart_list (loop _ rfl) (wpAny_pyIter_enum (old _ _ (N _ (.head _)).1) (loop _ rfl))
inductive EnSrc (prog:Program) (w:World) (A:Around) (g:Heap) (L:Addr) (m:Str→Option Value) (env:Env) (elt:Expr) (x x₂:Str) (scope:Scope) (cl:List (Str × Addr)) (Q:Value→Shared→Prop) (xv:Value) (s₂:Shared):Prop
  | mk (e it l c:Nat) (vs:List Value) (news:List (Addr × Obj)) (h_e:xv= .ref e) (h_hh:A.handled=none) (h_hz:vs.length≤100) (h_hit:s₂.heap.IsListIter it l 0) (h_F:Fr g L s₂.heap m) (h_N:News g L s₂.heap ((e,enO it 0 .none)::(l,lstO vs.toArray c)::news)) (h_hiL:it≠L) (h_hig:g.get? it=none) (h_hei:e≠it) (h_hli:l≠it) (h_hle:l≠e) (h_off:(∀p∈news,p.1≠e∧p.1≠it)) (h_helt:(∀(i:Nat) (v:Value) (ti:Nat) (C D:Nat) (oC oe oi:Obj) (ys:List Value) (m₂:Str→Option Value) (h:Heap) (tk:Nat) (E':Value→Shared→Prop),vs[i]?=some v→NsObj oC m₂→m₂ x=some (.int i ti)→m₂ x₂=some v→Fr g L h m→
      News g L h ((C,oC)::(D,lst ys)::(e,oe)::(it,oi)::(l,lstO vs.toArray c)::news)→wpAny (model prog w) A (eval elt (compEnvC scope cl C env)) (ElEnd g L m ((C,oC)::(D,lst ys)::(e,oe)::(it,oi)::(l,lstO vs.toArray c)::news) {s₂ with heap:=h,toks:=tk}) E' {s₂ with heap:=h,toks:=tk})) (h_ret:∀(D:Nat) (h:Heap) (tk:Nat) (ys:List Value),ys.length=vs.length→AllInt ys→Fr g L h m→News g L h ((D,lst ys)::(l,lstO vs.toArray c)::news)→(∀p∈(l,lstO vs.toArray c)::news,@Ne Nat p.1 D)→Q (.ref D) {s₂ with heap:=h,toks:=tk}):EnSrc prog w A g L m env elt x x₂ scope cl Q xv s₂
theorem enum_list {elt iter:Expr} {x x₂:Str} {px px₂ tp:Pos} {tk} {scope:Scope} {cl:List (Str × Addr)} {pos:Pos} {Q:Value→Shared→Prop} (_F₀:Fr g L s.heap m)
    (hclos:closureFor scope env=pure cl) (hcell:∀z∈scope.names,z.2≠ .cell) (hkind:scope.kind= .function)
    (hnames:∀z∈scope.names,z.2= .local→scope.names.lookup z.1=some .local) (hx:scope.names.lookup x=some .local) (hx₂:scope.names.lookup x₂=some .local) (hxx:x≠x₂)
    (h:wpAny (model prog w) A (eval iter env) (EnSrc prog w A g L m env elt x x₂ scope cl Q) E s)
    (hs:∀x,foldedSetIterable iter env x=pure x):
    wpAny (model prog w) A (eval (.ListComp elt [⟨.Tuple [.Name x px, .Name x₂ px₂] tk tp,iter,[],0⟩] scope pos) env) Q E s:=by
  refine wpAny_comprehension_free (use:=none) rfl hs hclos hkind hnames (wpAny_mono h (fun xv s₁ h₁=>?_) fun _ _ e=>e)
  obtain ⟨e,it,l,c,vs,news,rfl,hh,hz,hit,F,N,hiL,hig,hei,hli,hle,off,helt,fin⟩:=h₁
  refine wpAny_pyIter_enum (N _ (.head _)).1 ?_
  refine enum_block hh hz hcell hkind hx hx₂ hxx hit F N hiL hig hei hli hle off helt ?_
  intro D C h' tk m' ys hyl hai F' N' hn hC₀ hCL hCD hCl hDL offC offD
  refine ⟨m',hn,fun h'' hs''=>fin D h'' tk ys hyl hai (F'.change hs'' hCL hC₀) (fun p hp=>?_) offD⟩
  refine ⟨hs''.extBut _ _ ?_ (N' p hp).1,(N' p hp).2⟩
  rcases List.mem_cons.mp hp with rfl|hp
  · exact Ne.symm hCD
  rcases List.mem_cons.mp hp with rfl|hp
  · exact Ne.symm hCl
  · exact offC p hp
theorem use_enum {a n:Nat} {its:Array Value} {news:List (Addr × Obj)} {Q:Value→Shared→Prop} (F:Fr g L s.heap m) (N:News g L s.heap news) (hm:(a,lstO its n)∈news)
    (h:∀(e it:Nat) (h':Heap),h'.IsListIter it a 0→Fr g L h' m→News g L h' ((e,enO it 0 .none)::news)→it≠L→g.get? it=none→e≠it→(∀p∈news,p.1≠e∧p.1≠it)→Q (.ref e) {s with heap:=h'}):
    wpAny (model prog w) A (call (.type "enumerate") [.ref a]) Q E s:=by
  have fr:∀b,s.heap.objs.size≤b→g.get? b=none:=fun b hb=>by
    cases z:g.get? b with
    | none=>rfl
    | some o=>exact absurd (Heap.lt_size (F.keep _ _ z)) (Nat.not_lt.mpr hb)
  have hL:@LT.lt Nat _ L s.heap.objs.size:=F.ns.lt
  refine call_enumerate_1 (N _ hm).1 fun h' he hit hsz kk=>?_
  have lt:∀p∈news,@LT.lt Nat _ p.1 s.heap.objs.size:=fun p hp=>Heap.lt_size (N p hp).1
  refine h _ s.heap.objs.size h' hit (F.keeps kk) (fun p hp=>?_) (by show @Ne Nat _ L;omega) (fr _ (Nat.le_refl _)) (by show @Ne Nat _ _;omega) (fun p hp=>?_)
  · rcases List.mem_cons.mp hp with rfl|hp
    · exact ⟨he,(by show @Ne Nat _ L;omega),fr _ (Nat.le_succ _)⟩
    · exact ⟨kk _ _ (N p hp).1,(N p hp).2⟩
  · have:=lt p hp
    exact ⟨by show @Ne Nat _ _;omega,by show @Ne Nat _ _;omega⟩
end
end Mine
end
section
namespace Mine
open Mine.Re
theorem c_line0 (w:World) {k1 k2:Nat} {l:List Nat} {ps:Array Value} {pv:Program}
    (Bh:Below (ar 530 5500 gd outer) base outer (hideAll s.heap [802])) (XB:(K w.params).In base) (TB:Top pv loose mean mg mb base)
    (hg0:s.heap.get? 802=some (tabObj ps)) (ht:TriplesOk ps.toList) (hG:AllBare s.gens) (ha:∀c∈l,c∈alph) (hb:32∈l) (hz:l.length≤3000)
    (hret:∀(h':Heap) (tk' t:Nat) (gs':Array GenState) (ps':Array Value),h'.get? 802=some (tabObj ps')→TriplesOk ps'.toList→AllBare gs'→(∀b o,b≠802→(∀e∈outer,e.frame≠some b)→s.heap.get? b=some o→h'.get? b=some o)→FS outer s.heap h'→Q (.str (tx (line0 l)) t) {s with heap:=h',toks:=tk',gens:=gs'}):
    wpAny (model pw_il0090_01 w) (ar 530 5500 gd outer) (call (.ref 862) [.int 0 k1, .str (tx l) k2]) Q E s:=by
  have hso:=strOk_tx ha
  have h10:∀c∈l,c≠10:=fun c hc e=>by have:=ha c hc;subst e;revert this;decide
  have hp:1≤l.length:=List.length_pos_of_mem hb
  have X:=XB.keeps Bh.stays
  have T:=TB.keeps Bh.stays
  have eK:rw_il0090_01=rw_il0090_01:=rfl
  revert eK X XB
  k_fill
  intro XB X eK
  refine wpAny_call ?_
  k_dflt (refine' own_enter (chg:=[(802,tabObj ps)]) ?k1 ?k2 ?k3 ?k4 ?k6 ?k7 ?k8 ?k9 ?kB ?_ ?c2 ?c3 ?c4 ?c5;(case k1=>exact Bh);(case k2=>(intro q hq;simp only [List.mem_cons,List.not_mem_nil,or_false] at hq;subst hq;exact hg0));(case k3=>exact X);(case k4=>exact T);(case k6=>k_is);(case k7=>k_is);(case k8=>exact Nat.le_of_ble_eq_true rfl);(case k9=>first|exact BindsTo.of_eq rfl|exact binds_K (Frag.In.keeps X fun b o e=>of_hideAll _ e) rfl (by k_is) rfl rfl rfl);(case c5=>decide);(case kB=>exact locs rfl);(case c2=>exact rfl);(case c3=>exact rfl);(case c4=>exact rfl);k_whole;intro g' L' h' hg' hL' F' N' B' X' T' hlt';clear X T Bh;(try dsimp only);(try k_fold))
  (try (refine let_ctx ?_;intro A9 e9))
  repeat' (first|(k_unfold;(try dsimp only))|((fail_if_success (fail_if_success (with_reducible refine is_cmp ?_)));first|(k_here;(with_reducible show wpAny _ _ (compareOp CmpOp.NotEq (Value.ref _) (Value.ref _)) _ _ _);k_dflt (refine' same_ne (by ked_read) (by ked_read) (by (rename PyData.strOk _=true=>hS9);simp [SeqAt.shaped,PyData.canLay0,PyData.canLayAll0,PyData.depth,PyData.depthAll,hS9,ofs7,ofsxy,ofsk,ofsn,ofsm,sok7,sokxy,sokk,sokn,sokm]) (by (rename PyData.strOk _=true=>hS9);simp [SeqAt.shaped,PyData.canLay0,PyData.canLayAll0,PyData.depth,PyData.depthAll,hS9,ofs7,ofsxy,ofsk,ofsn,ofsm,sok7,sokxy,sokk,sokn,sokm]) (by exact rfl) (by simp [PyData.eqv,PyData.eqvAll,ofs7,ofsxy,ofsk,ofsn,ofsm]) ?_;k_whole)))|((fail_if_success (fail_if_success (with_reducible refine is_call ?_)));first|(k_here;(with_reducible show wpAny _ _ (call (Value.ref 800) [Value.str (tx _) _]) _ _ _);k_dflt (refine' use_split0 (by k_asm) (by k_asm) (by k_asm) (by k_asm) (by k_asm) (by assumption) (by assumption) (by assumption) (by assumption) (by assumption) (by exact rfl) (by exact rfl) (by exact rfl) (by exact rfl) (by exact rfl) (by exact rfl) ?_;k_whole);intro g2' h' tk' a' c1' t1' Bx' F' Xx' Tx' N' n1' z1' z2' z3')|(k_here;(with_reducible show wpAny _ _ (call (Value.ref 807) [Value.ref _]) _ _ _);k_dflt (refine' use_join0 (by k_asm) (by k_asm) (by k_asm) (by assumption) (by assumption) (by exact rfl) (by exact rfl) (by exact rfl) (by exact rfl) (by exact rfl) (by exact rfl) (by k_mem) (by repeat (first|exact End1.here|apply End1.cons)) (by assumption) (by repeat (first|exact trivial|refine And.intro (by k_ne) ?_)) (by assumption) (by assumption) (by assumption) (by assumption) ?_;k_whole);intro h' tk' t' gs' ps' F' N' e2' e3'))|(k_end;kc_close)|walk1|(dsimp only;walk1)|(leave1;(try dsimp only)))
  show Q _ _
  rename Fr _ _ _ _=>F9
  rename News _ _ _ _=>N9
  rename AllBare _=>G9
  rename TriplesOk _=>O9
  rename FS _ _ _=>S9
  rename SameOff _ _ _=>Z9
  exact hret _ _ _ _ _ (News.get N9 (by k_mem)) O9 G9 (kept_line1 hg' Z9 F9) (fs_line hg' B' S9 F9)
end Mine
end
section
namespace Mine
open Mine.Re
theorem c_line1 (w:World) {k1 k2:Nat} {l:List Nat} {ps:Array Value} {pv:Program}
    (Bh:Below (ar 530 5500 gd outer) base outer (hideAll s.heap [802])) (XB:(K w.params).In base) (TB:Top pv loose mean mg mb base)
    (hg0:s.heap.get? 802=some (tabObj ps)) (ht:TriplesOk ps.toList) (hG:AllBare s.gens) (ha:∀c∈l,c∈alph) (hb:32∈l) (hz:l.length≤3000)
    (hret:∀(h':Heap) (tk' t:Nat) (gs':Array GenState) (ps':Array Value),h'.get? 802=some (tabObj ps')→TriplesOk ps'.toList→AllBare gs'→(∀b o,b≠802→(∀e∈outer,e.frame≠some b)→s.heap.get? b=some o→h'.get? b=some o)→FS outer s.heap h'→Q (.str (tx (line1 l)) t) {s with heap:=h',toks:=tk',gens:=gs'}):
    wpAny (model pw_il0090_01 w) (ar 530 5500 gd outer) (call (.ref 862) [.int 1 k1, .str (tx l) k2]) Q E s:=by
  have hso:=strOk_tx ha
  have h10:∀c∈l,c≠10:=fun c hc e=>by have:=ha c hc;subst e;revert this;decide
  have hp:1≤l.length:=List.length_pos_of_mem hb
  have X:=XB.keeps Bh.stays
  have T:=TB.keeps Bh.stays
  have eK:rw_il0090_01=rw_il0090_01:=rfl
  revert eK X XB
  k_fill
  intro XB X eK
  refine wpAny_call ?_
  k_dflt (refine' own_enter (chg:=[(802,tabObj ps)]) ?k1 ?k2 ?k3 ?k4 ?k6 ?k7 ?k8 ?k9 ?kB ?_ ?c2 ?c3 ?c4 ?c5;(case k1=>exact Bh);(case k2=>(intro q hq;simp only [List.mem_cons,List.not_mem_nil,or_false] at hq;subst hq;exact hg0));(case k3=>exact X);(case k4=>exact T);(case k6=>k_is);(case k7=>k_is);(case k8=>exact Nat.le_of_ble_eq_true rfl);(case k9=>first|exact BindsTo.of_eq rfl|exact binds_K (Frag.In.keeps X fun b o e=>of_hideAll _ e) rfl (by k_is) rfl rfl rfl);(case c5=>decide);(case kB=>exact locs rfl);(case c2=>exact rfl);(case c3=>exact rfl);(case c4=>exact rfl);k_whole;intro g' L' h' hg' hL' F' N' B' X' T' hlt';clear X T Bh;(try dsimp only);(try k_fold))
  (try (refine let_ctx ?_;intro A9 e9))
  repeat' (first|(k_unfold;(try dsimp only))|((fail_if_success (fail_if_success (with_reducible refine is_cmp ?_)));first|(k_here;(with_reducible show wpAny _ _ (compareOp CmpOp.NotEq (Value.ref _) (Value.ref _)) _ _ _);k_dflt (refine' same_ne (by ked_read) (by ked_read) (by (rename PyData.strOk _=true=>hS9);simp [SeqAt.shaped,PyData.canLay0,PyData.canLayAll0,PyData.depth,PyData.depthAll,hS9,ofs7,ofsxy,ofsk,ofsn,ofsm,sok7,sokxy,sokk,sokn,sokm]) (by (rename PyData.strOk _=true=>hS9);simp [SeqAt.shaped,PyData.canLay0,PyData.canLayAll0,PyData.depth,PyData.depthAll,hS9,ofs7,ofsxy,ofsk,ofsn,ofsm,sok7,sokxy,sokk,sokn,sokm]) (by exact rfl) (by simp [PyData.eqv,PyData.eqvAll,ofs7,ofsxy,ofsk,ofsn,ofsm]) ?_;k_whole)))|((fail_if_success (fail_if_success (with_reducible refine is_call ?_)));first|(k_here;(with_reducible show wpAny _ _ (call (Value.ref 800) [Value.str (tx _) _]) _ _ _);k_dflt (refine' use_split1 (by k_asm) (by k_asm) (by k_asm) (by k_asm) (by k_asm) (by assumption) (by assumption) (by assumption) (by assumption) (by assumption) (by exact rfl) (by exact rfl) (by exact rfl) (by exact rfl) (by exact rfl) (by exact rfl) ?_;k_whole);intro g2' h' tk' a' c1' t1' t2' Bx' F' Xx' Tx' N' n1' z1' z2' z3')|(k_here;(with_reducible show wpAny _ _ (call (Value.ref 807) [Value.ref _]) _ _ _);k_dflt (refine' use_join1 (by k_asm) (by k_asm) (by k_asm) (by assumption) (by assumption) (by exact rfl) (by exact rfl) (by exact rfl) (by exact rfl) (by exact rfl) (by exact rfl) (by k_mem) (by repeat (first|exact End1.here|apply End1.cons)) (by assumption) (by repeat (first|exact trivial|refine And.intro (by k_ne) ?_)) (by assumption) (by assumption) (by assumption) (by assumption) ?_;k_whole);intro h' tk' t' gs' ps' F' N' e2' e3'))|(k_end;kc_close)|walk1|(dsimp only;walk1)|(leave1;(try dsimp only)))
  show Q _ _
  rename Fr _ _ _ _=>F9
  rename News _ _ _ _=>N9
  rename AllBare _=>G9
  rename TriplesOk _=>O9
  rename FS _ _ _=>S9
  rename SameOff _ _ _=>Z9
  exact hret _ _ _ _ _ (News.get N9 (by k_mem)) O9 G9 (kept_line1 hg' Z9 F9) (fs_line hg' B' S9 F9)
end Mine
end
section
namespace Mine
open Mine.Re
theorem c_line2 (w:World) {k1 k2:Nat} {l:List Nat} {ps:Array Value} {pv:Program}
    (Bh:Below (ar 530 5500 gd outer) base outer (hideAll s.heap [802])) (XB:(K w.params).In base) (TB:Top pv loose mean mg mb base)
    (hg0:s.heap.get? 802=some (tabObj ps)) (ht:TriplesOk ps.toList) (hG:AllBare s.gens) (ha:∀c∈l,c∈alph) (hb:32∈l) (hz:l.length≤3000)
    (hret:∀(h':Heap) (tk' t:Nat) (gs':Array GenState) (ps':Array Value),h'.get? 802=some (tabObj ps')→TriplesOk ps'.toList→AllBare gs'→(∀b o,b≠802→(∀e∈outer,e.frame≠some b)→s.heap.get? b=some o→h'.get? b=some o)→FS outer s.heap h'→Q (.str (tx (line2 l)) t) {s with heap:=h',toks:=tk',gens:=gs'}):
    wpAny (model pw_il0090_01 w) (ar 530 5500 gd outer) (call (.ref 862) [.int 2 k1, .str (tx l) k2]) Q E s:=by
  have hso:=strOk_tx ha
  have h10:∀c∈l,c≠10:=fun c hc e=>by have:=ha c hc;subst e;revert this;decide
  have hp:1≤l.length:=List.length_pos_of_mem hb
  have X:=XB.keeps Bh.stays
  have T:=TB.keeps Bh.stays
  have eK:rw_il0090_01=rw_il0090_01:=rfl
  revert eK X XB
  k_fill
  intro XB X eK
  refine wpAny_call ?_
  k_dflt (refine' own_enter (chg:=[(802,tabObj ps)]) ?k1 ?k2 ?k3 ?k4 ?k6 ?k7 ?k8 ?k9 ?kB ?_ ?c2 ?c3 ?c4 ?c5;(case k1=>exact Bh);(case k2=>(intro q hq;simp only [List.mem_cons,List.not_mem_nil,or_false] at hq;subst hq;exact hg0));(case k3=>exact X);(case k4=>exact T);(case k6=>k_is);(case k7=>k_is);(case k8=>exact Nat.le_of_ble_eq_true rfl);(case k9=>first|exact BindsTo.of_eq rfl|exact binds_K (Frag.In.keeps X fun b o e=>of_hideAll _ e) rfl (by k_is) rfl rfl rfl);(case c5=>decide);(case kB=>exact locs rfl);(case c2=>exact rfl);(case c3=>exact rfl);(case c4=>exact rfl);k_whole;intro g' L' h' hg' hL' F' N' B' X' T' hlt';clear X T Bh;(try dsimp only);(try k_fold))
  (try (refine let_ctx ?_;intro A9 e9))
  repeat' (first|(k_unfold;(try dsimp only))|((fail_if_success (fail_if_success (with_reducible refine is_cmp ?_)));first|(k_here;(with_reducible show wpAny _ _ (compareOp CmpOp.NotEq (Value.ref _) (Value.ref _)) _ _ _);k_dflt (refine' same_ne (by ked_read) (by ked_read) (by (rename PyData.strOk _=true=>hS9);simp [SeqAt.shaped,PyData.canLay0,PyData.canLayAll0,PyData.depth,PyData.depthAll,hS9,ofs7,ofsxy,ofsk,ofsn,ofsm,sok7,sokxy,sokk,sokn,sokm]) (by (rename PyData.strOk _=true=>hS9);simp [SeqAt.shaped,PyData.canLay0,PyData.canLayAll0,PyData.depth,PyData.depthAll,hS9,ofs7,ofsxy,ofsk,ofsn,ofsm,sok7,sokxy,sokk,sokn,sokm]) (by exact rfl) (by simp [PyData.eqv,PyData.eqvAll,ofs7,ofsxy,ofsk,ofsn,ofsm]) ?_;k_whole)))|((fail_if_success (fail_if_success (with_reducible refine is_call ?_)));first|(k_here;(with_reducible show wpAny _ _ (call (Value.ref 800) [Value.str (tx _) _]) _ _ _);k_dflt (refine' use_split2 (by k_asm) (by k_asm) (by k_asm) (by k_asm) (by k_asm) (by assumption) (by assumption) (by assumption) (by assumption) (by assumption) (by exact rfl) (by exact rfl) (by exact rfl) (by exact rfl) (by exact rfl) (by exact rfl) ?_;k_whole);intro g2' h' tk' a' c1' t1' t2' Bx' F' Xx' Tx' N' n1' z1' z2' z3')|(k_here;(with_reducible show wpAny _ _ (call (Value.ref 807) [Value.ref _]) _ _ _);k_dflt (refine' use_join2 (by k_asm) (by k_asm) (by k_asm) (by assumption) (by assumption) (by exact rfl) (by exact rfl) (by exact rfl) (by exact rfl) (by exact rfl) (by exact rfl) (by k_mem) (by repeat (first|exact End1.here|apply End1.cons)) (by assumption) (by repeat (first|exact trivial|refine And.intro (by k_ne) ?_)) (by assumption) (by assumption) (by assumption) (by assumption) ?_;k_whole);intro h' tk' t' gs' ps' F' N' e2' e3'))|(k_end;kc_close)|walk1|(dsimp only;walk1)|(leave1;(try dsimp only)))
  show Q _ _
  rename Fr _ _ _ _=>F9
  rename News _ _ _ _=>N9
  rename AllBare _=>G9
  rename TriplesOk _=>O9
  rename FS _ _ _=>S9
  rename SameOff _ _ _=>Z9
  exact hret _ _ _ _ _ (News.get N9 (by k_mem)) O9 G9 (kept_line1 hg' Z9 F9) (fs_line hg' B' S9 F9)
end Mine
end
section
namespace Mine
open Mine.Re
section
variable {w:World} {A:Around} {g:Heap} {L:Addr} {news:List (Addr × Obj)} {s:Shared} {Q E:Value→Shared→Prop} {l:List Nat}
noncomputable def dPair (c:Nat) (d:PyData):PyData:= .tuple [.str (tx [c]),d]
theorem r_tup {t k:Nat} {y:Str} {v:Value} {d:PyData} {as:List Addr} {c:Nat} (N:News g L s.heap news) (hy:y=tx [c]) (m:(t,tupO [.str y k,v])∈news) (hv:Reads s.heap v d as):∃as,Reads s.heap (.ref t) (dPair c d) as:=by
  subst hy
  exact ⟨_,reads_tuple_at (N _ m).1 rfl rfl (.cons (Reads.str _ _) (.cons hv .nil))⟩
theorem r_one {a b n:Nat} {d:PyData} (N:News g L s.heap news) (m:(a,lstO #[.ref b] n)∈news) (h:∃as,Reads s.heap (.ref b) d as):∃as,Reads s.heap (.ref a) (.list [d]) as:=by
  obtain ⟨as,h⟩:=h
  exact ⟨_,reads_list_at (N _ m).1 rfl rfl (.cons h .nil)⟩
theorem r_two {a b c n:Nat} {d e:PyData} (N:News g L s.heap news) (m:(a,lstO #[.ref b, .ref c] n)∈news) (h:∃as,Reads s.heap (.ref b) d as) (h':∃as,Reads s.heap (.ref c) e as):∃as,Reads s.heap (.ref a) (.list [d,e]) as:=by
  obtain ⟨as,h⟩:=h
  obtain ⟨bs,h'⟩:=h'
  exact ⟨_,reads_list_at (N _ m).1 rfl rfl (.cons h (.cons h' .nil))⟩
theorem same_ne2 {a b:Value} {d:PyData} (ra:∃as,Reads s.heap a d as) (rb:∃bs,Reads s.heap b d bs) (ha:SeqAt.shaped d=true) (hu:Nat.ble (A.units+65) cLine=true) (he:PyData.eqv d d=true) (h:Q (.bool false) s):wpAny (model pw_il0090_01 w) A (compareOp .NotEq a b) Q E s:=by
  obtain ⟨as,ra⟩:=ra
  obtain ⟨bs,rb⟩:=rb
  exact same_ne ra rb ha ha hu he h
theorem ne_h0 {a b t n o i j a' b' t' n' o' i' j':Nat} {y y':Str} (N:News g L s.heap news) (ma:(a,lstO #[.ref b] n)∈news) (mb:(b,lstO #[.ref t] o)∈news) (mt:(t,tupO [.str y i, .str (tx l) j])∈news) (ma':(a',lstO #[.ref b'] n')∈news) (mb':(b',lstO #[.ref t'] o')∈news) (mt':(t',tupO [.str y' i', .str (tx l) j'])∈news) (hy:y=tx [107]) (hy':y'=tx [107]) (hso:PyData.strOk (tx l)=true) (hu:Nat.ble (A.units+65) cLine=true) (h:Q (.bool false) s):wpAny (model pw_il0090_01 w) A (compareOp .NotEq (.ref a) (.ref a')) Q E s:=
  same_ne2 (d:= .list [.list [dPair 107 (.str (tx l))]]) (r_one N ma (r_one N mb (r_tup N hy mt (Reads.str _ _)))) (r_one N ma' (r_one N mb' (r_tup N hy' mt' (Reads.str _ _)))) (by simp [dPair,SeqAt.shaped,PyData.canLay0,PyData.canLayAll0,PyData.depth,PyData.depthAll,hso,sokk,sokn,sokm,sok7]) hu (by simp [dPair,PyData.eqv,PyData.eqvAll]) h
theorem ne_h1 {a b t u n o i j k a' b' t' u' n' o' i' j' k':Nat} {y z y' z':Str} (N:News g L s.heap news) (ma:(a,lstO #[.ref b] n)∈news) (mb:(b,lstO #[.ref u, .ref t] o)∈news) (mu:(u,tupO [.str z k, .none])∈news) (mt:(t,tupO [.str y i, .str (tx l) j])∈news) (ma':(a',lstO #[.ref b'] n')∈news) (mb':(b',lstO #[.ref u', .ref t'] o')∈news) (mu':(u',tupO [.str z' k', .none])∈news) (mt':(t',tupO [.str y' i', .str (tx l) j'])∈news) (hz:z=tx [110]) (hy:y=tx [107]) (hz':z'=tx [110]) (hy':y'=tx [107]) (hso:PyData.strOk (tx l)=true) (hu:Nat.ble (A.units+65) cLine=true) (h:Q (.bool false) s):wpAny (model pw_il0090_01 w) A (compareOp .NotEq (.ref a) (.ref a')) Q E s:=
  same_ne2 (d:= .list [.list [dPair 110 .none,dPair 107 (.str (tx l))]]) (r_one N ma (r_two N mb (r_tup N hz mu Reads.none) (r_tup N hy mt (Reads.str _ _)))) (r_one N ma' (r_two N mb' (r_tup N hz' mu' Reads.none) (r_tup N hy' mt' (Reads.str _ _)))) (by simp [dPair,SeqAt.shaped,PyData.canLay0,PyData.canLayAll0,PyData.depth,PyData.depthAll,hso,sokk,sokn,sokm,sok7]) hu (by simp [dPair,PyData.eqv,PyData.eqvAll]) h
theorem ne_h2 {a b c t u n o p i j k r a' b' c' t' u' n' o' p' i' j' k' r':Nat} {y z x y' z' x':Str} (N:News g L s.heap news) (ma:(a,lstO #[.ref b, .ref c] n)∈news) (mb:(b,lstO #[.ref t] o)∈news) (mc:(c,lstO #[.ref u] p)∈news) (mt:(t,tupO [.str y i, .str (tx l) j])∈news) (mu:(u,tupO [.str z k, .str x r])∈news) (ma':(a',lstO #[.ref b', .ref c'] n')∈news) (mb':(b',lstO #[.ref t'] o')∈news) (mc':(c',lstO #[.ref u'] p')∈news) (mt':(t',tupO [.str y' i', .str (tx l) j'])∈news) (mu':(u',tupO [.str z' k', .str x' r'])∈news) (hy:y=tx [107]) (hz:z=tx [109]) (hx:x=tx [55]) (hy':y'=tx [107]) (hz':z'=tx [109]) (hx':x'=tx [55]) (hso:PyData.strOk (tx l)=true) (hu:Nat.ble (A.units+65) cLine=true) (h:Q (.bool false) s):wpAny (model pw_il0090_01 w) A (compareOp .NotEq (.ref a) (.ref a')) Q E s:=
  same_ne2 (d:= .list [.list [dPair 107 (.str (tx l))], .list [dPair 109 (.str (tx [55]))]]) (r_two N ma (r_one N mb (r_tup N hy mt (Reads.str _ _))) (r_one N mc (r_tup N hz mu (by rw [hx];exact Reads.str _ _)))) (r_two N ma' (r_one N mb' (r_tup N hy' mt' (Reads.str _ _))) (r_one N mc' (r_tup N hz' mu' (by rw [hx'];exact Reads.str _ _)))) (by simp [dPair,SeqAt.shaped,PyData.canLay0,PyData.canLayAll0,PyData.depth,PyData.depthAll,hso,sokk,sokn,sokm,sok7]) hu (by simp [dPair,PyData.eqv,PyData.eqvAll]) h
end
end Mine
end
section
namespace Mine
open Mine.Re
theorem c_head0 (w:World) {k1 k2 c9 c7:Nat} {l:List Nat} {p9 p7:Array Value} {o9 o7:Obj} {pv:Program}
    (Bh:Below (ar 530 5500 gd outer) base outer (hideAll s.heap [95,c9,78,c7])) (XB:(K w.params).In base) (TB:Top pv loose mean mg mb base)
    (hg0:s.heap.get? 95=some (tabObj p9)) (hg1:s.heap.get? c9=some o9) (hg2:s.heap.get? 78=some (tabObj p7)) (hg3:s.heap.get? c7=some o7) (hT9:TabL 61 50 "join_header_words.<locals>.<lambda>" p9 c9 o9) (hT7:TabL 30 49 "split_header_words.<locals>.<lambda>" p7 c7 o7)
    (z1:@Ne Nat c9 95) (z2:@Ne Nat c9 78) (z3:@Ne Nat c7 95) (z4:@Ne Nat c7 78) (z5:@Ne Nat c7 c9) (ha:∀c∈l,c∈alph) (hb:32∈l) (hz:l.length≤3000)
    (hret:∀(h':Heap) (tk' t c9' c7':Nat) (o9' o7':Obj) (p9' p7':Array Value),h'.get? 95=some (tabObj p9')→h'.get? c9'=some o9'→h'.get? 78=some (tabObj p7')→h'.get? c7'=some o7'→TabL 61 50 "join_header_words.<locals>.<lambda>" p9' c9' o9'→TabL 30 49 "split_header_words.<locals>.<lambda>" p7' c7' o7'→
      @Ne Nat c9' 95→@Ne Nat c9' 78→@Ne Nat c7' 95→@Ne Nat c7' 78→@Ne Nat c7' c9'→(c9'=c9∨s.heap.get? c9'=none)→(c7'=c7∨s.heap.get? c7'=none)→(∀b o,b≠95→b≠78→s.heap.get? b=some o→h'.get? b=some o)→Q (.str (tx (head0 l)) t) {s with heap:=h',toks:=tk'}):
    wpAny (model pw_il0090_01 w) (ar 530 5500 gd outer) (call (.ref 869) [.int 0 k1, .str (tx l) k2]) Q E s:=by
  have hso:=strOk_tx ha
  have h10:∀c∈l,c≠10:=fun c hc e=>by have:=ha c hc;subst e;revert this;decide
  have hp:1≤l.length:=List.length_pos_of_mem hb
  have hO:Orig c9 o9:=trivial
  have X:=XB.keeps Bh.stays
  have T:=TB.keeps Bh.stays
  have eK:rw_il0090_01=rw_il0090_01:=rfl
  revert eK X XB
  k_fill
  intro XB X eK
  refine wpAny_call ?_
  k_dflt (refine' own_enter (chg:=[(95,tabObj p9),(c9,o9),(78,tabObj p7),(c7,o7)]) ?k1 ?k2 ?k3 ?k4 ?k6 ?k7 ?k8 ?k9 ?kB ?_ ?c2 ?c3 ?c4 ?c5;(case k1=>exact Bh);(case k2=>(intro q hq;simp only [List.mem_cons,List.not_mem_nil,or_false] at hq;rcases hq with rfl|rfl|rfl|rfl;exact hg0;exact hg1;exact hg2;exact hg3));(case k3=>exact X);(case k4=>exact T);(case k6=>k_is);(case k7=>k_is);(case k8=>exact Nat.le_of_ble_eq_true rfl);(case k9=>first|exact BindsTo.of_eq rfl|exact binds_K (Frag.In.keeps X fun b o e=>of_hideAll _ e) rfl (by k_is) rfl rfl rfl);(case c5=>decide);(case kB=>exact locs rfl);(case c2=>exact rfl);(case c3=>exact rfl);(case c4=>exact rfl);k_whole;intro g' L' h' hg' hL' F' N' B' X' T' hlt';clear X T Bh;(try dsimp only);(try k_fold))
  (try (refine let_ctx ?_;intro A9 e9))
  repeat' (first|(k_unfold;(try dsimp only))|((fail_if_success (fail_if_success (with_reducible refine is_cmp ?_)));first|(k_here;(with_reducible show wpAny _ _ (compareOp CmpOp.NotEq (Value.ref _) (Value.ref _)) _ _ _);k_dflt (refine' ne_h0 (by k_asm) (by k_mem) (by k_mem) (by k_mem) (by k_mem) (by k_mem) (by k_mem) (by first|exact rfl|exact ofsk|exact ofsn|exact ofsm|exact ofs7) (by first|exact rfl|exact ofsk|exact ofsn|exact ofsm|exact ofs7) (by assumption) (by exact rfl) ?_;k_whole)))|((fail_if_success (fail_if_success (with_reducible refine is_call ?_)));first|(k_here;(with_reducible show wpAny _ _ (call (Value.ref 83) [Value.ref _]) _ _ _);k_dflt (refine' use_sp0 (x:=95) (by k_asm) (by k_asm) (by k_asm) (by assumption) (by assumption) (by exact rfl) (by exact rfl) (by exact rfl) (by exact rfl) (by exact rfl) (by exact rfl) (by repeat (first|exact Del.here|apply Del.cons)) (by assumption) (by k_mem) (by k_mem) (by repeat (first|exact trivial|refine And.intro (by k_ne) ?_)) (by assumption) (by assumption) (by k_ne) (by k_ne) (by k_ne) (by k_mem) (by (rename Orig _ _=>hO9);exact mem_orig hO9 (by k_mem)) (by (rename TabL 61 50 _ _ _ _=>hT9);exact mem_tab hT9 (by k_mem)) (by k_ne) (by k_ne) (by k_ne) ?_;k_whole);intro h' tk' rs' pr' D' a1' a2' a3' a4' c' o' ps' F' N' hT' n1' n2' n3' n4' hc')|(k_here;(with_reducible show wpAny _ _ (call (Value.ref 100) [Value.ref _]) _ _ _);k_dflt (refine' use_jh0 (x:=78) (by k_asm) (by k_asm) (by k_asm) (by assumption) (by assumption) (by exact rfl) (by exact rfl) (by exact rfl) (by exact rfl) (by exact rfl) (by exact rfl) (by repeat (first|exact Del.here|apply Del.cons)) (by assumption) (by k_mem) (by k_mem) (by k_mem) (by k_mem) (by repeat (first|exact trivial|refine And.intro (by k_ne) ?_)) (by assumption) (by assumption) (by assumption) (by k_ne) (by k_ne) (by k_ne) (by k_ne) (by k_ne) (by k_ne) (by k_ne) (by k_mem) (by (rename TabL 30 49 _ _ _ _=>hT7);exact mem_tab hT7 (by k_mem)) (by k_ne) (by k_ne) ?_;k_whole);intro h' tk' t' c' o' ps' F' N' hT' n1' n2' n3' hc'))|(k_end;kc_close)|walk1|(dsimp only;walk1)|(leave1;(try dsimp only)))
  show Q _ _
  rename Fr _ _ _ _=>F9
  rename News _ _ _ _=>N9
  rename TabL 61 50 _ _ _ _=>U9
  clear hT7
  rename TabL 30 49 _ _ _ _=>U7
  refine' hret _ _ _ _ _ _ _ _ _ ?fa ?fb ?fc ?fd U9 U7 ?f0 ?f1 ?f2 ?f3 ?f4 ?fx ?fy ?fk
  case fa=>exact News.get N9 (by k_mem)
  case fb=>exact News.get N9 (by k_mem)
  case fc=>exact News.get N9 (by k_mem)
  case fd=>exact News.get N9 (by k_mem)
  case f0=>k_ne
  case f1=>k_ne
  case f2=>k_ne
  case f3=>k_ne
  case f4=>k_ne
  case fx=>
    refine or_fresh hg' (News.fresh N9 (by k_mem)) ?_
    simp only [List.map,List.forall_mem_cons,List.not_mem_nil,false_implies,implies_true,and_true]
    exact ⟨Or.inl (by k_ne),Or.inr trivial,Or.inl (by k_ne),Or.inl (by k_ne)⟩
  case fy=>
    refine or_fresh hg' (News.fresh N9 (by k_mem)) ?_
    simp only [List.map,List.forall_mem_cons,List.not_mem_nil,false_implies,implies_true,and_true]
    exact ⟨Or.inl (by k_ne),Or.inl (by k_ne),Or.inl (by k_ne),Or.inr trivial⟩
  case fk=>
    refine kept_two hg' F9 ?_
    simp only [List.map,List.forall_mem_cons,List.not_mem_nil,false_implies,implies_true,and_true]
    refine ⟨Or.inl (Or.inl trivial),Or.inr (same_get hg1 (News.get N9 (by k_mem))),Or.inl (Or.inr trivial),Or.inr (same_get hg3 (News.get N9 (by k_mem)))⟩
end Mine
end
section
namespace Mine
open Mine.Re
theorem c_head1 (w:World) {k1 k2 c9 c7:Nat} {l:List Nat} {p9 p7:Array Value} {o9 o7:Obj} {pv:Program}
    (Bh:Below (ar 530 5500 gd outer) base outer (hideAll s.heap [95,c9,78,c7])) (XB:(K w.params).In base) (TB:Top pv loose mean mg mb base)
    (hg0:s.heap.get? 95=some (tabObj p9)) (hg1:s.heap.get? c9=some o9) (hg2:s.heap.get? 78=some (tabObj p7)) (hg3:s.heap.get? c7=some o7) (hT9:TabL 61 50 "join_header_words.<locals>.<lambda>" p9 c9 o9) (hT7:TabL 30 49 "split_header_words.<locals>.<lambda>" p7 c7 o7)
    (z1:@Ne Nat c9 95) (z2:@Ne Nat c9 78) (z3:@Ne Nat c7 95) (z4:@Ne Nat c7 78) (z5:@Ne Nat c7 c9) (ha:∀c∈l,c∈alph) (hb:32∈l) (hz:l.length≤3000)
    (hret:∀(h':Heap) (tk' t c9' c7':Nat) (o9' o7':Obj) (p9' p7':Array Value),h'.get? 95=some (tabObj p9')→h'.get? c9'=some o9'→h'.get? 78=some (tabObj p7')→h'.get? c7'=some o7'→TabL 61 50 "join_header_words.<locals>.<lambda>" p9' c9' o9'→TabL 30 49 "split_header_words.<locals>.<lambda>" p7' c7' o7'→
      @Ne Nat c9' 95→@Ne Nat c9' 78→@Ne Nat c7' 95→@Ne Nat c7' 78→@Ne Nat c7' c9'→(c9'=c9∨s.heap.get? c9'=none)→(c7'=c7∨s.heap.get? c7'=none)→(∀b o,b≠95→b≠78→s.heap.get? b=some o→h'.get? b=some o)→Q (.str (tx (head1 l)) t) {s with heap:=h',toks:=tk'}):
    wpAny (model pw_il0090_01 w) (ar 530 5500 gd outer) (call (.ref 869) [.int 1 k1, .str (tx l) k2]) Q E s:=by
  have hso:=strOk_tx ha
  have h10:∀c∈l,c≠10:=fun c hc e=>by have:=ha c hc;subst e;revert this;decide
  have hp:1≤l.length:=List.length_pos_of_mem hb
  have hO:Orig c9 o9:=trivial
  have X:=XB.keeps Bh.stays
  have T:=TB.keeps Bh.stays
  have eK:rw_il0090_01=rw_il0090_01:=rfl
  revert eK X XB
  k_fill
  intro XB X eK
  refine wpAny_call ?_
  k_dflt (refine' own_enter (chg:=[(95,tabObj p9),(c9,o9),(78,tabObj p7),(c7,o7)]) ?k1 ?k2 ?k3 ?k4 ?k6 ?k7 ?k8 ?k9 ?kB ?_ ?c2 ?c3 ?c4 ?c5;(case k1=>exact Bh);(case k2=>(intro q hq;simp only [List.mem_cons,List.not_mem_nil,or_false] at hq;rcases hq with rfl|rfl|rfl|rfl;exact hg0;exact hg1;exact hg2;exact hg3));(case k3=>exact X);(case k4=>exact T);(case k6=>k_is);(case k7=>k_is);(case k8=>exact Nat.le_of_ble_eq_true rfl);(case k9=>first|exact BindsTo.of_eq rfl|exact binds_K (Frag.In.keeps X fun b o e=>of_hideAll _ e) rfl (by k_is) rfl rfl rfl);(case c5=>decide);(case kB=>exact locs rfl);(case c2=>exact rfl);(case c3=>exact rfl);(case c4=>exact rfl);k_whole;intro g' L' h' hg' hL' F' N' B' X' T' hlt';clear X T Bh;(try dsimp only);(try k_fold))
  (try (refine let_ctx ?_;intro A9 e9))
  repeat' (first|(k_unfold;(try dsimp only))|((fail_if_success (fail_if_success (with_reducible refine is_cmp ?_)));first|(k_here;(with_reducible show wpAny _ _ (compareOp CmpOp.NotEq (Value.ref _) (Value.ref _)) _ _ _);k_dflt (refine' ne_h1 (by k_asm) (by k_mem) (by k_mem) (by k_mem) (by k_mem) (by k_mem) (by k_mem) (by k_mem) (by k_mem) (by first|exact rfl|exact ofsk|exact ofsn|exact ofsm|exact ofs7) (by first|exact rfl|exact ofsk|exact ofsn|exact ofsm|exact ofs7) (by first|exact rfl|exact ofsk|exact ofsn|exact ofsm|exact ofs7) (by first|exact rfl|exact ofsk|exact ofsn|exact ofsm|exact ofs7) (by assumption) (by exact rfl) ?_;k_whole)))|((fail_if_success (fail_if_success (with_reducible refine is_call ?_)));first|(k_here;(with_reducible show wpAny _ _ (call (Value.ref 83) [Value.ref _]) _ _ _);k_dflt (refine' use_sp1 (x:=95) (by k_asm) (by k_asm) (by k_asm) (by assumption) (by assumption) (by exact rfl) (by exact rfl) (by exact rfl) (by exact rfl) (by exact rfl) (by exact rfl) (by repeat (first|exact Del.here|apply Del.cons)) (by assumption) (by k_mem) (by k_mem) (by repeat (first|exact trivial|refine And.intro (by k_ne) ?_)) (by assumption) (by assumption) (by k_ne) (by k_ne) (by k_ne) (by k_mem) (by (rename Orig _ _=>hO9);exact mem_orig hO9 (by k_mem)) (by (rename TabL 61 50 _ _ _ _=>hT9);exact mem_tab hT9 (by k_mem)) (by k_ne) (by k_ne) (by k_ne) ?_;k_whole);intro h' tk' rs' pr' D0' D' a1' a2' a3' a4' a5' c' o' ps' F' N' hT' n1' n2' n3' n4' hc')|(k_here;(with_reducible show wpAny _ _ (call (Value.ref 100) [Value.ref _]) _ _ _);k_dflt (refine' use_jh1 (x:=78) (by k_asm) (by k_asm) (by k_asm) (by assumption) (by assumption) (by exact rfl) (by exact rfl) (by exact rfl) (by exact rfl) (by exact rfl) (by exact rfl) (by repeat (first|exact Del.here|apply Del.cons)) (by assumption) (by k_mem) (by k_mem) (by k_mem) (by k_mem) (by k_mem) (by repeat (first|exact trivial|refine And.intro (by k_ne) ?_)) (by assumption) (by assumption) (by assumption) (by k_ne) (by k_ne) (by k_ne) (by k_ne) (by k_ne) (by k_ne) (by k_ne) (by k_ne) (by k_ne) (by k_mem) (by (rename TabL 30 49 _ _ _ _=>hT7);exact mem_tab hT7 (by k_mem)) (by k_ne) (by k_ne) ?_;k_whole);intro h' tk' t' c' o' ps' F' N' hT' n1' n2' n3' hc'))|(k_end;kc_close)|walk1|(dsimp only;walk1)|(leave1;(try dsimp only)))
  show Q _ _
  rename Fr _ _ _ _=>F9
  rename News _ _ _ _=>N9
  rename TabL 61 50 _ _ _ _=>U9
  clear hT7
  rename TabL 30 49 _ _ _ _=>U7
  refine' hret _ _ _ _ _ _ _ _ _ ?fa ?fb ?fc ?fd U9 U7 ?f0 ?f1 ?f2 ?f3 ?f4 ?fx ?fy ?fk
  case fa=>exact News.get N9 (by k_mem)
  case fb=>exact News.get N9 (by k_mem)
  case fc=>exact News.get N9 (by k_mem)
  case fd=>exact News.get N9 (by k_mem)
  case f0=>k_ne
  case f1=>k_ne
  case f2=>k_ne
  case f3=>k_ne
  case f4=>k_ne
  case fx=>
    refine or_fresh hg' (News.fresh N9 (by k_mem)) ?_
    simp only [List.map,List.forall_mem_cons,List.not_mem_nil,false_implies,implies_true,and_true]
    exact ⟨Or.inl (by k_ne),Or.inr trivial,Or.inl (by k_ne),Or.inl (by k_ne)⟩
  case fy=>
    refine or_fresh hg' (News.fresh N9 (by k_mem)) ?_
    simp only [List.map,List.forall_mem_cons,List.not_mem_nil,false_implies,implies_true,and_true]
    exact ⟨Or.inl (by k_ne),Or.inl (by k_ne),Or.inl (by k_ne),Or.inr trivial⟩
  case fk=>
    refine kept_two hg' F9 ?_
    simp only [List.map,List.forall_mem_cons,List.not_mem_nil,false_implies,implies_true,and_true]
    refine ⟨Or.inl (Or.inl trivial),Or.inr (same_get hg1 (News.get N9 (by k_mem))),Or.inl (Or.inr trivial),Or.inr (same_get hg3 (News.get N9 (by k_mem)))⟩
end Mine
end
section
namespace Mine
open Mine.Re
theorem c_head2 (w:World) {k1 k2 c9 c7:Nat} {l:List Nat} {p9 p7:Array Value} {o9 o7:Obj} {pv:Program}
    (Bh:Below (ar 530 5500 gd outer) base outer (hideAll s.heap [95,c9,78,c7])) (XB:(K w.params).In base) (TB:Top pv loose mean mg mb base)
    (hg0:s.heap.get? 95=some (tabObj p9)) (hg1:s.heap.get? c9=some o9) (hg2:s.heap.get? 78=some (tabObj p7)) (hg3:s.heap.get? c7=some o7) (hT9:TabL 61 50 "join_header_words.<locals>.<lambda>" p9 c9 o9) (hT7:TabL 30 49 "split_header_words.<locals>.<lambda>" p7 c7 o7)
    (z1:@Ne Nat c9 95) (z2:@Ne Nat c9 78) (z3:@Ne Nat c7 95) (z4:@Ne Nat c7 78) (z5:@Ne Nat c7 c9) (ha:∀c∈l,c∈alph) (hb:32∈l) (hz:l.length≤3000)
    (hret:∀(h':Heap) (tk' t c9' c7':Nat) (o9' o7':Obj) (p9' p7':Array Value),h'.get? 95=some (tabObj p9')→h'.get? c9'=some o9'→h'.get? 78=some (tabObj p7')→h'.get? c7'=some o7'→TabL 61 50 "join_header_words.<locals>.<lambda>" p9' c9' o9'→TabL 30 49 "split_header_words.<locals>.<lambda>" p7' c7' o7'→
      @Ne Nat c9' 95→@Ne Nat c9' 78→@Ne Nat c7' 95→@Ne Nat c7' 78→@Ne Nat c7' c9'→(c9'=c9∨s.heap.get? c9'=none)→(c7'=c7∨s.heap.get? c7'=none)→(∀b o,b≠95→b≠78→s.heap.get? b=some o→h'.get? b=some o)→Q (.str (tx (head2 l)) t) {s with heap:=h',toks:=tk'}):
    wpAny (model pw_il0090_01 w) (ar 530 5500 gd outer) (call (.ref 869) [.int 2 k1, .str (tx l) k2]) Q E s:=by
  have hso:=strOk_tx ha
  have h10:∀c∈l,c≠10:=fun c hc e=>by have:=ha c hc;subst e;revert this;decide
  have hp:1≤l.length:=List.length_pos_of_mem hb
  have hO:Orig c9 o9:=trivial
  have X:=XB.keeps Bh.stays
  have T:=TB.keeps Bh.stays
  have eK:rw_il0090_01=rw_il0090_01:=rfl
  revert eK X XB
  k_fill
  intro XB X eK
  refine wpAny_call ?_
  k_dflt (refine' own_enter (chg:=[(95,tabObj p9),(c9,o9),(78,tabObj p7),(c7,o7)]) ?k1 ?k2 ?k3 ?k4 ?k6 ?k7 ?k8 ?k9 ?kB ?_ ?c2 ?c3 ?c4 ?c5;(case k1=>exact Bh);(case k2=>(intro q hq;simp only [List.mem_cons,List.not_mem_nil,or_false] at hq;rcases hq with rfl|rfl|rfl|rfl;exact hg0;exact hg1;exact hg2;exact hg3));(case k3=>exact X);(case k4=>exact T);(case k6=>k_is);(case k7=>k_is);(case k8=>exact Nat.le_of_ble_eq_true rfl);(case k9=>first|exact BindsTo.of_eq rfl|exact binds_K (Frag.In.keeps X fun b o e=>of_hideAll _ e) rfl (by k_is) rfl rfl rfl);(case c5=>decide);(case kB=>exact locs rfl);(case c2=>exact rfl);(case c3=>exact rfl);(case c4=>exact rfl);k_whole;intro g' L' h' hg' hL' F' N' B' X' T' hlt';clear X T Bh;(try dsimp only);(try k_fold))
  (try (refine let_ctx ?_;intro A9 e9))
  repeat' (first|(k_unfold;(try dsimp only))|((fail_if_success (fail_if_success (with_reducible refine is_cmp ?_)));first|(k_here;(with_reducible show wpAny _ _ (compareOp CmpOp.NotEq (Value.ref _) (Value.ref _)) _ _ _);k_dflt (refine' ne_h2 (by k_asm) (by k_mem) (by k_mem) (by k_mem) (by k_mem) (by k_mem) (by k_mem) (by k_mem) (by k_mem) (by k_mem) (by k_mem) (by first|exact rfl|exact ofsk|exact ofsn|exact ofsm|exact ofs7) (by first|exact rfl|exact ofsk|exact ofsn|exact ofsm|exact ofs7) (by first|exact rfl|exact ofsk|exact ofsn|exact ofsm|exact ofs7) (by first|exact rfl|exact ofsk|exact ofsn|exact ofsm|exact ofs7) (by first|exact rfl|exact ofsk|exact ofsn|exact ofsm|exact ofs7) (by first|exact rfl|exact ofsk|exact ofsn|exact ofsm|exact ofs7) (by assumption) (by exact rfl) ?_;k_whole)))|((fail_if_success (fail_if_success (with_reducible refine is_call ?_)));first|(k_here;(with_reducible show wpAny _ _ (call (Value.ref 83) [Value.ref _]) _ _ _);k_dflt (refine' use_sp2 (x:=95) (by k_asm) (by k_asm) (by k_asm) (by assumption) (by assumption) (by exact rfl) (by exact rfl) (by exact rfl) (by exact rfl) (by exact rfl) (by exact rfl) (by repeat (first|exact Del.here|apply Del.cons)) (by assumption) (by k_mem) (by k_mem) (by repeat (first|exact trivial|refine And.intro (by k_ne) ?_)) (by assumption) (by assumption) (by k_ne) (by k_ne) (by k_ne) (by k_mem) (by (rename Orig _ _=>hO9);exact mem_orig hO9 (by k_mem)) (by (rename TabL 61 50 _ _ _ _=>hT9);exact mem_tab hT9 (by k_mem)) (by k_ne) (by k_ne) (by k_ne) ?_;k_whole);intro h' tk' rs' p2' D1' pr' D' a1' a2' a3' a4' a5' a6' a7' c' o' ps' F' N' hT' n1' n2' n3' n4' hc')|(k_here;(with_reducible show wpAny _ _ (call (Value.ref 100) [Value.ref _]) _ _ _);k_dflt (refine' use_jh2 (x:=78) (by k_asm) (by k_asm) (by k_asm) (by assumption) (by assumption) (by exact rfl) (by exact rfl) (by exact rfl) (by exact rfl) (by exact rfl) (by exact rfl) (by repeat (first|exact Del.here|apply Del.cons)) (by assumption) (by k_mem) (by k_mem) (by k_mem) (by k_mem) (by k_mem) (by k_mem) (by repeat (first|exact trivial|refine And.intro (by k_ne) ?_)) (by assumption) (by assumption) (by assumption) (by k_ne) (by k_ne) (by k_ne) (by k_ne) (by k_ne) (by k_ne) (by k_ne) (by k_ne) (by k_ne) (by k_ne) (by k_ne) (by k_mem) (by (rename TabL 30 49 _ _ _ _=>hT7);exact mem_tab hT7 (by k_mem)) (by k_ne) (by k_ne) ?_;k_whole);intro h' tk' t' c' o' ps' F' N' hT' n1' n2' n3' hc'))|(k_end;kc_close)|walk1|(dsimp only;walk1)|(leave1;(try dsimp only)))
  show Q _ _
  rename Fr _ _ _ _=>F9
  rename News _ _ _ _=>N9
  rename TabL 61 50 _ _ _ _=>U9
  clear hT7
  rename TabL 30 49 _ _ _ _=>U7
  refine' hret _ _ _ _ _ _ _ _ _ ?fa ?fb ?fc ?fd U9 U7 ?f0 ?f1 ?f2 ?f3 ?f4 ?fx ?fy ?fk
  case fa=>exact News.get N9 (by k_mem)
  case fb=>exact News.get N9 (by k_mem)
  case fc=>exact News.get N9 (by k_mem)
  case fd=>exact News.get N9 (by k_mem)
  case f0=>k_ne
  case f1=>k_ne
  case f2=>k_ne
  case f3=>k_ne
  case f4=>k_ne
  case fx=>
    refine or_fresh hg' (News.fresh N9 (by k_mem)) ?_
    simp only [List.map,List.forall_mem_cons,List.not_mem_nil,false_implies,implies_true,and_true]
    exact ⟨Or.inl (by k_ne),Or.inr trivial,Or.inl (by k_ne),Or.inl (by k_ne)⟩
  case fy=>
    refine or_fresh hg' (News.fresh N9 (by k_mem)) ?_
    simp only [List.map,List.forall_mem_cons,List.not_mem_nil,false_implies,implies_true,and_true]
    exact ⟨Or.inl (by k_ne),Or.inl (by k_ne),Or.inl (by k_ne),Or.inr trivial⟩
  case fk=>
    refine kept_two hg' F9 ?_
    simp only [List.map,List.forall_mem_cons,List.not_mem_nil,false_implies,implies_true,and_true]
    refine ⟨Or.inl (Or.inl trivial),Or.inr (same_get hg1 (News.get N9 (by k_mem))),Or.inl (Or.inr trivial),Or.inr (same_get hg3 (News.get N9 (by k_mem)))⟩
end Mine
end
section
namespace Mine
theorem count_tx (l:List Nat) (c:Nat):Txt.count (tx l) (tx [c])=(l.count c:Int):=by
  have h:Txt.count (tx l) ⟨#[c]⟩=PyProof.Rows.cnt c l:=count_is (tx l) c
  rw [show (tx [c])=(⟨#[c]⟩:Str) from rfl,h]
  clear h
  induction l with
  | nil=>rfl
  | cons a r ih=>
    rw [PyProof.Rows.cnt_cons,ih,List.count_cons]
    by_cases e:a=c
    · simp [e];omega
    · simp [e]
noncomputable def cnt4 (l:List Nat):List Int:=[(l.count 39:Int),(l.count 34:Int),(l.count 92:Int),(l.length:Int)]
section
variable {prog:Program} {w:World} {A:Around} {E:Value→Shared→Prop} {s:Shared} {Q:Value→Shared→Prop} {l:List Nat} {t u:Nat}
theorem use_count {z:Str} {c:Nat} (hz:z=tx [c]) (h:∀t' k,Q (.int (l.count c:Int) t') {s with toks:=k}):wpAny (model prog w) A (call (.builtin "str.count") [.str (tx l) t, .str z u]) Q E s:=by
  subst hz
  exact KXw.count (count_tx l c) h
end
end Mine
end
section
namespace Mine
open Mine.Re
noncomputable def headD (d:Nat) (l:List Nat):List Nat:=match d with|0=>head0 l|1=>head1 l|_=>head2 l
section
variable {w:World} {k1 k2:Nat} {l:List Nat} {pv:Program}
theorem c_line {ps:Array Value} (d:Nat) (hd2:d≤2) (Bh:Below (ar 530 5500 gd outer) base outer (hideAll s.heap [802])) (XB:(K w.params).In base) (TB:Top pv loose mean mg mb base)
    (hg0:s.heap.get? 802=some (tabObj ps)) (ht:TriplesOk ps.toList) (hG:AllBare s.gens) (ha:∀c∈l,c∈alph) (hb:32∈l) (hz:l.length≤3000)
    (hret:∀(h':Heap) (tk' t:Nat) (gs':Array GenState) (ps':Array Value),h'.get? 802=some (tabObj ps')→TriplesOk ps'.toList→AllBare gs'→(∀b o,b≠802→(∀e∈outer,e.frame≠some b)→s.heap.get? b=some o→h'.get? b=some o)→FS outer s.heap h'→Q (.str (tx (lineD d l)) t) {s with heap:=h',toks:=tk',gens:=gs'}):
    wpAny (model pw_il0090_01 w) (ar 530 5500 gd outer) (call (.ref 862) [.int (d:Int) k1, .str (tx l) k2]) Q E s:=by
  rcases le2 hd2 with rfl|rfl|rfl
  · exact c_line0 w Bh XB TB hg0 ht hG ha hb hz hret
  · exact c_line1 w Bh XB TB hg0 ht hG ha hb hz hret
  · exact c_line2 w Bh XB TB hg0 ht hG ha hb hz hret
theorem c_head {c9 c7:Nat} {p9 p7:Array Value} {o9 o7:Obj} (d:Nat) (hd2:d≤2)
    (Bh:Below (ar 530 5500 gd outer) base outer (hideAll s.heap [95,c9,78,c7])) (XB:(K w.params).In base) (TB:Top pv loose mean mg mb base)
    (hg0:s.heap.get? 95=some (tabObj p9)) (hg1:s.heap.get? c9=some o9) (hg2:s.heap.get? 78=some (tabObj p7)) (hg3:s.heap.get? c7=some o7) (hT9:TabL 61 50 "join_header_words.<locals>.<lambda>" p9 c9 o9) (hT7:TabL 30 49 "split_header_words.<locals>.<lambda>" p7 c7 o7)
    (z1:@Ne Nat c9 95) (z2:@Ne Nat c9 78) (z3:@Ne Nat c7 95) (z4:@Ne Nat c7 78) (z5:@Ne Nat c7 c9) (ha:∀c∈l,c∈alph) (hb:32∈l) (hz:l.length≤3000)
    (hret:∀(h':Heap) (tk' t c9' c7':Nat) (o9' o7':Obj) (p9' p7':Array Value),h'.get? 95=some (tabObj p9')→h'.get? c9'=some o9'→h'.get? 78=some (tabObj p7')→h'.get? c7'=some o7'→TabL 61 50 "join_header_words.<locals>.<lambda>" p9' c9' o9'→TabL 30 49 "split_header_words.<locals>.<lambda>" p7' c7' o7'→
      @Ne Nat c9' 95→@Ne Nat c9' 78→@Ne Nat c7' 95→@Ne Nat c7' 78→@Ne Nat c7' c9'→(c9'=c9∨s.heap.get? c9'=none)→(c7'=c7∨s.heap.get? c7'=none)→(∀b o,b≠95→b≠78→s.heap.get? b=some o→h'.get? b=some o)→Q (.str (tx (headD d l)) t) {s with heap:=h',toks:=tk'}):
    wpAny (model pw_il0090_01 w) (ar 530 5500 gd outer) (call (.ref 869) [.int (d:Int) k1, .str (tx l) k2]) Q E s:=by
  rcases le2 hd2 with rfl|rfl|rfl
  · exact c_head0 w Bh XB TB hg0 hg1 hg2 hg3 hT9 hT7 z1 z2 z3 z4 z5 ha hb hz hret
  · exact c_head1 w Bh XB TB hg0 hg1 hg2 hg3 hT9 hT7 z1 z2 z3 z4 z5 ha hb hz hret
  · exact c_head2 w Bh XB TB hg0 hg1 hg2 hg3 hT9 hT7 z1 z2 z3 z4 z5 ha hb hz hret
end
section
variable {w:World} {A A₀:Around} {base g:Heap} {env:Env} {outer:List Env} {L:Addr} {pb':Program} {m mg' mb':Str→Option Value} {mean':ExcName→Option Value} {loose':List Str} {news rest:List (Addr × Obj)} {s:Shared} {Q E:Value→Shared→Prop} {l:List Nat} {d k1 k2:Nat}
theorem use_line {ps:Array Value} (hd2:d≤2) (B:Below A₀ base outer g) (F:Fr g L s.heap m) (N:News g L s.heap news) (XB:(K w.params).In base) (TB:Top pb' loose' mean' mg' mb' base)
    (hA:A.frames=some (env::outer)) (hf:env.frame=some L) (hke:env.scope.kind= .function) (hh:A.handled=none) (hd:Nat.ble A.depth 530=true) (hu:Nat.ble A.units 5500=true)
    (W:Del (802,tabObj ps) news rest) (hno:AllNe 802 rest) (ht:TriplesOk ps.toList) (hG:AllBare s.gens) (ha:∀c∈l,c∈alph) (hb:32∈l) (hz:l.length≤3000)
    (ret:∀(g' h':Heap) (tk' t:Nat) (gs':Array GenState) (ps':Array Value),Below A₀ base outer g'→Fr g' L h' m→(K w.params).In g'→Top pb' loose' mean' mg' mb' g'→News g' L h' ((802,tabObj ps')::rest)→TriplesOk ps'.toList→AllBare gs'→SameOff outer g g'→FS outer g g'→Q (.str (tx (lineD d l)) t) {s with heap:=h',toks:=tk',gens:=gs'}):
    wpAny (model pw_il0090_01 w) A (call (.ref 862) [.int (d:Int) k1, .str (tx l) k2]) Q E s:=by
  have m1:=W.mem.1
  have BS:=below_sub (as:=[802]) B F N hA hf hke (by
    intro b hb
    simp only [List.mem_cons,List.not_mem_nil,or_false] at hb
    subst hb;exact ⟨_,m1⟩)
  refine weaken (A':=ar 530 5500 A.guards (env::outer)) hh (Nat.le_of_ble_eq_true hd) hA.symm rfl (Nat.le_of_ble_eq_true hu) ?_
  refine c_line d hd2 ⟨rfl,BS.stays,BS.frames⟩ XB TB (N _ m1).1 ht hG ha hb hz fun h' tk' t gs' ps' e1 e2 e3 kk fs=>?_
  obtain ⟨g',B',F',N',z1,z2,z3,z4⟩:=rebase (P:=fun b=>b=802) (news:=rest) B F (fun q hq=>N q (W.mem.2 _ hq)) hf
    (fun b o hb he hp=>kk b o hp he hb)
    (fun b hp=>by
      subst hp
      have h3:=(N _ m1).2.2
      refine ⟨?_,fun o' q=>by rw [h3] at q;cases q⟩
      cases q:base.get? 802 with
      | none=>rfl
      | some o'=>have:=B.stays _ _ q;rw [h3] at this;cases this)
    (fun hp=>(N _ m1).2.1 hp.symm) fs (fun q hq hp=>allNe_all hno q hq hp)
  refine ret g' h' tk' t gs' ps' B' F' (XB.keeps B'.stays) (TB.keeps B'.stays) ?_ e2 e3 z2 z3
  intro q hq
  rcases List.mem_cons.mp hq with rfl|hq
  · exact ⟨e1,(N _ m1).2.1,z4 _ (N _ m1).2.2⟩
  exact N' q hq
theorem use_head {c9 c7:Nat} {p9 p7:Array Value} {o9 o7:Obj} {r1:List (Addr × Obj)} (hd2:d≤2) (B:Below A₀ base outer g) (F:Fr g L s.heap m) (N:News g L s.heap news) (XB:(K w.params).In base) (TB:Top pb' loose' mean' mg' mb' base)
    (hA:A.frames=some (env::outer)) (hf:env.frame=some L) (hke:env.scope.kind= .function) (hh:A.handled=none) (hd:Nat.ble A.depth 530=true) (hu:Nat.ble A.units 5500=true)
    (W1:Del (95,tabObj p9) news r1) (W2:Del (78,tabObj p7) r1 rest) (n1:AllNe 95 r1) (n2:AllNe 78 rest) (m9:(c9,o9)∈rest) (m7:(c7,o7)∈rest)
    (hT9:TabL 61 50 "join_header_words.<locals>.<lambda>" p9 c9 o9) (hT7:TabL 30 49 "split_header_words.<locals>.<lambda>" p7 c7 o7) (z5:@Ne Nat c7 c9)
    (ha:∀c∈l,c∈alph) (hb:32∈l) (hz:l.length≤3000)
    (ret:∀(h':Heap) (tk' t c9' c7':Nat) (o9' o7':Obj) (p9' p7':Array Value),Fr g L h' m→News g L h' ((95,tabObj p9')::(78,tabObj p7')::(c9',o9')::(c7',o7')::rest)→TabL 61 50 "join_header_words.<locals>.<lambda>" p9' c9' o9'→TabL 30 49 "split_header_words.<locals>.<lambda>" p7' c7' o7'→
      @Ne Nat c9' 95→@Ne Nat c9' 78→@Ne Nat c7' 95→@Ne Nat c7' 78→@Ne Nat c7' c9'→(c9'=c9∨s.heap.get? c9'=none)→(c7'=c7∨s.heap.get? c7'=none)→Q (.str (tx (headD d l)) t) {s with heap:=h',toks:=tk'}):
    wpAny (model pw_il0090_01 w) A (call (.ref 869) [.int (d:Int) k1, .str (tx l) k2]) Q E s:=by
  have m1:=W1.mem.1
  have m2:=W1.mem.2 _ W2.mem.1
  have mr:∀q∈rest,q∈news:=fun q hq=>W1.mem.2 _ (W2.mem.2 _ hq)
  have BS:=below_sub (as:=[95,c9,78,c7]) B F N hA hf hke (by
    intro b hb
    simp only [List.mem_cons,List.not_mem_nil,or_false] at hb
    rcases hb with rfl|rfl|rfl|rfl
    · exact ⟨_,m1⟩
    · exact ⟨_,mr _ m9⟩
    · exact ⟨_,m2⟩
    · exact ⟨_,mr _ m7⟩)
  refine weaken (A':=ar 530 5500 A.guards (env::outer)) hh (Nat.le_of_ble_eq_true hd) hA.symm rfl (Nat.le_of_ble_eq_true hu) ?_
  refine c_head d hd2 ⟨rfl,BS.stays,BS.frames⟩ XB TB (N _ m1).1 (N _ (mr _ m9)).1 (N _ m2).1 (N _ (mr _ m7)).1 hT9 hT7 (allNe_all n1 _ (W2.mem.2 _ m9)) (allNe_all n2 _ m9) (allNe_all n1 _ (W2.mem.2 _ m7)) (allNe_all n2 _ m7) z5 ha hb hz
    fun h' tk' t c9' c7' o9' o7' p9' p7' e1 e2 e3 e4 T9 T7 f1 f2 f3 f4 f5 f6 f7 kk=>?_
  have nL:∀b o,(b,o)∈news→b≠L:=fun b o hb=>(N _ hb).2.1
  have fresh:∀c c',(∃o,(c,o)∈news)→(c'=c∨s.heap.get? c'=none)→c'≠L∧g.get? c'=none:=fun c c' hc h=>by
    obtain ⟨o,ho⟩:=hc
    rcases h with rfl|h
    · exact (N _ ho).2
    · refine ⟨fun e=>?_,?_⟩
      · obtain ⟨o,e'⟩:=fr_get F;rw [←e,h] at e';cases e'
      · cases z:g.get? c' with
        | none=>rfl
        | some o=>have:=F.keep _ _ z;rw [h] at this;cases this
  have q9:=fresh c9 c9' ⟨_,mr _ m9⟩ f6
  have q7:=fresh c7 c7' ⟨_,mr _ m7⟩ f7
  refine ret h' tk' t c9' c7' o9' o7' p9' p7' ⟨?_,fun b o e=>kk b o (fun eb=>?_) (fun eb=>?_) (F.keep _ _ e),F.above⟩ ?_ T9 T7 f1 f2 f3 f4 f5 f6 f7
  · obtain ⟨o,es,ep,x1,x2⟩:=F.ns
    exact ⟨o,es,ep,kk _ _ (fun e=>nL _ _ m1 e.symm) (fun e=>nL _ _ m2 e.symm) x1,x2⟩
  · rw [eb,(N _ m1).2.2] at e;cases e
  · rw [eb,(N _ m2).2.2] at e;cases e
  · intro q hq
    rcases List.mem_cons.mp hq with rfl|hq
    · exact ⟨e1,(N _ m1).2⟩
    rcases List.mem_cons.mp hq with rfl|hq
    · exact ⟨e3,(N _ m2).2⟩
    rcases List.mem_cons.mp hq with rfl|hq
    · exact ⟨e2,q9⟩
    rcases List.mem_cons.mp hq with rfl|hq
    · exact ⟨e4,q7⟩
    exact ⟨kk _ _ (allNe_all n1 q (W2.mem.2 q hq)) (allNe_all n2 q hq) (N q (mr q hq)).1,(N q (mr q hq)).2⟩
theorem item_at {value slice:PySem.Expr} {a c p u:Nat} {v:Value} {vs:List Value} (N:News g L s.heap news) (hm:(a,lstO vs.toArray c)∈news) (e:vs[p]?=some v) (hp:p<4) (h:Q v s)
    (hs:subscripted slice false (.ref a) (.int (p:Int) u)=operate [.ref a, .int (p:Int) u] (getItem (.ref a) (.int (p:Int) u))):
    wpAny (model pw_il0090_01 w) A (subscriptTail value slice (.ref a) (.int (p:Int) u)) Q E s:=by
  have hl:s.heap.IsList a vs.toArray:=⟨_,(N _ hm).1,rfl,_,rfl⟩
  exact tail_any hl.typeIs slot_list_getitem.lookup (wpAny_getItem_list hl (by omega) (by omega) (by simpa using e) h) hs
theorem ne_four {a b c1 c2 t0 t1 t2 t3 u0 u1 u2 u3:Nat} {x0 x1 x2 x3 y0 y1 y2 y3:Int} (N:News g L s.heap news) (m1:(a,lstO #[.int x0 t0, .int x1 t1, .int x2 t2, .int x3 t3] c1)∈news) (m2:(b,lstO #[.int y0 u0, .int y1 u1, .int y2 u2, .int y3 u3] c2)∈news)
    (hu:Nat.ble (A.units+65) cLine=true) (e:[x0,x1,x2,x3]=[y0,y1,y2,y3]) (h:Q (.bool false) s):wpAny (model pw_il0090_01 w) A (compareOp .NotEq (.ref a) (.ref b)) Q E s:=by
  simp only [List.cons.injEq,and_true] at e
  obtain ⟨rfl,rfl,rfl,rfl⟩:=e
  refine same_ne2 (d:= .list [.int x0, .int x1, .int x2, .int x3]) ⟨_,reads_list_at (N _ m1).1 rfl rfl (.cons (Reads.int _ _) (.cons (Reads.int _ _) (.cons (Reads.int _ _) (.cons (Reads.int _ _) .nil))))⟩ ⟨_,reads_list_at (N _ m2).1 rfl rfl (.cons (Reads.int _ _) (.cons (Reads.int _ _) (.cons (Reads.int _ _) (.cons (Reads.int _ _) .nil))))⟩ (by simp [SeqAt.shaped,PyData.canLay0,PyData.canLayAll0,PyData.depth,PyData.depthAll]) hu (by simp [PyData.eqv,PyData.eqvAll]) h
end
end Mine
end
section
set_option linter.unusedSimpArgs false
namespace Mine
open Mine.Re
noncomputable def ldr (d:Nat):Nat:=match d with|0=>0|1=>2|_=>4
noncomputable def hdr (d:Nat):Nat:=match d with|0=>0|1=>3|_=>5
theorem qt_count39:∀l:List Nat,(Qt l).count 39=3*l.count 39:=by
  intro u0
  induction u0 with
  | nil=>
    exact rfl
  | cons c l ih=>
    have ih:=ih
    by_cases h:c=39
    · subst h;simp [Qt,List.count_cons,List.count_append,ih];omega
    · simp [Qt,h,List.count_cons,List.count_append,ih]
theorem qt_count34:∀l:List Nat,(Qt l).count 34=l.count 34+2*l.count 39:=by
  intro u0
  induction u0 with
  | nil=>
    exact rfl
  | cons c l ih=>
    have ih:=ih
    by_cases h:c=39
    · subst h;simp [Qt,List.count_cons,List.count_append,ih];omega
    · simp [Qt,h,List.count_cons,List.count_append,ih];omega
theorem qt_count {x:Nat} (h1:x≠39) (h2:x≠34):∀l:List Nat,(Qt l).count x=l.count x:=by
  intro u0
  induction u0 with
  | nil=>
    exact rfl
  | cons c l ih=>
    have ih:=ih
    by_cases h:c=39
    · subst h;simp [Qt,List.count_cons,List.count_append,ih,Ne.symm h1,Ne.symm h2]
    · simp [Qt,h,List.count_cons,List.count_append,ih]
theorem qt_length:∀l:List Nat,(Qt l).length=l.length+4*l.count 39:=by
  intro u0
  induction u0 with
  | nil=>
    exact rfl
  | cons c l ih=>
    have ih:=ih
    by_cases h:c=39
    · subst h;simp [Qt,List.count_cons,ih];omega
    · simp [Qt,h,List.count_cons,ih];omega
theorem es_count92:∀l:List Nat,(Es l).count 92=2*l.count 92+l.count 34:=by
  intro u0
  induction u0 with
  | nil=>
    exact rfl
  | cons c l ih=>
    have ih:=ih
    by_cases h:c=34∨c=92
    · rcases h with rfl|rfl<;>simp [Es,List.count_cons,List.count_append,ih]<;>omega
    · have h1:c≠34:=fun e=>h (.inl e)
      have h2:c≠92:=fun e=>h (.inr e)
      simp [Es,h1,h2,List.count_cons,List.count_append,ih]
theorem es_count {x:Nat} (hx:x≠92):∀l:List Nat,(Es l).count x=l.count x:=by
  intro u0
  induction u0 with
  | nil=>
    exact rfl
  | cons c l ih=>
    have ih:=ih
    by_cases h:c=34∨c=92
    · rcases h with rfl|rfl<;>simp [Es,List.count_cons,List.count_append,ih,Ne.symm hx]
    · have h1:c≠34:=fun e=>h (.inl e)
      have h2:c≠92:=fun e=>h (.inr e)
      simp [Es,h1,h2,List.count_cons,List.count_append,ih]
theorem es_length:∀l:List Nat,(Es l).length=l.length+l.count 92+l.count 34:=by
  intro u0
  induction u0 with
  | nil=>
    exact rfl
  | cons c l ih=>
    have ih:=ih
    by_cases h:c=34∨c=92
    · rcases h with rfl|rfl<;>simp [Es,List.count_cons,ih]<;>omega
    · have h1:c≠34:=fun e=>h (.inl e)
      have h2:c≠92:=fun e=>h (.inr e)
      simp [Es,h1,h2,List.count_cons,ih];omega
noncomputable def stepD (k d:Nat) (l:List Nat):List Nat:=if k=0 then lineD d l else headD d l
theorem line_count39 (d:Nat) (l:List Nat):(lineD d l).count 39=3*l.count 39+2:=by
  have h:=qt_count39 l
  match d with
  | 0=>simp [lineD,line0,List.count_cons,List.count_append,h]
  | 1=>simp [lineD,line1,List.count_cons,List.count_append,h]
  | n+2=>simp [lineD,line2,List.count_cons,List.count_append,h]
theorem line_count34 (d:Nat) (l:List Nat):(lineD d l).count 34=l.count 34+2*l.count 39:=by
  have h:=qt_count34 l
  match d with
  | 0=>simp [lineD,line0,List.count_cons,List.count_append,h]
  | 1=>simp [lineD,line1,List.count_cons,List.count_append,h]
  | n+2=>simp [lineD,line2,List.count_cons,List.count_append,h]
theorem line_count92 (d:Nat) (l:List Nat):(lineD d l).count 92=l.count 92:=by
  have h:=qt_count (x:=92) (by decide) (by decide) l
  match d with
  | 0=>simp [lineD,line0,List.count_cons,List.count_append,h]
  | 1=>simp [lineD,line1,List.count_cons,List.count_append,h]
  | n+2=>simp [lineD,line2,List.count_cons,List.count_append,h]
theorem line_length (d:Nat) (l:List Nat):(lineD d l).length=l.length+4*l.count 39+2+ldr d:=by
  have h:=qt_length l
  match d with
  | 0=>simp [lineD,line0,h,ldr]
  | 1=>simp [lineD,line1,h,ldr]
  | n+2=>simp [lineD,line2,h,ldr]
theorem head_count39 (d:Nat) (l:List Nat):(headD d l).count 39=l.count 39:=by
  have h:=es_count (x:=39) (by decide) l
  match d with
  | 0=>simp [headD,head0,List.count_cons,List.count_append,h]
  | 1=>simp [headD,head1,List.count_cons,List.count_append,h]
  | n+2=>simp [headD,head2,List.count_cons,List.count_append,h]
theorem head_count34 (d:Nat) (l:List Nat):(headD d l).count 34=l.count 34+2:=by
  have h:=es_count (x:=34) (by decide) l
  match d with
  | 0=>simp [headD,head0,List.count_cons,List.count_append,h]
  | 1=>simp [headD,head1,List.count_cons,List.count_append,h]
  | n+2=>simp [headD,head2,List.count_cons,List.count_append,h]
theorem head_count92 (d:Nat) (l:List Nat):(headD d l).count 92=2*l.count 92+l.count 34:=by
  have h:=es_count92 l
  match d with
  | 0=>simp [headD,head0,List.count_cons,List.count_append,h]
  | 1=>simp [headD,head1,List.count_cons,List.count_append,h]
  | n+2=>simp [headD,head2,List.count_cons,List.count_append,h]
theorem head_length (d:Nat) (l:List Nat):(headD d l).length=l.length+l.count 92+l.count 34+4+hdr d:=by
  have h:=es_length l
  match d with
  | 0=>simp [headD,head0,h,hdr]
  | 1=>simp [headD,head1,h,hdr]
  | n+2=>simp [headD,head2,h,hdr]
theorem qt_mem:∀{l:List Nat},(∀c∈l,c∈alph)→∀c∈Qt l,c∈alph
  | [],_,c,hc=>nomatch hc
  | a::l,h,c,hc=>by
    rcases List.mem_append.mp hc with hc|hc
    · by_cases e:a=39
      · rw [if_pos e] at hc
        have:c=39∨c=34:=by simp at hc;omega
        rcases this with rfl|rfl<;>decide
      · rw [if_neg e] at hc
        exact h c (by rw [List.mem_singleton.mp hc];exact .head _)
    · exact qt_mem (fun x hx=>h x (.tail _ hx)) c hc
theorem es_mem:∀{l:List Nat},(∀c∈l,c∈alph)→∀c∈Es l,c∈alph
  | [],_,c,hc=>nomatch hc
  | a::l,h,c,hc=>by
    rcases List.mem_append.mp hc with hc|hc
    · by_cases e:a=34∨a=92
      · rw [if_pos e] at hc
        rcases List.mem_cons.mp hc with rfl|hc
        · decide
        · exact h c (by rw [List.mem_singleton.mp hc];exact .head _)
      · rw [if_neg e] at hc
        exact h c (by rw [List.mem_singleton.mp hc];exact .head _)
    · exact es_mem (fun x hx=>h x (.tail _ hx)) c hc
theorem alph_app {a b:List Nat} (h1:∀c∈a,c∈alph) (h2:∀c∈b,c∈alph):∀c∈a++b,c∈alph:=fun c hc=>(List.mem_append.mp hc).elim (h1 c) (h2 c)
theorem alph_cons {a:Nat} {b:List Nat} (h1:a∈alph) (h2:∀c∈b,c∈alph):∀c∈a::b,c∈alph:=fun c hc=>(List.mem_cons.mp hc).elim (fun e=>e▸h1) (h2 c)
theorem step_mem {k d:Nat} {l:List Nat} (h:∀c∈l,c∈alph):∀c∈stepD k d l,c∈alph:=by
  have q:=qt_mem h
  have e:=es_mem h
  have lit:∀z:List Nat,(∀c∈z,c∈alph)→∀c∈z,c∈alph:=fun _ h=>h
  unfold stepD
  by_cases hk:k=0
  · rw [if_pos hk]
    match d with
    | 0=>exact alph_cons (by decide) (alph_app q (by decide))
    | 1=>exact alph_cons (by decide) (alph_cons (by decide) (alph_cons (by decide) (alph_app q (by decide))))
    | n+2=>exact alph_cons (by decide) (alph_app q (by decide))
  · rw [if_neg hk]
    match d with
    | 0=>exact alph_cons (by decide) (alph_cons (by decide) (alph_cons (by decide) (alph_app e (by decide))))
    | 1=>exact alph_cons (by decide) (alph_cons (by decide) (alph_cons (by decide) (alph_cons (by decide) (alph_cons (by decide) (alph_cons (by decide) (alph_app e (by decide)))))))
    | n+2=>exact alph_cons (by decide) (alph_cons (by decide) (alph_cons (by decide) (alph_app e (by decide))))
theorem step_sp {k d:Nat} {l:List Nat} (h:32∈l):32∈stepD k d l:=by
  have h1:0<l.count 32:=List.count_pos_iff.mpr h
  have q:32∈Qt l:=List.count_pos_iff.mp (by rw [qt_count (by decide) (by decide)];exact h1)
  have e:32∈Es l:=List.count_pos_iff.mp (by rw [es_count (by decide)];exact h1)
  unfold stepD
  by_cases hk:k=0
  · rw [if_pos hk]
    match d with
    | 0=>simp [lineD,line0,q]
    | 1=>simp [lineD,line1,q]
    | n+2=>simp [lineD,line2,q]
  · rw [if_neg hk]
    match d with
    | 0=>simp [headD,head0,e]
    | 1=>simp [headD,head1,e]
    | n+2=>simp [headD,head2,e]
theorem step_len {k d:Nat} {l:List Nat} (hd:d≤2):(stepD k d l).length≤5*l.length+9:=by
  have h1:=List.count_le_length (a:=39) (l:=l)
  have h2:=List.count_le_length (a:=92) (l:=l)
  have h3:=List.count_le_length (a:=34) (l:=l)
  have b1:ldr d≤4:=by rcases le2 hd with rfl|rfl|rfl<;>decide
  have b2:hdr d≤5:=by rcases le2 hd with rfl|rfl|rfl<;>decide
  unfold stepD
  by_cases hk:k=0
  · rw [if_pos hk,line_length];omega
  · rw [if_neg hk,head_length];omega
noncomputable def gain (k d c:Nat):Nat:=(stepD k d []).count c
theorem step_count {k d c:Nat} (h1:c≠39) (h2:c≠34) (h3:c≠92) (l:List Nat):(stepD k d l).count c=l.count c+gain k d c:=by
  have q:=qt_count h1 h2 l
  have e:=es_count h3 l
  unfold gain stepD
  by_cases hk:k=0
  · rw [if_pos hk,if_pos hk]
    match d with
    | 0=>simp [lineD,line0,List.count_cons,List.count_append,q,Qt];omega
    | 1=>simp [lineD,line1,List.count_cons,List.count_append,q,Qt];omega
    | n+2=>simp [lineD,line2,List.count_cons,List.count_append,q,Qt];omega
  · rw [if_neg hk,if_neg hk]
    match d with
    | 0=>simp [headD,head0,List.count_cons,List.count_append,e,Es];omega
    | 1=>simp [headD,head1,List.count_cons,List.count_append,e,Es];omega
    | n+2=>simp [headD,head2,List.count_cons,List.count_append,e,Es];omega
end Mine
end
section
namespace Mine
open Mine.Re
noncomputable def runs (ks ds:Nat→Nat) (ps:List Nat) (l:List Nat):List Nat:=ps.foldl (fun l p=>stepD (ks p) (ds p) l) l
theorem runs_mem {ks ds:Nat→Nat}:∀(ps:List Nat) {l:List Nat},(∀c∈l,c∈alph)→∀c∈runs ks ds ps l,c∈alph:=by
  intro u0
  induction u0 with
  | nil=>
    intro _ h
    exact h
  | cons p ps ih=>
    intro l h
    exact ih (step_mem (k:=ks p) (d:=ds p) h)
theorem runs_sp {ks ds:Nat→Nat}:∀(ps:List Nat) {l:List Nat},32∈l→32∈runs ks ds ps l:=by
  intro u0
  induction u0 with
  | nil=>
    intro _ h
    exact h
  | cons p ps ih=>
    intro l h
    exact ih (step_sp (k:=ks p) (d:=ds p) h)
theorem fold_comm {α:Type} {f:α→Nat→α} (hf:∀z x y,f (f z x) y=f (f z y) x) {ps qs:List Nat} (h:ps.Perm qs):∀z,ps.foldl f z=qs.foldl f z:=by
  induction h with
  | nil=>intro z;rfl
  | cons a _ ih=>intro z;exact ih _
  | swap a b l=>intro z;show l.foldl f (f (f z b) a)=l.foldl f (f (f z a) b);rw [hf]
  | trans _ _ i1 i2=>intro z;exact (i1 z).trans (i2 z)
noncomputable def two (ks:Nat→Nat) (z:Nat × Nat) (p:Nat):Nat × Nat:=if ks p=0 then (3*z.1+2,z.2+2*z.1) else (z.1,z.2+2)
theorem two_comm (ks:Nat→Nat) (z:Nat × Nat) (x y:Nat):two ks (two ks z x) y=two ks (two ks z y) x:=by
  unfold two
  by_cases h1:ks x=0<;>by_cases h2:ks y=0<;>simp [h1,h2]<;>omega
theorem runs_two {ks ds:Nat→Nat}:∀(ps l:List Nat),((runs ks ds ps l).count 39,(runs ks ds ps l).count 34)=ps.foldl (two ks) (l.count 39,l.count 34):=by
  intro u0
  induction u0 with
  | nil=>
    intro l
    exact rfl
  | cons p ps ih=>
    intro l
    show ((runs ks ds ps (stepD (ks p) (ds p) l)).count 39,(runs ks ds ps (stepD (ks p) (ds p) l)).count 34)=_
    rw [ih,List.foldl_cons]
    congr 1
    unfold two stepD
    by_cases h:ks p=0
    · rw [if_pos h,if_pos h,line_count39,line_count34]
    · rw [if_neg h,if_neg h,head_count39,head_count34]
theorem runs_other {ks ds:Nat→Nat} {c:Nat} (h1:c≠39) (h2:c≠34) (h3:c≠92):∀(ps l:List Nat),(runs ks ds ps l).count c=ps.foldl (fun z p=>z+gain (ks p) (ds p) c) (l.count c):=by
  intro u0
  induction u0 with
  | nil=>
    intro l
    exact rfl
  | cons p ps ih=>
    intro l
    show (runs ks ds ps (stepD (ks p) (ds p) l)).count c=_
    rw [ih,List.foldl_cons,step_count h1 h2 h3]
theorem runs_apart {ks ds:Nat→Nat} {ps qs:List Nat} (h:ps.Perm qs) (l:List Nat):∀c,c≠92→(runs ks ds ps l).count c=(runs ks ds qs l).count c:=by
  intro c hc
  have ht:=fold_comm (two_comm ks) h (l.count 39,l.count 34)
  rw [←runs_two (ks:=ks) (ds:=ds),←runs_two (ks:=ks) (ds:=ds)] at ht
  by_cases h1:c=39
  · subst h1;exact (Prod.mk.inj ht).1
  by_cases h2:c=34
  · subst h2;exact (Prod.mk.inj ht).2
  rw [runs_other h1 h2 hc,runs_other h1 h2 hc]
  exact fold_comm (fun z x y=>by omega) h _
theorem runs_len4 {ks ds:Nat→Nat} (hd:∀p,ds p≤2) (a b c d:Nat) (l:List Nat) (h:l.length≤4):(runs ks ds [a,b,c,d] l).length≤20000:=by
  have h1:=step_len (k:=ks a) (l:=l) (hd a)
  have h2:=step_len (k:=ks b) (l:=stepD (ks a) (ds a) l) (hd b)
  have h3:=step_len (k:=ks c) (l:=stepD (ks b) (ds b) (stepD (ks a) (ds a) l)) (hd c)
  have h4:=step_len (k:=ks d) (l:=stepD (ks c) (ds c) (stepD (ks b) (ds b) (stepD (ks a) (ds a) l))) (hd d)
  show (stepD (ks d) (ds d) (stepD (ks c) (ds c) (stepD (ks b) (ds b) (stepD (ks a) (ds a) l)))).length≤20000
  omega
end Mine
end
section
namespace Mine
inductive Chs:List Value→List Nat→Prop
  | nil:Chs [] []
  | cons {c t vs l}:Chs vs l→Chs (.str (tx [c]) t::vs) (c::l)
theorem Chs.length {vs:List Value} {l:List Nat} (h:Chs vs l):vs.length=l.length:=by
  induction h with
  | nil=>rfl
  | cons _ ih=>simp [ih]
theorem Chs.append {vs us:List Value} {l r:List Nat} (h:Chs vs l) (h':Chs us r):Chs (vs++us) (l++r):=by
  induction h with
  | nil=>exact h'
  | cons _ ih=>exact .cons ih
theorem Chs.snoc {vs:List Value} {l:List Nat} {c t:Nat} (h:Chs vs l):Chs (vs++[.str (tx [c]) t]) (l++[c]):=h.append (.cons .nil)
theorem Chs.reverse {vs:List Value} {l:List Nat} (h:Chs vs l):Chs vs.reverse l.reverse:=by
  induction h with
  | nil=>exact .nil
  | cons _ ih=>simp only [List.reverse_cons];exact ih.snoc
theorem Chs.last {vs:List Value} {l:List Nat} {c:Nat} (h:Chs vs (l++[c])):∃us t,vs=us++[.str (tx [c]) t]∧Chs us l:=by
  have h':=h.reverse
  rw [List.reverse_append] at h'
  generalize hw:vs.reverse=ws at h'
  cases h' with
  | @cons _ t us _ r=>
    have e:vs=us.reverse++[.str (tx [c]) t]:=by rw [←List.reverse_reverse vs,hw,List.reverse_cons]
    exact ⟨us.reverse,t,e,by have:=r.reverse;simpa using this⟩
theorem Chs.at {vs:List Value} {l:List Nat} (h:Chs vs l):∀{i:Nat} {v:Value},vs[i]?=some v→∃c t,l[i]?=some c∧v= .str (tx [c]) t:=by
  induction h with
  | nil=>intro i v e;simp at e
  | cons r ih=>
    intro i v e
    cases i with
    | zero=>simp at e;exact ⟨_,_,rfl,e.symm⟩
    | succ i=>exact ih (by simpa using e)
theorem Chs.erase {vs:List Value} {l:List Nat} (h:Chs vs l):∀i,Chs (vs.eraseIdx i) (l.eraseIdx i):=by
  induction h with
  | nil=>intro i;exact .nil
  | cons r ih=>
    intro i
    cases i with
    | zero=>exact r
    | succ i=>exact .cons (ih i)
noncomputable def isCh (c:Nat):Value→Bool
  | .str x _=>x==tx [c]
  | _=>false
theorem tx_inj1 {a b:Nat}:(tx [a]==tx [b])=decide (a=b):=by
  by_cases e:a=b
  · subst e;simp
  · rw [decide_eq_false e]
    apply Bool.eq_false_iff.mpr
    intro h
    have h':tx [a]=tx [b]:=by simpa using h
    have:(tx [a]).cps=(tx [b]).cps:=by rw [h']
    simp [tx] at this
    exact e this
theorem Chs.eq {vs:List Value} {l:List Nat} (h:Chs vs l) {c t:Nat}:∀y,y∈vs→MeetsSeq.EqGives y (.str (tx [c]) t) (isCh c y):=by
  induction h with
  | nil=>intro y hy;cases hy
  | cons r ih=>
    intro y hy
    rcases List.mem_cons.mp hy with rfl|hy
    · exact eqGives_str _ _ _ _
    · exact ih y hy
section
variable {prog:Program} {w:World} {A:Around} {E:Value→Shared→Prop} {s:Shared} {Q:Value→Shared→Prop} {g:Heap} {L D:Nat} {m:Str→Option Value} {news news':List (Addr × Obj)} {us:List Value} {r:List Nat} {n c t:Nat}
theorem rm_none (N:News g L s.heap news) (hm:(D,lstO us.toArray n)∈news) (hc:Chs us r) (hn:c ∉ r) (hh:A.handled=none) (hE:∀h' tk e,Heap.NewExc s.heap h' e "ValueError"→E (.ref e) {s with heap:=h',toks:=tk}):
    wpAny (model prog w) A (call (.builtin "list.remove") [.ref D, .str (tx [c]) t]) Q E s:=by
  refine call_meets PySem.F.slot_list_remove ⟨_,(N _ hm).1,rfl⟩ PySem.F.entry_list_remove (PySem.F.args_list_remove_2 _ _)
    (MeetsSeq.list_remove_none D us.toArray n (.str (tx [c]) t) (isCh c) (fun y hy=>hc.eq y (by simpa using hy)) fun i hi=>?_) ⟨(N _ hm).1,hh,fun h' tk e x=>hE h' tk e x⟩
  obtain ⟨d,u,e1,e2⟩:=hc.at (i:=i) (v:=us.toArray[i]) (by simp)
  rw [e2]
  show (tx [d]==tx [c])=false
  rw [tx_inj1]
  exact decide_eq_false fun e=>hn (e▸List.mem_of_getElem? e1)
theorem first_at {c:Nat}:∀{r:List Nat},c∈r→∃j,r[j]?=some c∧(∀i,i<j→r[i]?≠some c)∧r.eraseIdx j=r.erase c:=by
  intro r
  induction r with
  | nil=>exact fun h=>nomatch h
  | cons a r ih=>
    intro h
    by_cases e:a=c
    · subst e;exact ⟨0,rfl,fun i hi=>absurd hi (Nat.not_lt_zero _),by simp⟩
    · rcases List.mem_cons.mp h with e'|h
      · exact absurd e'.symm e
      · obtain ⟨j,h1,h2,h3⟩:=ih h
        refine ⟨j+1,by simpa using h1,fun i hi=>?_,?_⟩
        · cases i with
          | zero=>simpa using e
          | succ i=>simpa using h2 i (by omega)
        · rw [List.erase_cons_tail (by simpa using e)];simp [h3]
theorem rm_some {gf:Obj→List (Addr × Obj)} (F:Fr g L s.heap m) (N:News g L s.heap news) (U:UpdF D (lstO us.toArray n) news gf) (hc:Chs us r) (hn:c∈r) (hz:us.length≤20000) (h:∀h' us',Chs us' (r.erase c)→Fr g L h' m→News g L h' (gf (lstO us'.toArray (n+1)))→Q .none {s with heap:=h'}):
    wpAny (model prog w) A (call (.builtin "list.remove") [.ref D, .str (tx [c]) t]) Q E s:=by
  obtain ⟨j,h1,h2,h3⟩:=first_at hn
  have hl:=hc.length
  have hj:j<us.length:=by
    rw [hl];exact (List.getElem?_eq_some_iff.mp h1).1
  obtain ⟨pre,post,ep,ep',a',b'⟩:=U.split
  have z:=N (D,lstO us.toArray n) (ep▸List.mem_append.mpr (.inr (.head _)))
  have hz':us.toArray.size≤sizeLine:=by
    have:sizeLine=16777216:=rfl
    rw [List.size_toArray];omega
  refine call_meets PySem.F.slot_list_remove ⟨_,z.1,rfl⟩ PySem.F.entry_list_remove (PySem.F.args_list_remove_2 _ _)
    (MeetsSeq.list_remove D us.toArray n (.str (tx [c]) t) (isCh c) (fun y hy=>hc.eq y (by simpa using hy)) j (by simpa using hj) ?_ (fun i hi hlt=>?_) hz')
    ⟨z.1,h _ (us.eraseIdx j) (h3▸hc.erase j) (F.change (Heap.SameBut.update ..) z.2.1 z.2.2) ?_⟩
  · obtain ⟨d,u,e1,e2⟩:=hc.at (i:=j) (v:=us.toArray[j]'(by simpa using hj)) (by simp)
    rw [e2]
    show (tx [d]==tx [c])=true
    rw [h1] at e1;cases e1
    simp
  · obtain ⟨d,u,e1,e2⟩:=hc.at (i:=i) (v:=us.toArray[i]) (by simp)
    rw [e2]
    show (tx [d]==tx [c])=false
    rw [tx_inj1]
    exact decide_eq_false fun e=>h2 i hlt (e▸e1)
  · rw [ep']
    rw [ep] at N
    refine ki_turn _ N a' b' ?_ ?_
    · show us.toArray.eraseIdxIfInBounds j=(us.eraseIdx j).toArray
      apply Array.toList_inj.mp
      simp [Array.toList_eraseIdxIfInBounds]
    · have hq:(us.eraseIdx j).toArray.size≠us.toArray.size:=by
        rw [List.size_toArray,List.size_toArray,List.length_eraseIdx,if_pos hj];omega
      rw [if_neg (by simpa using hq)]
end
end Mine
end
section
namespace Mine
theorem note_first {M:Model} {A:Around} {s:Shared} {E:Value→Shared→Prop} {base:Heap} {env:Env} {outer:List Env} {L e:Addr} {oe:Obj} {vs:Array Value} {a0:Value} {Q:Unit→Shared→Prop}
    (hfr:A.frames=some (env::outer)) (hl:s.heap.FunFrames base (env::outer)) (hf:env.frame=some L)
    (he:s.heap.get? e=some oe) (hkb:base.StaysIn s.heap) (hen:base.get? e=none) (hd:oe.data= .fields vs) (h1:vs[1]?=some .none) (h0:vs[0]?=some a0)
    (h:∀h',Heap.HeldW base (env::outer) e oe.cls a0 L h'→s.heap.UpToSlots h'→Q () {s with heap:=h'}):wpAny M A (noteFrame (.ref e) env) Q E s:=by
  unfold noteFrame
  rw [hf]
  refine wpAny_bind (wpAny_field he hd h1 ?_)
  refine wpAny_entryW hfr hl hf he hkb hen hd (Array.getElem?_eq_some_iff.mp h1).1 h0 fun h' hN=>?_
  obtain ⟨k1,k2,k3,k4⟩:=hN
  exact h h' ⟨k1,hen,k2,k3⟩ k4
section
variable {prog:Program} {w:World} {A₀:Around} {s':Shared} {base g h:Heap} {outer:List Env} {L a e:Addr} {m:Str→Option Value} {name:Str} {scope:Scope} {cd:Value} {E:Value→Shared→Prop}
  {b₀:Stmt} {suite:List Stmt} {pos np:Pos} {rest:List ExceptHandler} {Q:Flow→Shared→Prop} {news:List (Addr × Obj)}
  {p:Program} {loose:List Str} {mean:ExcName→Option Value} {mg mb:Str→Option Value}
theorem caught_here (B:Below A₀ base outer g) (F:Fr g L h m) (N:News g L h news) (T:Top p loose mean mg mb base) (hx:Heap.NewExc h s'.heap e "ValueError")
    (k:∀g' h',Below A₀ base outer g'→Fr g' L h' m→News g' L h' news→SameOff outer g g'→FS outer g g'→
      wpAny (model prog w) ((A₀.deeper (envOf name scope L a cd)).mark (some (.ref e))) (execs (b₀::suite) (envOf name scope L a cd)) Q E {s' with heap:=h'})
    (hE:PassesOwnAt (model prog w) ((A₀.deeper (envOf name scope L a cd)).mark (some (.ref e))) (A₀.deeper (envOf name scope L a cd)) (envOf name scope L a cd) E)
    (XB:(K w.params).In base) (h2:nsIn (K w.params) mainGlobals "ValueError"=some none)
    (hk:scope.kind= .function) (hx2:(envOf name scope L a cd).kindOf "ValueError"=some .globalImplicit):
    wpAny (model prog w) (A₀.deeper (envOf name scope L a cd)) (noteFrame (.ref e) (envOf name scope L a cd))
      (fun _ s₂=>wpAny (model prog w) (A₀.deeper (envOf name scope L a cd)) (setFlight (.ref e) none) (fun _ s₃=>
        wpAny (model prog w) (A₀.deeper (envOf name scope L a cd)) (handleBy (.ref e) (envOf name scope L a cd) (.ExceptHandler (some (.Name "ValueError" np)) none (b₀::suite) pos::rest)) Q E s₃) E s₂) E s':=by
  have K':=B.push (name:=name) (a:=a) (cd:=cd) F hk
  have hin:∀env∈(envOf name scope L a cd::outer),∀b,env.frame=some b→b∈(envOf name scope L a cd::outer).filterMap (·.frame):=fun env he b hb=>List.mem_filterMap.mpr ⟨env,he,hb⟩
  generalize hfs:(envOf name scope L a cd::outer).filterMap (·.frame)=fs at hin
  have st:base.StaysIn (hideAll h fs):=fun b o q=>hideAll_get _ (K'.stays b o q) fun hm=>by
    rw [(K'.frames.mem (hfs▸hm)).1] at q;cases q
  obtain ⟨ob,tp,he,hcls,hd⟩:=hx.there
  have hen:(hideAll h fs).get? e=none:=by
    cases q:(hideAll h fs).get? e with
    | none=>rfl
    | some o=>have:=of_hideAll _ q;rw [hx.new] at this;cases this
  refine note_first (a0:=tp) (base:=hideAll h fs) K'.stack ((funFrames_hide K'.frames hin).of_keeps fun b o hb _=>⟨o,hx.keeps b o hb,rfl⟩) rfl he (fun b o hb=>hx.keeps b o (of_hideAll _ hb)) hen hd rfl rfl fun h₄ hheld₄ hsm₄=>?_
  rw [hcls] at hheld₄
  refine wpAny_landsW hheld₄ fun h₅ hheld hsm₅'=>?_
  have hsm₅:=hsm₄.trans hsm₅'
  obtain ⟨ob5,hob,hobc⟩:=hheld.there
  have kb:∀b o,base.get? b=some o→h₅.get? b=some o:=fun b o q=>hheld.1 b o (st b o q)
  refine wpAny_handleBy_builtin (X:="ValueError") (T:="ValueError") (b:=true) PySem.F.isExc_ValueError PySem.F.notTuple_ValueError (by rw [isSubtype_type];kernel_rfl)
    (Calls.Name_function_global hk hx2 (Calls.loadGlobal_builtin (env:=envOf name scope L a cd) (T.g.keeps kb) (mg_none_of XB T.g h2) (T.b.keeps kb) ((T.builtins _ (by decide+kernel)).trans PyProof.Rows.Boot.«ValueError») ⟨rfl,⟨ob5,hob,hobc⟩,?_⟩) (by decide))
  refine lands_againW hheld fun h₆ hfl₆ hsm₆=>?_
  have sm:=(hsm₅.trans hsm₆)
  have kk:∀b o,h.get? b=some o→(∀env∈(envOf name scope L a cd::outer),env.frame≠some b)→h₆.get? b=some o:=fun b o hb hn=>by
    refine hfl₆.1 b o (hideAll_get _ hb fun hm=>?_)
    rw [←hfs] at hm
    obtain ⟨env,hv,hq⟩:=List.mem_filterMap.mp hm
    exact hn env hv hq
  have fs':FS (envOf name scope L a cd::outer) h h₆:=fun env hv b hb o ho hn=>sm b o (hx.keeps b o ho) hn
  obtain ⟨g',B',F',N',z1,z2,z3,_⟩:=rebase (P:=fun _=>False) B F N (env:=envOf name scope L a cd) rfl (fun b o e he _=>kk b o e he) (fun _ p=>p.elim) (fun p=>p) fs' (fun _ _ p=>p)
  exact wpAny_passesOwnAt hE (k g' h₆ B' F' N' z2 z3)
end
end Mine
end
section
namespace Mine
noncomputable def udW:Stmt:=stAt (fnBody (dK 40)) 1
noncomputable def udB:List Stmt:=whBody udW
noncomputable abbrev udEnv (L:Nat):Env:=envOf "unorderable_list_difference" (fnScope (dK 40)) L 822 (.ref 821)
noncomputable abbrev UM (e a mi:Nat) (oth:Str→Option Value):Str→Option Value:=fun y=>if y=(.ofString "expected":Str) then some (.ref e) else if y=(.ofString "actual":Str) then some (.ref a) else if y=(.ofString "missing":Str) then some (.ref mi) else oth y
theorem fr_um {g h:Heap} {L e a mi:Nat} {m:Str→Option Value} (F:Fr g L h m) (h1:m "expected"=some (.ref e)) (h2:m "actual"=some (.ref a)) (h3:m "missing"=some (.ref mi)):∃oth,Fr g L h (UM e a mi oth):=by
  refine ⟨m,?_⟩
  have:UM e a mi m=m:=by
    funext y
    by_cases q1:y=(.ofString "expected":Str)
    · simp only [UM,if_pos q1];rw [q1,h1]
    by_cases q2:y=(.ofString "actual":Str)
    · simp only [UM,if_neg q1,if_pos q2];rw [q2,h2]
    by_cases q3:y=(.ofString "missing":Str)
    · simp only [UM,if_neg q1,if_neg q2,if_pos q3];rw [q3,h3]
    simp only [UM,if_neg q1,if_neg q2,if_neg q3]
  rw [this];exact F
theorem ud_miss (w:World) {gd:Option (List Code)} {outer:List Env} {base g:Heap} {L e a mi n k j c t:Nat} {pv pb':Program} {mg mb mg' mb':Str→Option Value} {mean mean':ExcName→Option Value} {loose loose':List Str} {s:Shared} {oth:Str→Option Value} {Q:Flow→Shared→Prop} {vs us ms:List Value} {r:List Nat}
    (B:Below (ar 540 5600 gd outer) base outer g) (F:Fr g L s.heap (UM e a mi oth)) (X:(K w.params).In g) (T:Top pv loose mean mg mb g) (XB:(K w.params).In base) (TB:Top pb' loose' mean' mg' mb' base)
    (N:News g L s.heap [(e,lstO (vs++[Value.str (tx [c]) t]).toArray n),(a,lstO us.toArray k),(mi,lstO ms.toArray j)])
    (l1:@Ne Nat e a) (l2:@Ne Nat e mi) (l3:@Ne Nat a mi) (hz:(vs++[Value.str (tx [c]) t]).toArray.toList.length≤sizeLine) (hc:Chs us r) (hn:c ∉ r) (hzm:ms.toArray.size≤sizeLine)
    (ret:∀(g' h':Heap) (tk':Nat) (oth':Str→Option Value),Below (ar 540 5600 gd outer) base outer g'→Fr g' L h' (UM e a mi oth')→News g' L h' [(e,lstO vs.toArray (n+1)),(a,lstO us.toArray k),(mi,lstO (ms++[Value.str (tx [c]) t]).toArray (j+1))]→SameOff outer g g'→FS outer g g'→Q .next {s with heap:=h',toks:=tk'}):
    wpAny (model pw_il0090_01 w) ((ar 540 5600 gd outer).deeper (udEnv L)) (execs udB (udEnv L)) Q (fun _ _=>False) s:=by
  with_unfolding_all show wpAny _ ((ar 540 5600 gd outer).deeper (envOf _ ⟨_,_,_,_,_⟩ _ _ _)) (execs (_::_::[]) (envOf _ ⟨_,_,_,_,_⟩ _ _ _)) _ _ _
  have eK:rw_il0090_01=rw_il0090_01:=rfl
  revert eK X
  k_fill
  intro X eK
  (try (refine let_ctx ?_;intro A9 e9))
  repeat' (first|(k_unfold;(try dsimp only))|((fail_if_success (fail_if_success (with_reducible refine is_call ?_)));first|(k_here;(with_reducible show wpAny _ _ (call (Value.builtin "list.append") [Value.ref _,_]) _ _ _);k_dflt (refine' append_K (by k_asm) (by k_asm) (by k_upd) ?_ (by assumption);k_whole);intro h' F' N')|(k_here;(with_reducible show wpAny _ _ (call (Value.builtin "list.remove") [Value.ref _,Value.str _ _]) _ _ _);k_dflt (refine' rm_none (by k_asm) (by k_mem) (by assumption) (by assumption) (by exact rfl) ?_);(intro h' tk' e' x'))|(k_here;(with_reducible show wpAny _ _ (call (Value.builtin "list.pop") [Value.ref _]) _ _ _);k_dflt (refine' kl_pop (by k_asm) (by k_asm) ?_ (by k_upd) (by assumption) ?_;(any_goals exact kpa_last _ _));(intro h' F' N')))|(k_end;kc_close)|walk1|(dsimp only;walk1)|(leave1;(try dsimp only)))
  rename Fr _ _ _ _=>F8
  rename News _ _ _ _=>N8
  rename Heap.NewExc _ _ _ _=>x8
  refine caught_here B F8 N8 TB x8 (fun g' h' B' F' N' z2 z3=>?_) PassesOwnAt.never XB (by kernel_rfl) rfl rfl
  clear F8 N8 B T X
  have X:=XB.keeps B'.stays
  have T:=TB.keeps B'.stays
  (try (refine let_ctx ?_;intro A9 e9))
  repeat' (first|(k_unfold;(try dsimp only))|((fail_if_success (fail_if_success (with_reducible refine is_call ?_)));first|(k_here;(with_reducible show wpAny _ _ (call (Value.builtin "list.append") [Value.ref _,_]) _ _ _);k_dflt (refine' append_K (by k_asm) (by k_asm) (by k_upd) ?_ (by assumption);k_whole);intro h' F' N')|(k_here;(with_reducible show wpAny _ _ (call (Value.builtin "list.remove") [Value.ref _,Value.str _ _]) _ _ _);k_dflt (refine' rm_none (by k_asm) (by k_mem) (by assumption) (by assumption) (by exact rfl) ?_);(intro h' tk' e' x'))|(k_here;(with_reducible show wpAny _ _ (call (Value.builtin "list.pop") [Value.ref _]) _ _ _);k_dflt (refine' kl_pop (by k_asm) (by k_asm) ?_ (by k_upd) (by assumption) ?_;(any_goals exact kpa_last _ _));(intro h' F' N')))|(k_end;kc_close)|walk1|(dsimp only;walk1)|(leave1;(try dsimp only)))
  rename Fr _ _ _ _=>F9
  rename News _ _ _ _=>N9
  obtain ⟨oth',F9⟩:=fr_um F9 rfl rfl rfl
  rw [List.push_toArray] at N9
  exact ret _ _ _ _ B' F9 N9 z2 z3
theorem ud_hit (w:World) {gd:Option (List Code)} {outer:List Env} {base g:Heap} {L e a mi n k j c t:Nat} {pv pb':Program} {mg mb mg' mb':Str→Option Value} {mean mean':ExcName→Option Value} {loose loose':List Str} {s:Shared} {oth:Str→Option Value} {Q:Flow→Shared→Prop} {vs us ms:List Value} {r:List Nat}
    (B:Below (ar 540 5600 gd outer) base outer g) (F:Fr g L s.heap (UM e a mi oth)) (X:(K w.params).In g) (T:Top pv loose mean mg mb g) (XB:(K w.params).In base) (TB:Top pb' loose' mean' mg' mb' base)
    (N:News g L s.heap [(e,lstO (vs++[Value.str (tx [c]) t]).toArray n),(a,lstO us.toArray k),(mi,lstO ms.toArray j)])
    (l1:@Ne Nat e a) (l2:@Ne Nat e mi) (l3:@Ne Nat a mi) (hz:(vs++[Value.str (tx [c]) t]).toArray.toList.length≤sizeLine) (hc:Chs us r) (hn:c∈r) (hzm:us.length≤20000)
    (ret:∀(h':Heap) (tk':Nat) (oth':Str→Option Value) (us':List Value),Fr g L h' (UM e a mi oth')→News g L h' [(e,lstO vs.toArray (n+1)),(a,lstO us'.toArray (k+1)),(mi,lstO ms.toArray j)]→Chs us' (r.erase c)→Q .next {s with heap:=h',toks:=tk'}):
    wpAny (model pw_il0090_01 w) ((ar 540 5600 gd outer).deeper (udEnv L)) (execs udB (udEnv L)) Q (fun _ _=>False) s:=by
  with_unfolding_all show wpAny _ ((ar 540 5600 gd outer).deeper (envOf _ ⟨_,_,_,_,_⟩ _ _ _)) (execs (_::_::[]) (envOf _ ⟨_,_,_,_,_⟩ _ _ _)) _ _ _
  have eK:rw_il0090_01=rw_il0090_01:=rfl
  revert eK X
  k_fill
  intro X eK
  (try (refine let_ctx ?_;intro A9 e9))
  repeat' (first|(k_unfold;(try dsimp only))|((fail_if_success (fail_if_success (with_reducible refine is_call ?_)));first|(k_here;(with_reducible show wpAny _ _ (call (Value.builtin "list.remove") [Value.ref _,Value.str _ _]) _ _ _);k_dflt (refine' rm_some (by k_asm) (by k_asm) (by exact .tail (by first|assumption|exact Ne.symm (by assumption)) (.head (by simp only [List.forall_mem_cons,List.not_mem_nil,false_implies,implies_true,and_true];first|assumption|exact Ne.symm (by assumption)))) (by assumption) (by assumption) (by assumption) ?_);(intro h' us' c' F' N'))|(k_here;(with_reducible show wpAny _ _ (call (Value.builtin "list.append") [Value.ref _,_]) _ _ _);k_dflt (refine' append_K (by k_asm) (by k_asm) (by k_upd) ?_ (by assumption);k_whole);intro h' F' N')|(k_here;(with_reducible show wpAny _ _ (call (Value.builtin "list.remove") [Value.ref _,Value.str _ _]) _ _ _);k_dflt (refine' rm_none (by k_asm) (by k_mem) (by assumption) (by assumption) (by exact rfl) ?_);(intro h' tk' e' x'))|(k_here;(with_reducible show wpAny _ _ (call (Value.builtin "list.pop") [Value.ref _]) _ _ _);k_dflt (refine' kl_pop (by k_asm) (by k_asm) ?_ (by k_upd) (by assumption) ?_;(any_goals exact kpa_last _ _));(intro h' F' N')))|(k_end;kc_close)|walk1|(dsimp only;walk1)|(leave1;(try dsimp only)))
  rename Fr _ _ _ _=>F9
  rename News _ _ _ _=>N9
  rename Chs _ (List.erase _ _)=>c9
  obtain ⟨oth',F9⟩:=fr_um F9 rfl rfl rfl
  exact ret _ _ _ _ F9 N9 c9
end Mine
end
section
namespace Mine
noncomputable def whTest':Stmt→Expr
  | .While e _ _ _=>e
  | _=>default
noncomputable def udT:Expr:=whTest' udW
noncomputable def ud:List Nat→List Nat→List Nat→List Nat × List Nat
  | [],r,m=>(m,r)
  | c::l,r,m=>if c∈r then ud l (r.erase c) m else ud l r (m++[c])
section
variable {w:World} {gd:Option (List Code)} {outer:List Env} {base g:Heap} {L e a mi n k j:Nat} {pb':Program} {mg' mb':Str→Option Value} {mean':ExcName→Option Value} {loose':List Str} {s:Shared} {oth:Str→Option Value} {vs us ms:List Value} {r:List Nat}
theorem ud_test {Q:Bool→Shared→Prop} {E:Value→Shared→Prop} (F:Fr g L s.heap (UM e a mi oth)) (N:News g L s.heap [(e,lstO vs.toArray n),(a,lstO us.toArray k),(mi,lstO ms.toArray j)]) (hz:vs.length≤20000) (h:∀k,Q (!vs.isEmpty) {s with toks:=k}):
    wpAny (model pw_il0090_01 w) ((ar 540 5600 gd outer).deeper (udEnv L)) (isTrue udT (udEnv L) (eval udT (udEnv L))) Q E s:=by
  with_unfolding_all show wpAny _ _ (isTrue (Expr.Name _ _) (envOf _ ⟨_,_,_,_,_⟩ _ _ _) (eval (Expr.Name _ _) (envOf _ ⟨_,_,_,_,_⟩ _ _ _))) _ _ _
  (try (refine let_ctx ?_;intro A9 e9))
  repeat' (first|(k_unfold;(try dsimp only))|(k_end;kc_close)|walk1|(dsimp only;walk1)|(leave1;(try dsimp only)))
  refine wpAny_truthy_list (items:=vs.toArray) ⟨_,(N _ (.head _)).1,rfl,_,rfl⟩ (by simp;omega) ?_
  rw [List.isEmpty_toArray]
  exact h _
theorem ud_loop (XB:(K w.params).In base) (TB:Top pb' loose' mean' mg' mb' base) (l1:@Ne Nat e a) (l2:@Ne Nat e mi) (l3:@Ne Nat a mi) {Q:Flow→Shared→Prop}:
    ∀(lr:List Nat) (g h:Heap) (tk n k j:Nat) (vs us ms:List Value) (r m:List Nat) (oth:Str→Option Value),Chs vs lr.reverse→Chs us r→Chs ms m→lr.length+m.length≤20000→r.length≤20000→
      Below (ar 540 5600 gd outer) base outer g→Fr g L h (UM e a mi oth)→News g L h [(e,lstO vs.toArray n),(a,lstO us.toArray k),(mi,lstO ms.toArray j)]→
      (∀(g' h':Heap) (tk' n' k' j':Nat) (us' ms':List Value) (oth':Str→Option Value),Below (ar 540 5600 gd outer) base outer g'→Fr g' L h' (UM e a mi oth')→News g' L h' [(e,lstO #[] n'),(a,lstO us'.toArray k'),(mi,lstO ms'.toArray j')]→Chs ms' (ud lr r m).1→Chs us' (ud lr r m).2→SameOff outer g g'→FS outer g g'→Q .next {s with heap:=h',toks:=tk'})→
      WhlRest pw_il0090_01 w ((ar 540 5600 gd outer).deeper (udEnv L)) (fun _ _=>False) (udEnv L) udT udB [] Q 1 {s with heap:=h,toks:=tk}:=by
  intro u0
  induction u0 with
  | nil=>
    intro g h tk n k j vs us ms r m oth hv hu hm hz hz2 B F N ret
    have e0:vs=[]:=by simpa using hv.length
    subst e0
    refine whl_turn PassesOwn.never (ud_test (s:={s with heap:=h,toks:=tk}) F N (by simp) fun tk'=>WhlIf.no rfl (wpAny_execs_nil ?_))
    exact ret g h tk' n k j us ms oth B F N hm hu (fun _ _=>rfl) (fun _ _ b _ o ho _=>⟨o.slots,ho⟩)
  | cons c lr ih=>
    intro g h tk n k j vs us ms r m oth hv hu hm hz hz2 B F N ret
    rw [List.reverse_cons] at hv
    obtain ⟨vs',t,rfl,hv'⟩:=hv.last
    have hl:=hv'.length
    have hlm:=hm.length
    have hlu:=hu.length
    have hs:sizeLine=16777216:=rfl
    simp only [List.length_reverse,List.length_cons] at hl hz
    have X:=XB.keeps B.stays
    have T:=TB.keeps B.stays
    refine whl_turn PassesOwn.never (ud_test (s:={s with heap:=h,toks:=tk}) F N (by simp;omega) fun tk'=>?_)
    rw [show (!(vs'++[Value.str (tx [c]) t]).isEmpty)=true by simp]
    refine WhlIf.yes rfl ?_
    by_cases hc:c∈r
    · refine ud_hit w (s:={s with heap:=h,toks:=tk'}) B F X T XB TB N l1 l2 l3 (by simp;omega) hu hc (by omega) fun h' tk2 oth' us' F' N' c'=>?_
      have e1:ud (c::lr) r m=ud lr (r.erase c) m:=by rw [ud,if_pos hc]
      have le:(r.erase c).length≤r.length:=List.length_erase_le
      exact ih g h' tk2 _ _ _ vs' us' ms (r.erase c) m oth' hv' c' hm (by omega) (by omega) B F' N' (by rw [←e1];exact ret)
    · refine ud_miss w (s:={s with heap:=h,toks:=tk'}) B F X T XB TB N l1 l2 l3 (by simp;omega) hu hc (by simp;omega) fun g' h' tk2 oth' B' F' N' z2 z3=>?_
      have e1:ud (c::lr) r m=ud lr r (m++[c]):=by rw [ud,if_neg hc]
      refine ih g' h' tk2 _ _ _ vs' us (ms++[Value.str (tx [c]) t]) r (m++[c]) oth' hv' hu hm.snoc (by simp;omega) hz2 B' F' N' fun g2 h2 tk3 n' k' j' us' ms' oth2 B2 F2 N2 c2 c3 y2 y3=>?_
      rw [←e1] at c2 c3
      exact ret g2 h2 tk3 n' k' j' us' ms' oth2 B2 F2 N2 c2 c3 (fun b hb=>(y2 b hb).trans (z2 b hb)) fun ev he b hb o ho hn=>by
        obtain ⟨sl,hs⟩:=z3 ev he b hb o ho hn
        exact y3 ev he b hb {o with slots:=sl} hs hn
end
end Mine
end
section
namespace Mine
variable {j0 j1 j2:Int}
theorem fresh_reb {A:Around} {base g g2 h:Heap} {outer:List Env} {ads:List Addr} {t:Addr} (hg:g=hideAll h ads) (y:SameOff outer g g2) (B:Below A base outer g2) (hn:g2.get? t=none) (ha:∀a∈ads,@Ne Nat a t):h.get? t=none:=by
  cases z:h.get? t with
  | none=>rfl
  | some o=>
    have e1:g.get? t=some o:=hg▸hideAll_get _ z fun hm=>ha t hm rfl
    by_cases hx:∃e∈outer,e.frame=some t
    · obtain ⟨e,he,hb⟩:=hx
      obtain ⟨_,o1,h1,h2⟩:=funFrames_in B.frames e he
      rw [hb] at h1;cases h1
      rw [hn] at h2;cases h2
    · have:=y t fun e he hb=>hx ⟨e,he,hb⟩
      rw [hn,e1] at this;cases this
noncomputable def Stop (P:Prop):Prop:=P
theorem stop_here {P:Prop} (h:Stop P):P:=h
theorem c_uld (w:World) {e a n k:Nat} {vs us:List Value} {l r:List Nat} {pv:Program}
    (Bw:Below (ar 540 5600 gd outer) base outer (hideAll s.heap [e,a]))
    (hg0:s.heap.get? e=some (lstO vs.toArray n)) (hg1:s.heap.get? a=some (lstO us.toArray k)) (XB:(K w.params).In base) (TB:Top pv loose mean mg mb base) (hv:Chs vs l) (hu:Chs us r) (hz:l.length≤20000) (hz2:r.length≤20000) (q1:@Ne Nat e a)
    (hret:∀(h':Heap) (tk' t mi n' k' j':Nat) (us' ms':List Value),h'.get? t=some (tupO [.ref mi, .ref a])→h'.get? mi=some (lstO ms'.toArray j')→h'.get? a=some (lstO us'.toArray k')→h'.get? e=some (lstO #[] n')→s.heap.get? t=none→s.heap.get? mi=none→@Ne Nat t mi→Chs ms' (ud l.reverse r []).1→Chs us' (ud l.reverse r []).2→(∀b o,b≠e→b≠a→(∀e∈outer,e.frame≠some b)→s.heap.get? b=some o→h'.get? b=some o)→FS outer s.heap h'→Q (.ref t) {s with heap:=h',toks:=tk'}):
    wpAny (model pw_il0090_01 w) (ar 540 5600 gd outer) (call (.ref 822) [.ref e, .ref a]) Q E s:=by
  have X:=XB.keeps Bw.stays
  have T:=TB.keeps Bw.stays
  have eK:rw_il0090_01=rw_il0090_01:=rfl
  revert eK X XB
  k_fill
  intro XB X eK
  refine wpAny_call ?_
  k_dflt (refine' own_enter (chg:=[(e,lstO vs.toArray n),(a,lstO us.toArray k)]) ?k1 ?k2 ?k3 ?k4 ?k6 ?k7 ?k8 ?k9 ?kB ?_ ?c2 ?c3 ?c4 ?c5;(case k1=>exact Bw);(case k2=>intro q hq;simp only [List.mem_cons,List.not_mem_nil,or_false] at hq;rcases hq with rfl|rfl;exact hg0;exact hg1);(case k3=>exact X);(case k4=>exact T);(case k6=>k_is);(case k7=>k_is);(case k8=>exact Nat.le_of_ble_eq_true rfl);(case k9=>first|exact BindsTo.of_eq rfl|exact binds_K (Frag.In.keeps X fun b o e=>of_hideAll _ e) rfl (by k_is) rfl rfl rfl);(case c5=>decide);(case kB=>exact locs rfl);(case c2=>exact rfl);(case c3=>exact rfl);(case c4=>exact rfl);k_whole;intro g' L' h' hg' hL' F' N' B' X' T' hlt';clear X T Bw;(try dsimp only);(try k_fold))
  (try (refine let_ctx ?_;intro A9 e9))
  repeat' (first|(k_unfold;(try dsimp only))|((fail_if_success (fail_if_success (with_reducible refine is_exec ?_)));first|((with_reducible show wpAny _ _ (exec (Stmt.While ..) _) _ _ _);(refine stop_here ?_)))|(k_end;kc_close)|walk1|(dsimp only;walk1)|(leave1;(try dsimp only)))
  unfold Stop
  rename Fr _ _ _ _=>F8
  rename News _ _ _ _=>N8
  obtain ⟨oth',F9⟩:=fr_um F8 rfl rfl rfl
  have N9:=newsC (a:=e) (o:=lstO vs.toArray n) (by k_mem) N8 (newsC (a:=a) (o:=lstO us.toArray k) (by k_mem) N8 (newsC (o:=lstO ([]:List Value).toArray _) (by k_mem) N8 News.nil))
  with_unfolding_all refine wpAny_mono (whl_start 1 (ud_loop (s:=s) XB TB q1 ?l2 ?l3 l.reverse g' _ _ n k _ vs us [] r [] oth' (by simpa using hv) hu .nil (by simpa using hz) hz2 B' F9 N9 fun g2 h2 tk2 n' k' j' us' ms' oth2 B2 F2 N2 c2 c3 y2 y3=>?_)) (fun _ _ x=>x) (fun _ _ x=>False.elim x)
  case l2=>k_ne
  case l3=>k_ne
  clear F8 F9 N8 N9 X' T'
  have X2:=XB.keeps B2.stays
  have T2:=TB.keeps B2.stays
  (try (refine let_ctx ?_;intro A9 e9))
  repeat' (first|(k_unfold;(try dsimp only))|((fail_if_success (fail_if_success (with_reducible refine is_exec ?_)));first|((with_reducible show wpAny _ _ (exec (Stmt.While ..) _) _ _ _);(refine stop_here ?_)))|(k_end;kc_close)|walk1|(dsimp only;walk1)|(leave1;(try dsimp only)))
  show Q _ _
  rename Fr _ _ _ _=>F9
  rename News _ _ _ _=>N9
  refine' hret _ _ _ _ _ _ _ _ _ ?e1 ?e2 ?e3 ?e4 ?f1 ?f2 ?f3 c2 c3 ?k ?fs
  case e1=>exact News.get N9 (by k_mem)
  case e2=>exact News.get N9 (by k_mem)
  case e3=>exact News.get N9 (by k_mem)
  case e4=>exact News.get N9 (by k_mem)
  case f1=>exact fresh_reb hg' y2 B2 (News.fresh N9 (by k_mem)) (by simp only [List.map,List.forall_mem_cons,List.not_mem_nil,false_implies,implies_true,and_true];exact ⟨by k_ne,by k_ne⟩)
  case f2=>exact fresh_reb hg' y2 B2 (News.fresh N9 (by k_mem)) (by simp only [List.map,List.forall_mem_cons,List.not_mem_nil,false_implies,implies_true,and_true];exact ⟨by k_ne,by k_ne⟩)
  case f3=>k_ne
  case k=>exact fun b o h1 h2 h3 h4=>kept_line hg' y2 F9 b o (by simp only [List.map,List.mem_cons,List.not_mem_nil,or_false,not_or];exact ⟨h1,h2⟩) h3 h4
  case fs=>exact fs_line hg' B' y3 F9
end Mine
end
section
namespace Mine
theorem chs_of {vs:List Value}:∀{l:List Nat},vs.length=l.length→(∀(j:Nat) (v:Value),vs[j]?=some v→∃c t,l[j]?=some c∧v=Value.str (tx [c]) t)→Chs vs l:=by
  induction vs with
  | nil=>
    intro l e _
    cases l with
    | nil=>exact .nil
    | cons _ _=>exact nomatch e
  | cons v vs ih=>
    intro l e h
    cases l with
    | nil=>exact nomatch e
    | cons c l=>
      obtain ⟨c',t,h1,h2⟩:=h 0 v rfl
      cases h1
      subst h2
      exact .cons (ih (Nat.succ.inj e) fun j w hw=>h (j+1) w hw)
section
variable {w:World} {A A₀:Around} {base g h₀:Heap} {env:Env} {outer:List Env} {L:Nat} {m mg' mb':Str→Option Value} {pb':Program} {mean':ExcName→Option Value} {loose':List Str} {news:List (Addr × Obj)} {s:Shared} {Q E:Value→Shared→Prop} {l r:List Nat} {t:Nat}
theorem list_ch (hh:A.handled=none) (F:Fr g L s.heap m) (N:News g L s.heap news) (hz:l.length≤20000)
    (ret:∀(h':Heap) (tk' D c:Nat) (vs:List Value),Chs vs l→Fr g L h' m→News g L h' ((D,lstO vs.toArray c)::news)→AllNe D news→Q (.ref D) {s with heap:=h',toks:=tk'}):
    wpAny (model pw_il0090_01 w) A (call (.type "list") [.str (tx l) t]) Q E s:=by
  have hsz:(tx l).cps.size≤sizeLine:=by
    have e:(tx l).cps.size=l.length:=by simp [tx]
    have hs:sizeLine=16777216:=rfl
    omega
  refine call_list_str hh (tx l) t (hn:=hsz) fun h' tk acc' c' hk hS' hacc=>?_
  have e:(tx l).cps.size=l.length:=by simp [tx]
  have hc:Chs acc'.toList l:=chs_of (by rw [Array.length_toList,hacc.1,e]) fun j v hv=>by
    obtain ⟨c,u,hc,rfl⟩:=hacc.2 j v (by simpa using hv)
    exact ⟨c,u,by simpa [tx] using hc,rfl⟩
  have fr:s.heap.get? s.heap.objs.size=none:=by
    cases z:s.heap.get? s.heap.objs.size with
    | none=>rfl
    | some o=>exact absurd (Heap.lt_size z) (Nat.lt_irrefl _)
  obtain ⟨F',N',ne⟩:=new_news F N hk hS' fr
  have N2:News g L h' ((s.heap.objs.size,lstO acc'.toList.toArray c')::news):=by simpa using N'
  exact ret h' tk _ c' acc'.toList hc F' N2 (allNe_of fun q hq=>(ne q hq))
theorem rev_ch {value slice:PySem.Expr} {ops:List Value} {vs:List Value} {a n:Nat} {vk:Value} (F:Fr g L s.heap m) (N:News g L s.heap news) (hm:(a,lstO vs.toArray n)∈news) (hc:Chs vs l) (hz:l.length≤20000) (pk:IsPart vk (some (-1)))
    (ret:∀(D:Nat) (h':Heap) (us:List Value),Chs us l.reverse→Fr g L h' m→News g L h' ((D,lstO us.toArray 0)::news)→AllNe D news→Q (.ref D) {s with heap:=h'})
    (hs:subscripted slice false (.ref a) (.ref s.heap.objs.size)=operate ops (getItem (.ref a) (.ref s.heap.objs.size))) (ht:∀r,letTemporaryGo value (.ref a) r=pure ()):
    wpAny (model pw_il0090_01 w) A (subscriptTail value slice (.ref a) (.ref s.heap.objs.size)) Q E {s with heap:=s.heap.push {cls:= .type "slice",data:= .fields #[.none, .none,vk]}}:=by
  have hl:=hc.length
  have hz':sizeLine=16777216:=rfl
  exact krv_lit (its:=vs.toArray) (zs:=vs.reverse) F N ⟨_,(N _ hm).1,rfl,_,rfl⟩ pk rfl (fun D h' F' N' l1=>ret D h' vs.reverse hc.reverse F' N' (allNe_of fun q hq=>Nat.ne_of_lt (l1 q hq))) hs ht (by simp;omega)
theorem mul_bs {a k:Nat} {x:Int} {u:Nat} {z:Value} (F:Fr g L s.heap m) (N:News g L s.heap news) (hm:(a,lstO #[z] k)∈news) (hlo: -20000≤x) (hhi:x≤20000)
    (ret:∀(D:Nat) (h':Heap),Fr g L h' m→News g L h' ((D,lstO (List.replicate x.toNat z).toArray 0)::news)→AllNe D news→Q (.ref D) {s with heap:=h'}):
    wpAny (model pw_il0090_01 w) A (binaryOp .Mult (.ref a) (.int x u)) Q E s:=by
  have fr:∀q∈news,q.1≠s.heap.objs.size:=fun q hq=>Nat.ne_of_lt (Heap.lt_size (N q hq).1)
  refine mul_list F N (N _ hm).1 (by omega) (by omega) (by simp;omega) fun h' F' N'=>?_
  have e:List.foldl (fun x1 x2=>x1++x2) #[] (List.replicate (if (#[z]:Array Value).isEmpty=true then 0 else x.toNat) #[z])=(List.replicate x.toNat z).toArray:=by
    rw [if_neg (by simp)]
    have key:∀(n:Nat) (acc:Array Value),List.foldl (fun x1 x2=>x1++x2) acc (List.replicate n #[z])=acc++(List.replicate n z).toArray:=by
      intro n
      induction n with
      | zero=>intro acc;simp
      | succ n ih=>intro acc;rw [List.replicate_succ,List.foldl_cons,ih,List.replicate_succ];apply Array.toList_inj.mp;simp
    rw [key];simp
  rw [e] at N'
  exact ret _ h' F' N' (allNe_of fun q hq=>fr q hq)
theorem use_uld {a e n k:Nat} {vs us:List Value} {r1 rest:List (Addr × Obj)} (B:Below A₀ base outer g) (F:Fr g L s.heap m) (N:News g L s.heap news) (XB:(K w.params).In base) (TB:Top pb' loose' mean' mg' mb' base)
    (hA:A.frames=some (env::outer)) (hf:env.frame=some L) (hke:env.scope.kind= .function) (hh:A.handled=none) (hd:Nat.ble A.depth 540=true) (hu:Nat.ble A.units 5600=true)
    (W1:Del (e,lstO vs.toArray n) news r1) (W2:Del (a,lstO us.toArray k) r1 rest) (n1:AllNe e r1) (n2:AllNe a rest) (hv:Chs vs l) (hw:Chs us r) (hz:l.length≤20000) (hz2:r.length≤20000)
    (ret:∀(g' h':Heap) (tk' t mi n' k' j':Nat) (us' ms':List Value),Chs ms' (ud l.reverse r []).1→Chs us' (ud l.reverse r []).2→Below A₀ base outer g'→Fr g' L h' m→(K w.params).In g'→Top pb' loose' mean' mg' mb' g'→
      News g' L h' ((t,tupO [.ref mi, .ref a])::(mi,lstO ms'.toArray j')::(e,lstO #[] n')::(a,lstO us'.toArray k')::rest)→AllNe t ((mi,lstO ms'.toArray j')::news)→AllNe mi news→SameOff outer g g'→FS outer g g'→Q (.ref t) {s with heap:=h',toks:=tk'}):
    wpAny (model pw_il0090_01 w) A (call (.ref 822) [.ref e, .ref a]) Q E s:=by
  have m1:=W1.mem.1
  have m2:=W1.mem.2 _ W2.mem.1
  have hea:@Ne Nat e a:=fun e'=>(allNe_all n1 _ W2.mem.1) e'.symm
  have BS:=below_sub (as:=[e,a]) B F N hA hf hke (by
    intro b hb
    simp only [List.mem_cons,List.not_mem_nil,or_false] at hb
    rcases hb with rfl|rfl
    · exact ⟨_,m1⟩
    · exact ⟨_,m2⟩)
  refine weaken (A':=ar 540 5600 A.guards (env::outer)) hh (Nat.le_of_ble_eq_true hd) hA.symm rfl (Nat.le_of_ble_eq_true hu) ?_
  refine c_uld w ⟨rfl,BS.stays,BS.frames⟩ (N _ m1).1 (N _ m2).1 XB TB hv hw hz hz2 hea fun h' tk' t mi n' k' j' us' ms' e1 e2 e3 e4 f1 f2 f3 c1 c2 kk fs=>?_
  obtain ⟨g',B',F',N',z1,z2,z3,z4⟩:=rebase (P:=fun b=>b=e∨b=a) (news:=rest) B F (fun q hq=>N q (W1.mem.2 _ (W2.mem.2 _ hq))) hf
    (fun b o hb he hp=>kk b o (fun q=>hp (.inl q)) (fun q=>hp (.inr q)) he hb)
    (fun b hp=>by
      have:∃o,(b,o)∈news:=by rcases hp with rfl|rfl;exact ⟨_,m1⟩;exact ⟨_,m2⟩
      obtain ⟨o,ho⟩:=this
      have h3:=(N _ ho).2.2
      refine ⟨?_,fun o' q=>by rw [h3] at q;cases q⟩
      cases q:base.get? b with
      | none=>rfl
      | some o'=>have:=B.stays _ _ q;rw [h3] at this;cases this)
    (fun hp=>by rcases hp with q|q;exact (N _ m1).2.1 q.symm;exact (N _ m2).2.1 q.symm) fs
    (fun q hq hp=>by
      rcases hp with h1|h1
      · exact allNe_all n1 q (W2.mem.2 q hq) h1
      · exact allNe_all n2 q hq h1)
  have fresh:∀b,s.heap.get? b=none→b≠L∧g'.get? b=none∧AllNe b news:=fun b hb=>by
    refine ⟨fun q=>?_,z4 b ?_,allNe_of fun q hq e'=>?_⟩
    · obtain ⟨o,e'⟩:=fr_get F;rw [←q,hb] at e';cases e'
    · cases z:g.get? b with
      | none=>rfl
      | some o=>have:=F.keep _ _ z;rw [hb] at this;cases this
    · have:=(N q hq).1;rw [e',hb] at this;cases this
  obtain ⟨t1,t2,t3⟩:=fresh t f1
  obtain ⟨i1,i2,i3⟩:=fresh mi f2
  refine ret g' h' tk' t mi n' k' j' us' ms' c1 c2 B' F' (XB.keeps B'.stays) (TB.keeps B'.stays) ?_ ⟨fun q=>f3 q.symm,t3⟩ i3 z2 z3
  intro q hq
  rcases List.mem_cons.mp hq with rfl|hq
  · exact ⟨e1,t1,t2⟩
  rcases List.mem_cons.mp hq with rfl|hq
  · exact ⟨e2,i1,i2⟩
  rcases List.mem_cons.mp hq with rfl|hq
  · exact ⟨e4,(N _ m1).2.1,z4 _ (N _ m1).2.2⟩
  rcases List.mem_cons.mp hq with rfl|hq
  · exact ⟨e3,(N _ m2).2.1,z4 _ (N _ m2).2.2⟩
  exact N' q hq
theorem reads_reps {h:Heap} {a c:Nat} {z:Value} {d:PyData} {n:Nat} (hg:h.get? a=some (lstO (List.replicate n z).toArray c)) (hz:Reads h z d []):∃as,Reads h (.ref a) (.list (List.replicate n d)) as:=by
  have key:∀n,∃as,ReadsAll h (List.replicate n z) (List.replicate n d) as:=by
    intro n
    induction n with
    | zero=>exact ⟨_, .nil⟩
    | succ n ih=>obtain ⟨as,ih⟩:=ih;exact ⟨_, .cons hz ih⟩
  obtain ⟨as,ha⟩:=key n
  exact ⟨_,reads_list_at hg rfl rfl ha⟩
end
end Mine
end
section
namespace Mine
theorem ud_count (c:Nat):∀(l r m:List Nat),l.count c+m.count c+(ud l r m).2.count c=(ud l r m).1.count c+r.count c
  | [],r,m=>by simp [ud]
  | a::l,r,m=>by
    rw [ud]
    by_cases h:a∈r
    · rw [if_pos h]
      have ih:=ud_count c l (r.erase a) m
      rw [List.count_cons]
      by_cases e:a=c
      · subst e
        have:=List.count_erase_self (a:=a) (l:=r)
        have h1:0<r.count a:=List.count_pos_iff.mpr h
        simp only [beq_self_eq_true,if_true];omega
      · have:(r.erase a).count c=r.count c:=List.count_erase_of_ne (Ne.symm e)
        rw [if_neg (by simpa using e)];omega
    · rw [if_neg h]
      have ih:=ud_count c l r (m++[a])
      rw [List.count_append] at ih
      rw [List.count_cons]
      by_cases e:a=c
      · subst e;simp at ih ⊢;omega
      · rw [if_neg (by simpa using e)]
        have:[a].count c=0:=by simp [List.count_cons,e]
        omega
theorem ud_apart:∀(l r m:List Nat),(∀c∈m,c ∉ r)→∀c∈(ud l r m).1,c ∉ (ud l r m).2:=by
  intro u0
  induction u0 with
  | nil=>
    intro r m h
    exact h
  | cons a l ih=>
    intro r m h
    rw [ud]
    by_cases e:a∈r
    · rw [if_pos e]
      exact ih _ m fun c hc hr=>h c hc (List.mem_of_mem_erase hr)
    · rw [if_neg e]
      refine ih r _ fun c hc=>?_
      rcases List.mem_append.mp hc with hc|hc
      · exact h c hc
      · rw [List.mem_singleton.mp hc];exact e
theorem sub_of {a b m q:Nat} (h:a+q=m+b) (h0:m=0∨q=0):m=a - b:=by
  rcases h0 with rfl|rfl
  · rw [Nat.zero_add] at h;exact (Nat.sub_eq_zero_of_le (h▸Nat.le_add_right a q)).symm
  · rw [Nat.add_zero] at h;rw [h,Nat.add_sub_cancel]
theorem ud_is {l r:List Nat} (h:∀c,c≠92→l.count c=r.count c):(ud l r []).1=List.replicate (l.count 92 - r.count 92) 92∧(ud l r []).2=List.replicate (r.count 92 - l.count 92) 92:=by
  have ap:=ud_apart l r [] (fun _ h=>nomatch h)
  have ct:∀c,l.count c+(ud l r []).2.count c=(ud l r []).1.count c+r.count c:=fun c=>by simpa using ud_count c l r []
  generalize (ud l r []).1=m at ap ct ⊢
  generalize (ud l r []).2=q at ap ct ⊢
  have dis:∀c,m.count c=0∨q.count c=0:=fun c=>by
    by_cases hm:c∈m
    · exact .inr (List.count_eq_zero.mpr (ap c hm))
    · exact .inl (List.count_eq_zero.mpr hm)
  have only:∀c,c≠92→m.count c=0∧q.count c=0:=fun c hc=>by
    have h1:=ct c;have h2:=h c hc;have h3:=dis c
    omega
  have rep:∀z:List Nat,(∀c,c≠92→z.count c=0)→z=List.replicate (z.count 92) 92:=fun z hz=>by
    have hm:∀b∈z,b=92:=fun b hb=>Classical.byContradiction fun hn=>(List.count_eq_zero.mp (hz b hn)) hb
    refine List.eq_replicate_iff.mpr ⟨?_,hm⟩
    exact (List.count_eq_length.mpr fun b hb=>(hm b hb).symm).symm
  have h1:=ct 92;have h3:=dis 92
  constructor
  · rw [rep m fun c hc=>(only c hc).1];congr 1;exact sub_of h1 h3
  · rw [rep q fun c hc=>(only c hc).2];congr 1;exact sub_of (by rw [Nat.add_comm,←h1,Nat.add_comm]) h3.symm
theorem ud_len:∀(l r m:List Nat),l.length+m.length+(ud l r m).2.length=(ud l r m).1.length+r.length:=by
  intro u0
  induction u0 with
  | nil=>
    intro r m
    simp [ud]
  | cons a l ih=>
    intro r m
    rw [ud]
    by_cases h:a∈r
    · rw [if_pos h]
      have ih:=ih (r.erase a) m
      have h1:=List.length_erase_of_mem h
      have h2:=List.length_pos_of_mem h
      rw [List.length_cons];omega
    · rw [if_neg h]
      have ih:=ih r (m++[a])
      rw [List.length_append,List.length_singleton] at ih
      rw [List.length_cons];omega
theorem len_back {l r:List Nat} (h:∀c,c≠92→l.count c=r.count c):(l.length:Int) - r.length=(l.count 92:Int) - r.count 92:=by
  have h1:=ud_len l r []
  have h2:=ud_is h
  rw [h2.1,h2.2,List.length_replicate,List.length_replicate] at h1
  simp only [List.length_nil] at h1
  omega
theorem way_zero {x y m:Int} (e:x - y=m) (h:m=0):(b2i (decide (y<x)) - b2i (decide (x<y))==0)=true:=by
  have h1:¬y<x:=by omega
  have h2:¬x<y:=by omega
  rw [decide_eq_false h1,decide_eq_false h2];rfl
theorem way_back {x y m:Int} (e:x - y=m):((b2i (decide (y<x)) - b2i (decide (x<y)))*m==if m<0 then -m else m)=true:=by
  have b1:b2i true=1:=rfl
  have b0:b2i false=0:=rfl
  by_cases h1:y<x
  · have h2:¬x<y:=by omega
    rw [decide_eq_true h1,decide_eq_false h2,if_neg (by omega),b1,b0];simp
  · by_cases h2:x<y
    · rw [decide_eq_false h1,decide_eq_true h2,if_pos (by omega),b1,b0];simp
    · rw [decide_eq_false h1,decide_eq_false h2,if_neg (by omega),b0];simp;omega
theorem q_true {Q:Value→Shared→Prop} {b:Bool} {s:Shared} (e:b=true) (h:Q (.bool true) s):Q (.bool b) s:=e▸h
theorem chs_reads {h:Heap} {vs:List Value} {l:List Nat} (hc:Chs vs l):∃as,ReadsAll h vs (l.map fun c=> .str (tx [c])) as:=by
  induction hc with
  | nil=>exact ⟨_, .nil⟩
  | cons _ ih=>obtain ⟨as,ih⟩:=ih;exact ⟨_, .cons (Reads.str _ _) ih⟩
theorem canLay_reps {d:PyData} (h:d.canLay0=true):∀n,(PyData.list (List.replicate n d)).canLay0=true:=by
  have key:∀n,PyData.canLayAll0 (List.replicate n d)=true:=by
    intro n
    induction n with
    | zero=>rfl
    | succ n ih=>rw [List.replicate_succ,PyData.canLayAll0,h,ih];rfl
  exact key
theorem depth_reps {d:PyData}:∀n,PyData.depthAll (List.replicate n d)≤d.depth:=by
  intro n
  induction n with
  | zero=>simp [PyData.depthAll]
  | succ n ih=>rw [List.replicate_succ,PyData.depthAll];omega
section
variable {w:World} {A:Around} {g:Heap} {L:Nat} {news:List (Addr × Obj)} {s:Shared} {Q E:Value→Shared→Prop}
noncomputable def bsD (n:Nat):PyData:= .list (List.replicate n (.str (tx [92])))
theorem ne_told {t mi a u p q c1 c2 c3 c4 n1 n2:Nat} {ms us:List Value} {tz:Nat} {zb:Str} (N:News g L s.heap news) (hb:zb=tx [92]) (m1:(t,tupO [.ref mi, .ref a])∈news) (m2:(mi,lstO ms.toArray c1)∈news) (m3:(a,lstO us.toArray c2)∈news)
    (m4:(u,tupO [.ref p, .ref q])∈news) (m5:(p,lstO (List.replicate n1 (.str zb tz)).toArray c3)∈news) {tz2:Nat} (m6:(q,lstO (List.replicate n2 (.str zb tz2)).toArray c4)∈news) (hm:Chs ms (List.replicate n1 92)) (hu:Chs us (List.replicate n2 92)) (hu2:Nat.ble (A.units+65) cLine=true) (h:Q (.bool false) s):
    wpAny (model pw_il0090_01 w) A (compareOp .NotEq (.ref t) (.ref u)) Q E s:=by
  subst hb
  have hk:(PyData.str (tx [92])).canLay0=true:=by kernel_rfl
  have hsh:∀n1 n2,SeqAt.shaped (.tuple [bsD n1,bsD n2])=true:=fun n1 n2=>by
    have d1:=depth_reps (d:=PyData.str (tx [92])) n1
    have d2:=depth_reps (d:=PyData.str (tx [92])) n2
    have d0:(PyData.str (tx [92])).depth=0:=rfl
    unfold SeqAt.shaped
    have e1:(PyData.tuple [bsD n1,bsD n2]).canLay0=true:=by
      show PyData.canLayAll0 [bsD n1,bsD n2]=true
      rw [PyData.canLayAll0,PyData.canLayAll0,show (bsD n1).canLay0=true from canLay_reps hk n1,show (bsD n2).canLay0=true from canLay_reps hk n2];rfl
    have e2:(PyData.tuple [bsD n1,bsD n2]).depth≤64:=by
      dsimp only [PyData.depth,PyData.depthAll,bsD]
      omega
    rw [e1];simpa using e2
  obtain ⟨a1,r1⟩:=chs_reads (h:=s.heap) hm
  obtain ⟨a2,r2⟩:=chs_reads (h:=s.heap) hu
  rw [List.map_replicate] at r1 r2
  obtain ⟨b1,r3⟩:=reads_reps (d:= .str (tx [92])) (N _ m5).1 (Reads.str _ _)
  obtain ⟨b2,r4⟩:=reads_reps (d:= .str (tx [92])) (N _ m6).1 (Reads.str _ _)
  refine same_ne2 (d:= .tuple [bsD n1,bsD n2]) ⟨_,reads_tuple_at (N _ m1).1 rfl rfl (.cons (reads_list_at (N _ m2).1 rfl rfl r1) (.cons (reads_list_at (N _ m3).1 rfl rfl r2) .nil))⟩
    ⟨_,reads_tuple_at (N _ m4).1 rfl rfl (.cons r3 (.cons r4 .nil))⟩ (hsh n1 n2) hu2 (SeqAt.eqv_refl _ (SeqAt.canLay_of_shaped (hsh n1 n2))) h
theorem use_len {l:List Nat} {t:Nat} (hz:l.length≤20000) (h:∀t' k',Q (.int (l.length:Int) t') {s with toks:=k'}):wpAny (model pw_il0090_01 w) A (call (.builtin "len") [.str (tx l) t]) Q E s:=by
  refine len_str (by rw [tx_len];omega) ?_
  rw [tx_len];exact h _ _
end
end Mine
end
section
namespace Mine
open Mine.Re
noncomputable def Stop' (P:Prop):Prop:=P
theorem stop_here' {P:Prop} (h:Stop' P):P:=h
noncomputable abbrev chEnv (L:Nat):Env:=envOf "_law_chain" (fnScope (dK 51)) L 890 (.ref 889)
noncomputable def chB:List Stmt:=whBody (stAt (fnBody (dK 51)) 1)
noncomputable abbrev CM (txt cnt kd dr pl:Value) (oth:Str→Option Value):Str→Option Value:=fun y=>if y=(.ofString "place":Str) then some pl else if y=(.ofString "text":Str) then some txt else if y=(.ofString "counts":Str) then some cnt else if y=(.ofString "kinds":Str) then some kd else if y=(.ofString "dresses":Str) then some dr else oth y
theorem fr_cm {g h:Heap} {L:Nat} {txt cnt kd dr pl:Value} {m:Str→Option Value} (F:Fr g L h m) (h0:m "place"=some pl) (h1:m "text"=some txt) (h2:m "counts"=some cnt) (h3:m "kinds"=some kd) (h4:m "dresses"=some dr):∃oth,Fr g L h (CM txt cnt kd dr pl oth):=by
  refine ⟨m,?_⟩
  have:CM txt cnt kd dr pl m=m:=by
    funext y
    by_cases q0:y=(.ofString "place":Str)
    · simp only [CM,if_pos q0];rw [q0,h0]
    by_cases q1:y=(.ofString "text":Str)
    · simp only [CM,if_neg q0,if_pos q1];rw [q1,h1]
    by_cases q2:y=(.ofString "counts":Str)
    · simp only [CM,if_neg q0,if_neg q1,if_pos q2];rw [q2,h2]
    by_cases q3:y=(.ofString "kinds":Str)
    · simp only [CM,if_neg q0,if_neg q1,if_neg q2,if_pos q3];rw [q3,h3]
    by_cases q4:y=(.ofString "dresses":Str)
    · simp only [CM,if_neg q0,if_neg q1,if_neg q2,if_neg q3,if_pos q4];rw [q4,h4]
    simp only [CM,if_neg q0,if_neg q1,if_neg q2,if_neg q3,if_neg q4]
  rw [this];exact F
theorem line_eq {d:Nat} (hd:d≤2) (l:List Nat):[((lineD d l).count 39:Int),((lineD d l).count 34:Int),((lineD d l).count 92:Int),((lineD d l).length:Int)]=[3*(l.count 39:Int)+2,(l.count 34:Int)+2*(l.count 39:Int),(l.count 92:Int),(l.length:Int)+4*(l.count 39:Int)+2+[(0:Int),2,4].getD (d:Int).toNat 0]:=by
  have e:[(0:Int),2,4].getD (d:Int).toNat 0=(ldr d:Int):=by match d,hd with|0,_=>rfl|1,_=>rfl|2,_=>rfl
  rw [e,line_count39,line_count34,line_count92,line_length]
  simp only [List.cons.injEq,and_true]
  refine ⟨?_,?_,?_,?_⟩<;>push_cast<;>omega
theorem head_eq {d:Nat} (hd:d≤2) (l:List Nat):[((headD d l).count 39:Int),((headD d l).count 34:Int),((headD d l).count 92:Int),((headD d l).length:Int)]=[(l.count 39:Int),(l.count 34:Int)+2,2*(l.count 92:Int)+(l.count 34:Int),(l.length:Int)+(l.count 92:Int)+(l.count 34:Int)+4+[(0:Int),3,5].getD (d:Int).toNat 0]:=by
  have e:[(0:Int),3,5].getD (d:Int).toNat 0=(hdr d:Int):=by match d,hd with|0,_=>rfl|1,_=>rfl|2,_=>rfl
  rw [e,head_count39,head_count34,head_count92,head_length]
  simp only [List.cons.injEq,and_true]
  refine ⟨?_,?_,?_,?_⟩<;>push_cast<;>omega
noncomputable abbrev cntO (l:List Nat) (a b c d n:Nat):Obj:=lstO #[.int (l.count 39:Int) a, .int (l.count 34:Int) b, .int (l.count 92:Int) c, .int (l.length:Int) d] n
end Mine
end
section
namespace Mine
variable {j0 j1 j2:Int}
theorem c_apart (w:World) {l r:List Nat} {t u:Nat} {pv:Program}
    (Bw:Below (ar 530 5500 gd outer) base outer s.heap)
     (XB:(K w.params).In base) (TB:Top pv loose mean mg mb base) (hz:l.length≤20000) (hz2:r.length≤20000) (hcc:∀c,c≠92→l.count c=r.count c)
    (hret:∀(h':Heap) (tk':Nat),(∀b o,(∀e∈outer,e.frame≠some b)→s.heap.get? b=some o→h'.get? b=some o)→FS outer s.heap h'→Q (.bool true) {s with heap:=h',toks:=tk'}):
    wpAny (model pw_il0090_01 w) (ar 530 5500 gd outer) (call (.ref 897) [.str (tx l) t, .str (tx r) u]) Q E s:=by
  have X:=XB.keeps Bw.stays
  have T:=TB.keeps Bw.stays
  have eK:rw_il0090_01=rw_il0090_01:=rfl
  revert eK X XB
  k_fill
  intro XB X eK
  refine wpAny_call ?_
  k_dflt (refine' own_enter (chg:=[]) ?k1 ?k2 ?k3 ?k4 ?k6 ?k7 ?k8 ?k9 ?kB ?_ ?c2 ?c3 ?c4 ?c5;(case k1=>exact Bw);(case k2=>exact fun _ h=>nomatch h);(case k3=>exact X);(case k4=>exact T);(case k6=>k_is);(case k7=>k_is);(case k8=>exact Nat.le_of_ble_eq_true rfl);(case k9=>first|exact BindsTo.of_eq rfl|exact binds_K X rfl (by k_is) rfl rfl rfl);(case c5=>decide);(case kB=>exact locs rfl);(case c2=>exact rfl);(case c3=>exact rfl);(case c4=>exact rfl);k_whole;intro g' L' h' hg' hL' F' N' B' X' T' hlt';clear X T Bw;(try dsimp only);(try k_fold))
  have hlb:=len_back hcc
  have hb1:=List.count_le_length (a:=92) (l:=l)
  have hb2:=List.count_le_length (a:=92) (l:=r)
  repeat' (first|(k_unfold;(try dsimp only))|((fail_if_success (fail_if_success (with_reducible refine is_call ?_)));first|((with_reducible show wpAny _ _ (call (Value.builtin _) [Value.str (tx _) _,Value.str (Str.ofString "\\") _]) _ _ _);(refine use_count (c:=92) (by decide) ?_);intro tβ kβ)|((with_reducible show wpAny _ _ (call (Value.type _) [Value.str (tx _) _]) _ _ _);k_dflt (refine' list_ch (by exact rfl) (by k_asm) (by k_asm) (by assumption) ?_);intro hβ tkβ Dβ cβ vsβ hCβ Fβ Nβ l1β)|((with_reducible show wpAny _ _ (call (Value.ref 822) _) _ _ _);refine stop_here ?_)|((with_reducible show wpAny _ _ (call (Value.builtin _) [Value.str (tx _) _]) _ _ _);(refine use_len (by assumption) ?_);intro tβ kβ))|((with_reducible show wpAny _ _ (subscriptTail _ (PySem.Expr.Slice none none (some _) _) (Value.ref _) (Value.ref _)) _ _ _);k_dflt (refine' rev_ch (by k_asm) (by k_asm) (by k_mem) (by assumption) (by assumption) (by exact IsPart.int _ _) ?_ (by with_unfolding_all rfl) (by kmk_pure));intro Dβ hβ usβ hCβ Fβ Nβ l1β)|((with_reducible show wpAny _ _ (binaryOp Operator.Mult (Value.ref _) (Value.int _ _)) _ _ _);k_dflt (refine' mul_bs (by k_asm) (by k_asm) (by k_mem) (by omega) (by omega) ?_);intro Dβ hβ Fβ Nβ l1β)|((with_reducible show wpAny _ _ (compareOp CmpOp.NotEq (Value.ref _) (Value.ref _)) _ _ _);k_dflt (refine' ne_told ?N ?hb ?m1 ?m2 ?m3 ?m4 ?m5 ?m6 ?c1 ?c2 ?u ?_;(case N=>k_asm);(case m1=>k_mem);(case m4=>k_mem);(case m2=>k_mem);(case m3=>k_mem);(case m5=>k_mem);(case m6=>k_mem);(case hb=>decide);(case c1=>assumption);(case c2=>assumption);(case u=>exact rfl)))|(k_end;kc_close)|walk1|(dsimp only;walk1)|(leave1;try dsimp only))
  unfold Stop
  rename Fr _ _ _ _=>F8
  rename News _ _ _ _=>N8
  refine' use_uld B' F8 N8 XB TB rfl rfl rfl rfl rfl rfl ?W1 ?W2 ?n1 ?n2 ?c1 ?c2 ?z1 ?z2 ?_
  case W1=>(repeat (first|exact Del.here|apply Del.cons))
  case W2=>(repeat (first|exact Del.here|apply Del.cons))
  case c1=>assumption
  case c2=>assumption
  case z1=>assumption
  case z2=>simpa using hz2
  case n1=>(repeat (first|exact trivial|refine And.intro (by k_ne) ?_))
  case n2=>(repeat (first|exact trivial|refine And.intro (by k_ne) ?_))
  intro g2 h2 tk2 t2 mi n2 k2 j2 us2 ms2 c1 c2 B2 F2 X2 T2 N2 n3 n4 y2 y3
  have hud:=ud_is (l:=l.reverse) (r:=r.reverse) (fun c hc=>by rw [List.count_reverse,List.count_reverse];exact hcc c hc)
  rw [List.count_reverse,List.count_reverse] at hud
  rw [hud.1,←Int.toNat_sub] at c1
  rw [hud.2,←Int.toNat_sub,←Int.neg_sub] at c2
  repeat' (first|(k_unfold;(try dsimp only))|((fail_if_success (fail_if_success (with_reducible refine is_call ?_)));first|((with_reducible show wpAny _ _ (call (Value.builtin _) [Value.str (tx _) _,Value.str (Str.ofString "\\") _]) _ _ _);(refine use_count (c:=92) (by decide) ?_);intro tβ kβ)|((with_reducible show wpAny _ _ (call (Value.type _) [Value.str (tx _) _]) _ _ _);k_dflt (refine' list_ch (by exact rfl) (by k_asm) (by k_asm) (by assumption) ?_);intro hβ tkβ Dβ cβ vsβ hCβ Fβ Nβ l1β)|((with_reducible show wpAny _ _ (call (Value.ref 822) _) _ _ _);refine stop_here ?_)|((with_reducible show wpAny _ _ (call (Value.builtin _) [Value.str (tx _) _]) _ _ _);(refine use_len (by assumption) ?_);intro tβ kβ))|((with_reducible show wpAny _ _ (subscriptTail _ (PySem.Expr.Slice none none (some _) _) (Value.ref _) (Value.ref _)) _ _ _);k_dflt (refine' rev_ch (by k_asm) (by k_asm) (by k_mem) (by assumption) (by assumption) (by exact IsPart.int _ _) ?_ (by with_unfolding_all rfl) (by kmk_pure));intro Dβ hβ usβ hCβ Fβ Nβ l1β)|((with_reducible show wpAny _ _ (binaryOp Operator.Mult (Value.ref _) (Value.int _ _)) _ _ _);k_dflt (refine' mul_bs (by k_asm) (by k_asm) (by k_mem) (by omega) (by omega) ?_);intro Dβ hβ Fβ Nβ l1β)|((with_reducible show wpAny _ _ (compareOp CmpOp.NotEq (Value.ref _) (Value.ref _)) _ _ _);k_dflt (refine' ne_told ?N ?hb ?m1 ?m2 ?m3 ?m4 ?m5 ?m6 ?c1 ?c2 ?u ?_;(case N=>k_asm);(case m1=>k_mem);(case m4=>k_mem);(case m2=>k_mem);(case m3=>k_mem);(case m5=>k_mem);(case m6=>k_mem);(case hb=>decide);(case c1=>assumption);(case c2=>assumption);(case u=>exact rfl)))|(k_end;kc_close)|walk1|(dsimp only;walk1)|(leave1;try dsimp only))
  all_goals (
    (show Q (Value.bool _) _)
    (rename Fr _ _ _ _=>F9)
    (refine q_true ?_ (hret _ _ (fun b o h1 h2=>kept_line hg' y2 F9 b o (by simp) h1 h2) (fs_line hg' B' y3 F9)))
    first|exact way_zero hlb (by assumption)|exact way_back hlb)
end Mine
end
end
section
namespace Mine
open Mine.Re
theorem ch_turn0 (w:World) {gd:Option (List Code)} {outer:List Env} {base g:Heap} {L I ax cl kd dr c9 c7 ck cd p d tp tt tk td m0 m1 m2 m3 m4:Nat} {pv pb':Program} {mg mb mg' mb':Str→Option Value} {mean mean':ExcName→Option Value} {loose loose':List Str} {s:Shared} {oth:Str→Option Value} {Q:Flow→Shared→Prop} {oI oA o9 o7:Obj} {kvs dvs:List Value} {ps p9 p7:Array Value} {l:List Nat}
    (B:Below (ar 520 5400 gd outer) base outer g) (F:Fr g L s.heap (CM (.str (tx l) tt) (.ref cl) (.ref kd) (.ref dr) (.int (p:Int) tp) oth)) (X:(K w.params).In g) (T:Top pv loose mean mg mb g) (XB:(K w.params).In base) (TB:Top pb' loose' mean' mg' mb' base)
    (N:News g L s.heap [(I,oI),(ax,oA),(cl,cntO l m0 m1 m2 m3 m4),(kd,lstO kvs.toArray ck),(dr,lstO dvs.toArray cd),(802,tabObj ps),(95,tabObj p9),(c9,o9),(78,tabObj p7),(c7,o7)])
    (hk:kvs[p]?=some (.int 0 tk)) (hd:dvs[p]?=some (.int (d:Int) td)) (hp:p<4) (hd2:d≤2) (ha:∀c∈l,c∈alph) (hb:32∈l) (hz:l.length≤3000)
    (ht:TriplesOk ps.toList) (hG:AllBare s.gens) (hT9:TabL 61 50 "join_header_words.<locals>.<lambda>" p9 c9 o9) (hT7:TabL 30 49 "split_header_words.<locals>.<lambda>" p7 c7 o7) (z5:@Ne Nat c7 c9) (e0:@Ne Nat I 802) (f0:@Ne Nat I 95) (g0:@Ne Nat I 78) (e1:@Ne Nat ax 802) (f1:@Ne Nat ax 95) (g1:@Ne Nat ax 78) (e2:@Ne Nat cl 802) (f2:@Ne Nat cl 95) (g2:@Ne Nat cl 78) (e3:@Ne Nat kd 802) (f3:@Ne Nat kd 95) (g3:@Ne Nat kd 78) (e4:@Ne Nat dr 802) (f4:@Ne Nat dr 95) (g4:@Ne Nat dr 78) (e5:@Ne Nat c9 802) (f5:@Ne Nat c9 95) (g5:@Ne Nat c9 78) (e6:@Ne Nat c7 802) (f6:@Ne Nat c7 95) (g6:@Ne Nat c7 78) (i9:@Ne Nat c9 I) (i7:@Ne Nat c7 I)
    (ret:∀(g' h':Heap) (tk' t' cl' n0 n1 n2 n3 n4:Nat) (gs':Array GenState) (ps':Array Value) (oth':Str→Option Value),Below (ar 520 5400 gd outer) base outer g'→Fr g' L h' (CM (.str (tx (lineD d l)) t') (.ref cl') (.ref kd) (.ref dr) (.int (p:Int) tp) oth')→News g' L h' [(I,oI),(ax,oA),(cl',cntO (lineD d l) n0 n1 n2 n3 n4),(kd,lstO kvs.toArray ck),(dr,lstO dvs.toArray cd),(802,tabObj ps'),(95,tabObj p9),(c9,o9),(78,tabObj p7),(c7,o7)]→TriplesOk ps'.toList→AllBare gs'→@Ne Nat cl' 802→@Ne Nat cl' 95→@Ne Nat cl' 78→@Ne Nat cl' I→SameOff outer g g'→FS outer g g'→Q .next {s with heap:=h',toks:=tk',gens:=gs'}):
    wpAny (model pw_il0090_01 w) ((ar 520 5400 gd outer).deeper (chEnv L)) (execs chB (chEnv L)) Q (fun _ _=>False) s:=by
  with_unfolding_all show wpAny _ ((ar 520 5400 gd outer).deeper (envOf _ ⟨_,_,_,_,_⟩ _ _ _)) (execs (_::_::_::[]) (envOf _ ⟨_,_,_,_,_⟩ _ _ _)) _ _ _
  have q1:=List.count_le_length (a:=39) (l:=l)
  have q2:=List.count_le_length (a:=34) (l:=l)
  have q3:=List.count_le_length (a:=92) (l:=l)
  have hl5:=step_len (k:=0) (l:=l) hd2
  have eK:rw_il0090_01=rw_il0090_01:=rfl
  revert eK X XB
  k_fill
  intro X XB eK
  (try (refine let_ctx ?_;intro A9 e9))
  repeat' (first|(k_unfold;(try dsimp only))|((fail_if_success (fail_if_success (with_reducible refine is_cmp ?_)));first|((with_reducible show wpAny _ _ (compareOp CmpOp.NotEq (Value.ref _) (Value.ref _)) _ _ _);(k_here;k_dflt (refine' ne_four (by k_asm) (by k_mem) (by k_mem) (by exact rfl) (by first|exact line_eq (by assumption) _|exact head_eq (by assumption) _) ?_))))|((fail_if_success (fail_if_success (with_reducible refine is_call ?_)));first|(k_here;(with_reducible show wpAny _ _ (call (Value.builtin "len") [Value.str (tx _) _]) _ _ _);(refine use_len (by assumption) ?_);intro t' k')|(k_here;(with_reducible show wpAny _ _ (call (Value.builtin "str.count") [Value.str (tx _) _,Value.str (Str.ofString _) _]) _ _ _);first|(refine use_count (c:=39) (by decide) ?_;intro t' k')|(refine use_count (c:=34) (by decide) ?_;intro t' k')|(refine use_count (c:=92) (by decide) ?_;intro t' k'))|((first|(with_reducible show wpAny _ _ (call (Value.ref 862) _) _ _ _)|(with_reducible show wpAny _ _ (call (Value.ref 869) _) _ _ _));refine stop_here' ?_))|(k_here;(with_reducible show wpAny _ _ (subscriptTail _ _ (Value.ref _) (Value.int _ _)) _ _ _);k_dflt (refine' item_at (by k_asm) (by k_mem) (by assumption) (by assumption) ?_ (by with_unfolding_all rfl)))|(k_end;kc_close)|walk1|(dsimp only;walk1)|(leave1;(try dsimp only)))
  unfold Stop'
  rename Fr _ _ _ _=>F8
  rename News _ _ _ _=>N8
  refine' use_line hd2 B F8 N8 XB TB rfl rfl rfl rfl rfl rfl ?W ?n ht hG ha hb hz ?_
  case W=>(repeat (first|exact Del.here|apply Del.cons))
  case n=>(repeat (first|exact trivial|refine And.intro (by k_ne) ?_))
  intro g2 h2 tk2 t2 gs2 ps2 B2 F2 X2 T2 N2 ht2 hG2 y2 y3
  clear F8 N8 B T X ht hG
  have hl6:(lineD d l).length≤20000:=by
    have:stepD 0 d l=lineD d l:=rfl
    rw [this] at hl5;omega
  (try (refine let_ctx ?_;intro A9 e9))
  repeat' (first|(k_unfold;(try dsimp only))|((fail_if_success (fail_if_success (with_reducible refine is_cmp ?_)));first|((with_reducible show wpAny _ _ (compareOp CmpOp.NotEq (Value.ref _) (Value.ref _)) _ _ _);(k_here;k_dflt (refine' ne_four (by k_asm) (by k_mem) (by k_mem) (by exact rfl) (by first|exact line_eq (by assumption) _|exact head_eq (by assumption) _) ?_))))|((fail_if_success (fail_if_success (with_reducible refine is_call ?_)));first|(k_here;(with_reducible show wpAny _ _ (call (Value.builtin "len") [Value.str (tx _) _]) _ _ _);(refine use_len (by assumption) ?_);intro t' k')|(k_here;(with_reducible show wpAny _ _ (call (Value.builtin "str.count") [Value.str (tx _) _,Value.str (Str.ofString _) _]) _ _ _);first|(refine use_count (c:=39) (by decide) ?_;intro t' k')|(refine use_count (c:=34) (by decide) ?_;intro t' k')|(refine use_count (c:=92) (by decide) ?_;intro t' k'))|((first|(with_reducible show wpAny _ _ (call (Value.ref 862) _) _ _ _)|(with_reducible show wpAny _ _ (call (Value.ref 869) _) _ _ _));refine stop_here' ?_))|(k_here;(with_reducible show wpAny _ _ (subscriptTail _ _ (Value.ref _) (Value.int _ _)) _ _ _);k_dflt (refine' item_at (by k_asm) (by k_mem) (by assumption) (by assumption) ?_ (by with_unfolding_all rfl)))|(k_end;kc_close)|walk1|(dsimp only;walk1)|(leave1;(try dsimp only)))
  rename Fr _ _ _ _=>F9
  rename News _ _ _ _=>N9
  obtain ⟨oth',F9⟩:=fr_cm F9 rfl rfl rfl rfl rfl
  have E:=line_eq hd2 l
  simp only [List.cons.injEq,and_true] at E
  obtain ⟨E1,E2,E3,E4⟩:=E
  refine' ret _ _ _ _ _ _ _ _ _ _ _ _ _ B2 F9 ?N ht2 hG2 ?a ?b ?c ?i y2 y3
  case N=>exact newsC (by k_mem) N9 (newsC (by k_mem) N9 (newsC (by (dsimp only [cntO]);(rw [E1,E2,E3,E4]);k_mem) N9 (newsC (by k_mem) N9 (newsC (by k_mem) N9 (newsC (by k_mem) N9 (newsC (by k_mem) N9 (newsC (by k_mem) N9 (newsC (by k_mem) N9 (newsC (by k_mem) N9 News.nil)))))))))
  case a=>k_ne
  case b=>k_ne
  case c=>k_ne
  case i=>k_ne
end Mine
end
section
namespace Mine
open Mine.Re
theorem ch_turn1 (w:World) {gd:Option (List Code)} {outer:List Env} {base g:Heap} {L I ax cl kd dr c9 c7 ck cd p d tp tt tk td m0 m1 m2 m3 m4:Nat} {pv pb':Program} {mg mb mg' mb':Str→Option Value} {mean mean':ExcName→Option Value} {loose loose':List Str} {s:Shared} {oth:Str→Option Value} {Q:Flow→Shared→Prop} {oI oA o9 o7:Obj} {kvs dvs:List Value} {ps p9 p7:Array Value} {l:List Nat}
    (B:Below (ar 520 5400 gd outer) base outer g) (F:Fr g L s.heap (CM (.str (tx l) tt) (.ref cl) (.ref kd) (.ref dr) (.int (p:Int) tp) oth)) (X:(K w.params).In g) (T:Top pv loose mean mg mb g) (XB:(K w.params).In base) (TB:Top pb' loose' mean' mg' mb' base)
    (N:News g L s.heap [(I,oI),(ax,oA),(cl,cntO l m0 m1 m2 m3 m4),(kd,lstO kvs.toArray ck),(dr,lstO dvs.toArray cd),(802,tabObj ps),(95,tabObj p9),(c9,o9),(78,tabObj p7),(c7,o7)])
    (hk:kvs[p]?=some (.int 1 tk)) (hd:dvs[p]?=some (.int (d:Int) td)) (hp:p<4) (hd2:d≤2) (ha:∀c∈l,c∈alph) (hb:32∈l) (hz:l.length≤3000)
    (ht:TriplesOk ps.toList) (hG:AllBare s.gens) (hT9:TabL 61 50 "join_header_words.<locals>.<lambda>" p9 c9 o9) (hT7:TabL 30 49 "split_header_words.<locals>.<lambda>" p7 c7 o7) (z5:@Ne Nat c7 c9) (e0:@Ne Nat I 802) (f0:@Ne Nat I 95) (g0:@Ne Nat I 78) (e1:@Ne Nat ax 802) (f1:@Ne Nat ax 95) (g1:@Ne Nat ax 78) (e2:@Ne Nat cl 802) (f2:@Ne Nat cl 95) (g2:@Ne Nat cl 78) (e3:@Ne Nat kd 802) (f3:@Ne Nat kd 95) (g3:@Ne Nat kd 78) (e4:@Ne Nat dr 802) (f4:@Ne Nat dr 95) (g4:@Ne Nat dr 78) (e5:@Ne Nat c9 802) (f5:@Ne Nat c9 95) (g5:@Ne Nat c9 78) (e6:@Ne Nat c7 802) (f6:@Ne Nat c7 95) (g6:@Ne Nat c7 78) (i9:@Ne Nat c9 I) (i7:@Ne Nat c7 I)
    (ret:∀(h':Heap) (tk' t' cl' n0 n1 n2 n3 n4 c9' c7':Nat) (o9' o7':Obj) (p9' p7':Array Value) (oth':Str→Option Value),Fr g L h' (CM (.str (tx (headD d l)) t') (.ref cl') (.ref kd) (.ref dr) (.int (p:Int) tp) oth')→News g L h' [(I,oI),(ax,oA),(cl',cntO (headD d l) n0 n1 n2 n3 n4),(kd,lstO kvs.toArray ck),(dr,lstO dvs.toArray cd),(802,tabObj ps),(95,tabObj p9'),(c9',o9'),(78,tabObj p7'),(c7',o7')]→TabL 61 50 "join_header_words.<locals>.<lambda>" p9' c9' o9'→TabL 30 49 "split_header_words.<locals>.<lambda>" p7' c7' o7'→@Ne Nat cl' 802→@Ne Nat cl' 95→@Ne Nat cl' 78→@Ne Nat c9' 802→@Ne Nat c9' 95→@Ne Nat c9' 78→@Ne Nat c7' 802→@Ne Nat c7' 95→@Ne Nat c7' 78→@Ne Nat c7' c9'→@Ne Nat cl' I→@Ne Nat c9' I→@Ne Nat c7' I→Q .next {s with heap:=h',toks:=tk'}):
    wpAny (model pw_il0090_01 w) ((ar 520 5400 gd outer).deeper (chEnv L)) (execs chB (chEnv L)) Q (fun _ _=>False) s:=by
  with_unfolding_all show wpAny _ ((ar 520 5400 gd outer).deeper (envOf _ ⟨_,_,_,_,_⟩ _ _ _)) (execs (_::_::_::[]) (envOf _ ⟨_,_,_,_,_⟩ _ _ _)) _ _ _
  have q1:=List.count_le_length (a:=39) (l:=l)
  have q2:=List.count_le_length (a:=34) (l:=l)
  have q3:=List.count_le_length (a:=92) (l:=l)
  have hl5:=step_len (k:=1) (l:=l) hd2
  have eK:rw_il0090_01=rw_il0090_01:=rfl
  revert eK X XB
  k_fill
  intro X XB eK
  (try (refine let_ctx ?_;intro A9 e9))
  repeat' (first|(k_unfold;(try dsimp only))|((fail_if_success (fail_if_success (with_reducible refine is_cmp ?_)));first|((with_reducible show wpAny _ _ (compareOp CmpOp.NotEq (Value.ref _) (Value.ref _)) _ _ _);(k_here;k_dflt (refine' ne_four (by k_asm) (by k_mem) (by k_mem) (by exact rfl) (by first|exact line_eq (by assumption) _|exact head_eq (by assumption) _) ?_))))|((fail_if_success (fail_if_success (with_reducible refine is_call ?_)));first|(k_here;(with_reducible show wpAny _ _ (call (Value.builtin "len") [Value.str (tx _) _]) _ _ _);(refine use_len (by assumption) ?_);intro t' k')|(k_here;(with_reducible show wpAny _ _ (call (Value.builtin "str.count") [Value.str (tx _) _,Value.str (Str.ofString _) _]) _ _ _);first|(refine use_count (c:=39) (by decide) ?_;intro t' k')|(refine use_count (c:=34) (by decide) ?_;intro t' k')|(refine use_count (c:=92) (by decide) ?_;intro t' k'))|((first|(with_reducible show wpAny _ _ (call (Value.ref 862) _) _ _ _)|(with_reducible show wpAny _ _ (call (Value.ref 869) _) _ _ _));refine stop_here' ?_))|(k_here;(with_reducible show wpAny _ _ (subscriptTail _ _ (Value.ref _) (Value.int _ _)) _ _ _);k_dflt (refine' item_at (by k_asm) (by k_mem) (by assumption) (by assumption) ?_ (by with_unfolding_all rfl)))|(k_end;kc_close)|walk1|(dsimp only;walk1)|(leave1;(try dsimp only)))
  unfold Stop'
  rename Fr _ _ _ _=>F8
  rename News _ _ _ _=>N8
  refine' use_head hd2 B F8 N8 XB TB rfl rfl rfl rfl rfl rfl ?W1 ?W2 ?n1 ?n2 ?m9 ?m7 hT9 hT7 z5 ha hb hz ?_
  case W1=>(repeat (first|exact Del.here|apply Del.cons))
  case W2=>(repeat (first|exact Del.here|apply Del.cons))
  case n1=>(repeat (first|exact trivial|refine And.intro (by k_ne) ?_))
  case n2=>(repeat (first|exact trivial|refine And.intro (by k_ne) ?_))
  case m9=>k_mem
  case m7=>k_mem
  intro h2 tk2 t2 c9' c7' o9' o7' p9' p7' F2 N2 T9' T7' x1 x2 x3 x4 x5 x6 x7
  have x8:@Ne Nat c9' 802:=apart_of N8 (by k_mem) (by k_ne) x6
  have x9:@Ne Nat c7' 802:=apart_of N8 (by k_mem) (by k_ne) x7
  have xi:@Ne Nat c9' I:=apart_of N8 (oz:=oI) (by k_mem) (by k_ne) x6
  have xj:@Ne Nat c7' I:=apart_of N8 (oz:=oI) (by k_mem) (by k_ne) x7
  clear F8 N8 hT9 hT7
  have hl6:(headD d l).length≤20000:=by
    have:stepD 1 d l=headD d l:=rfl
    rw [this] at hl5;omega
  (try (refine let_ctx ?_;intro A9 e9))
  repeat' (first|(k_unfold;(try dsimp only))|((fail_if_success (fail_if_success (with_reducible refine is_cmp ?_)));first|((with_reducible show wpAny _ _ (compareOp CmpOp.NotEq (Value.ref _) (Value.ref _)) _ _ _);(k_here;k_dflt (refine' ne_four (by k_asm) (by k_mem) (by k_mem) (by exact rfl) (by first|exact line_eq (by assumption) _|exact head_eq (by assumption) _) ?_))))|((fail_if_success (fail_if_success (with_reducible refine is_call ?_)));first|(k_here;(with_reducible show wpAny _ _ (call (Value.builtin "len") [Value.str (tx _) _]) _ _ _);(refine use_len (by assumption) ?_);intro t' k')|(k_here;(with_reducible show wpAny _ _ (call (Value.builtin "str.count") [Value.str (tx _) _,Value.str (Str.ofString _) _]) _ _ _);first|(refine use_count (c:=39) (by decide) ?_;intro t' k')|(refine use_count (c:=34) (by decide) ?_;intro t' k')|(refine use_count (c:=92) (by decide) ?_;intro t' k'))|((first|(with_reducible show wpAny _ _ (call (Value.ref 862) _) _ _ _)|(with_reducible show wpAny _ _ (call (Value.ref 869) _) _ _ _));refine stop_here' ?_))|(k_here;(with_reducible show wpAny _ _ (subscriptTail _ _ (Value.ref _) (Value.int _ _)) _ _ _);k_dflt (refine' item_at (by k_asm) (by k_mem) (by assumption) (by assumption) ?_ (by with_unfolding_all rfl)))|(k_end;kc_close)|walk1|(dsimp only;walk1)|(leave1;(try dsimp only)))
  rename Fr _ _ _ _=>F9
  rename News _ _ _ _=>N9
  obtain ⟨oth',F9⟩:=fr_cm F9 rfl rfl rfl rfl rfl
  have E:=head_eq hd2 l
  simp only [List.cons.injEq,and_true] at E
  obtain ⟨E1,E2,E3,E4⟩:=E
  refine' ret _ _ _ _ _ _ _ _ _ _ _ _ _ _ _ _ F9 ?N T9' T7' ?a ?b ?c x8 x1 x2 x9 x3 x4 x5 ?i xi xj
  case N=>exact newsC (by k_mem) N9 (newsC (by k_mem) N9 (newsC (by (dsimp only [cntO]);(rw [E1,E2,E3,E4]);k_mem) N9 (newsC (by k_mem) N9 (newsC (by k_mem) N9 (newsC (by k_mem) N9 (newsC (by k_mem) N9 (newsC (by k_mem) N9 (newsC (by k_mem) N9 (newsC (by k_mem) N9 News.nil)))))))))
  case a=>k_ne
  case b=>k_ne
  case c=>k_ne
  case i=>k_ne
end Mine
end
section
local macro_rules | `(tactic|omega)=> `(tactic|first|decide|lia)
section
namespace Mine
open Mine.Re
structure Off3 (a:Nat):Prop where
  x:@Ne Nat a 802
  y:@Ne Nat a 95
  z:@Ne Nat a 78
structure Tabs (c9 c7:Nat) (o9 o7:Obj) (ps p9 p7:Array Value) (gs:Array GenState):Prop where
  ht:TriplesOk ps.toList
  hG:AllBare gs
  t9:TabL 61 50 "join_header_words.<locals>.<lambda>" p9 c9 o9
  t7:TabL 30 49 "split_header_words.<locals>.<lambda>" p7 c7 o7
  w9:Off3 c9
  w7:Off3 c7
  z5:@Ne Nat c7 c9
inductive CJ (gd:Option (List Code)) (outer:List Env) (base g0:Heap) (kd dr ck cd:Nat) (kvs dvs:List Value) (ks ds:Nat→Nat) (pl:List Nat) (l:List Nat) (I i:Nat) (g:Heap) (m:Str→Option Value) (news:List (Addr × Obj)) (gs:Array GenState):Prop
  | mk (cl tt n0 n1 n2 n3 n4 c9 c7:Nat) (o9 o7:Obj) (ps p9 p7:Array Value) (B:Below (ar 520 5400 gd outer) base outer g) (so:SameOff outer g0 g) (fs:FS outer g0 g)
    (e:news=[(cl,cntO (runs ks ds (pl.take i) l) n0 n1 n2 n3 n4),(kd,lstO kvs.toArray ck),(dr,lstO dvs.toArray cd),(802,tabObj ps),(95,tabObj p9),(c9,o9),(78,tabObj p7),(c7,o7)])
    (e1:m "text"=some (.str (tx (runs ks ds (pl.take i) l)) tt)) (e2:m "counts"=some (.ref cl)) (e3:m "kinds"=some (.ref kd)) (e4:m "dresses"=some (.ref dr))
    (T:Tabs c9 c7 o9 o7 ps p9 p7 gs) (wc:Off3 cl) (wi:Off3 I) (hI:∀q∈news,@Ne Nat q.1 I):CJ gd outer base g0 kd dr ck cd kvs dvs ks ds pl l I i g m news gs
theorem ne_place {a b:Str} {v w:Option Value} (h:(a==b)=false) (e:w=some x):(if a=b then v else w)=some x:=by
  rw [if_neg (by simpa using h)];exact e
section
variable {w:World} {gd:Option (List Code)} {outer:List Env} {base g0:Heap} {L ax kd dr ck cd ca:Nat} {pb':Program} {mg' mb':Str→Option Value} {mean':ExcName→Option Value} {loose':List Str} {s:Shared} {kvs dvs:List Value} {ks ds:Nat→Nat} {l:List Nat} {p0 p1 p2 p3 a0 a1 a2 a3:Nat}
theorem ch_step (XB:(K w.params).In base) (TB:Top pb' loose' mean' mg' mb' base) (wa:Off3 ax) (wk:Off3 kd) (wd:Off3 dr)
    (hk:∀p,p<4→∃t,kvs[p]?=some (.int (ks p:Int) t)) (hk2:∀p,ks p≤1) (hd:∀p,p<4→∃t,dvs[p]?=some (.int (ds p:Int) t)) (hd2:∀p,ds p≤2)
    (hp:∀p∈[p0,p1,p2,p3],p<4) (ha:∀c∈l,c∈alph) (hb:32∈l) (hz:l.length≤4)
    {Q:Flow→Shared→Prop} (I i:Nat) (v:Value) (g h:Heap) (m:Str→Option Value) (news:List (Addr × Obj)) (gs:Array GenState) (tk:Nat) (oI:Obj)
    (hv:[Value.int (p0:Int) a0, .int (p1:Int) a1, .int (p2:Int) a2, .int (p3:Int) a3][i]?=some v) (J:CJ gd outer base g0 kd dr ck cd kvs dvs ks ds [p0,p1,p2,p3] l I i g m news gs)
    (F:Fr g L h (fun y=>if y="place" then some v else m y)) (N:News g L h ((I,oI)::(ax,lstO [Value.int (p0:Int) a0, .int (p1:Int) a1, .int (p2:Int) a2, .int (p3:Int) a3].toArray ca)::news)):
    wpAny (model pw_il0090_01 w) ((ar 520 5400 gd outer).deeper (chEnv L)) (execs chB (chEnv L)) (ForPost Q (RebTo s L I ax oI (lstO [Value.int (p0:Int) a0, .int (p1:Int) a1, .int (p2:Int) a2, .int (p3:Int) a3].toArray ca) (CJ gd outer base g0 kd dr ck cd kvs dvs ks ds [p0,p1,p2,p3] l I (i+1)))) (fun _ _=>False) {s with heap:=h,toks:=tk,gens:=gs}:=by
  obtain ⟨cl,tt,n0,n1,n2,n3,n4,c9,c7,o9,o7,ps,p9,p7,B,so,fs,rfl,e1,e2,e3,e4,T,wc,wi,hI⟩:=J
  have hI4:i<4:=by
    have:=(List.getElem?_eq_some_iff.mp hv).1
    simpa using this
  obtain ⟨p,tp,hpv,hpl⟩:∃(p tp:Nat),v= .int (p:Int) tp∧[p0,p1,p2,p3][i]?=some p:=by
    rcases lt4 hI4 with rfl|rfl|rfl|rfl
    · cases hv;exact ⟨p0,a0,rfl,rfl⟩
    · cases hv;exact ⟨p1,a1,rfl,rfl⟩
    · cases hv;exact ⟨p2,a2,rfl,rfl⟩
    · cases hv;exact ⟨p3,a3,rfl,rfl⟩
  subst hpv
  have hp4:p<4:=hp p (List.mem_of_getElem? hpl)
  have htk:runs ks ds ([p0,p1,p2,p3].take (i+1)) l=stepD (ks p) (ds p) (runs ks ds ([p0,p1,p2,p3].take i) l):=by
    unfold runs
    rw [List.take_add_one,hpl,List.foldl_append];rfl
  have hm:=runs_mem (ks:=ks) (ds:=ds) ([p0,p1,p2,p3].take i) ha
  have hs:=runs_sp (ks:=ks) (ds:=ds) ([p0,p1,p2,p3].take i) hb
  have hl:(runs ks ds ([p0,p1,p2,p3].take i) l).length≤3000:=by
    have h1:=step_len (k:=ks p0) (l:=l) (hd2 p0)
    have h2:=step_len (k:=ks p1) (l:=stepD (ks p0) (ds p0) l) (hd2 p1)
    have h3:=step_len (k:=ks p2) (l:=stepD (ks p1) (ds p1) (stepD (ks p0) (ds p0) l)) (hd2 p2)
    clear hv N F
    rcases lt4 hI4 with rfl|rfl|rfl|rfl
    · show l.length≤3000;omega
    · show (stepD (ks p0) (ds p0) l).length≤3000;omega
    · show (stepD (ks p1) (ds p1) (stepD (ks p0) (ds p0) l)).length≤3000;omega
    · show (stepD (ks p2) (ds p2) (stepD (ks p1) (ds p1) (stepD (ks p0) (ds p0) l))).length≤3000;omega
  generalize hx:runs ks ds ([p0,p1,p2,p3].take i) l=x at*
  obtain ⟨tk1,hk1⟩:=hk p hp4
  obtain ⟨td1,hd1⟩:=hd p hp4
  obtain ⟨oth,F⟩:=fr_cm F (if_pos rfl) ((if_neg (by decide)).trans e1) ((if_neg (by decide)).trans e2) ((if_neg (by decide)).trans e3) ((if_neg (by decide)).trans e4)
  have X:=XB.keeps B.stays
  have T0:=TB.keeps B.stays
  have hI':∀a,(∃o,(a,o)∈[(cl,cntO x n0 n1 n2 n3 n4),(kd,lstO kvs.toArray ck),(dr,lstO dvs.toArray cd),(802,tabObj ps),(95,tabObj p9),(c9,o9),(78,tabObj p7),(c7,o7)])→@Ne Nat a I:=fun a ⟨o,ho⟩=>hI _ ho
  by_cases hk0:ks p=0
  · rw [hk0] at hk1
    refine ch_turn0 w (s:={s with heap:=h,toks:=tk,gens:=gs}) B F X T0 XB TB N hk1 hd1 hp4 (hd2 p) hm hs hl T.ht T.hG T.t9 T.t7 T.z5 wi.x wi.y wi.z wa.x wa.y wa.z wc.x wc.y wc.z wk.x wk.y wk.z wd.x wd.y wd.z T.w9.x T.w9.y T.w9.z T.w7.x T.w7.y T.w7.z (hI' c9 ⟨o9,by simp⟩) (hI' c7 ⟨o7,by simp⟩)
      fun g' h' tk' t' cl' m0 m1 m2 m3 m4 gs' ps' oth' B' F' N' ht' hG' x1 x2 x3 x4 y2 y3=>?_
    have e0:runs ks ds ([p0,p1,p2,p3].take (i+1)) l=lineD (ds p) x:=by rw [htk,hk0];rfl
    refine ⟨h',tk',gs',g',_,_,rfl,F',N',cl',t',m0,m1,m2,m3,m4,c9,c7,o9,o7,ps',p9,p7,B',fun b hb=>(y2 b hb).trans (so b hb),?_,by rw [e0],by rw [e0];exact if_neg (by decide),rfl,rfl,rfl,⟨ht',hG',T.t9,T.t7,T.w9,T.w7,T.z5⟩,⟨x1,x2,x3⟩,wi,?_⟩
    · intro ev he b hb o ho hn
      obtain ⟨sl,hs⟩:=fs ev he b hb o ho hn
      exact y3 ev he b hb {o with slots:=sl} hs hn
    · intro q hq
      rcases List.mem_cons.mp hq with rfl|hq
      · exact x4
      · simp only [List.mem_cons,List.not_mem_nil,or_false] at hq
        rcases hq with rfl|rfl|rfl|rfl|rfl|rfl|rfl
        · exact hI' kd ⟨_, .tail _ (.head _)⟩
        · exact hI' dr ⟨_, .tail _ (.tail _ (.head _))⟩
        · exact hI' 802 ⟨_, .tail _ (.tail _ (.tail _ (.head _)))⟩
        · exact hI' 95 ⟨_, .tail _ (.tail _ (.tail _ (.tail _ (.head _))))⟩
        · exact hI' c9 ⟨_, .tail _ (.tail _ (.tail _ (.tail _ (.tail _ (.head _)))))⟩
        · exact hI' 78 ⟨_, .tail _ (.tail _ (.tail _ (.tail _ (.tail _ (.tail _ (.head _))))))⟩
        · exact hI' c7 ⟨_, .tail _ (.tail _ (.tail _ (.tail _ (.tail _ (.tail _ (.tail _ (.head _)))))))⟩
  · have hk1':ks p=1:=by have:=hk2 p;omega
    rw [hk1'] at hk1
    refine ch_turn1 w (s:={s with heap:=h,toks:=tk,gens:=gs}) B F X T0 XB TB N hk1 hd1 hp4 (hd2 p) hm hs hl T.ht T.hG T.t9 T.t7 T.z5 wi.x wi.y wi.z wa.x wa.y wa.z wc.x wc.y wc.z wk.x wk.y wk.z wd.x wd.y wd.z T.w9.x T.w9.y T.w9.z T.w7.x T.w7.y T.w7.z (hI' c9 ⟨o9,by simp⟩) (hI' c7 ⟨o7,by simp⟩)
      fun h' tk' t' cl' m0 m1 m2 m3 m4 c9' c7' o9' o7' p9' p7' oth' F' N' t9' t7' x1 x2 x3 v1 v2 v3 v4 v5 v6 v7 x4 x5 x6=>?_
    have e0:runs ks ds ([p0,p1,p2,p3].take (i+1)) l=headD (ds p) x:=by rw [htk,hk1'];rfl
    refine ⟨h',tk',gs,g,_,_,rfl,F',N',cl',t',m0,m1,m2,m3,m4,c9',c7',o9',o7',ps,p9',p7',B,so,fs,by rw [e0],by rw [e0];exact if_neg (by decide),rfl,rfl,rfl,⟨T.ht,T.hG,t9',t7',⟨v1,v2,v3⟩,⟨v4,v5,v6⟩,v7⟩,⟨x1,x2,x3⟩,wi,?_⟩
    intro q hq
    simp only [List.mem_cons,List.not_mem_nil,or_false] at hq
    rcases hq with rfl|rfl|rfl|rfl|rfl|rfl|rfl|rfl
    · exact x4
    · exact hI' kd ⟨_, .tail _ (.head _)⟩
    · exact hI' dr ⟨_, .tail _ (.tail _ (.head _))⟩
    · exact hI' 802 ⟨_, .tail _ (.tail _ (.tail _ (.head _)))⟩
    · exact hI' 95 ⟨_, .tail _ (.tail _ (.tail _ (.tail _ (.head _))))⟩
    · exact x5
    · exact hI' 78 ⟨_, .tail _ (.tail _ (.tail _ (.tail _ (.tail _ (.tail _ (.head _))))))⟩
    · exact x6
end
end Mine
end
section
namespace Mine
variable {j0 j1 j2:Int}
open Mine.Re
theorem fr_one {g h:Heap} {L:Nat} {m:Str→Option Value} {x:Str} {v:Value} (F:Fr g L h m) (e:m x=some v):Fr g L h (fun y=>if y=x then some v else m y):=by
  have:(fun y=>if y=x then some v else m y)=m:=by
    funext y
    by_cases q:y=x
    · simp only [if_pos q];rw [q,e]
    · simp only [if_neg q]
  rw [this];exact F
theorem ch_fresh {A:Around} {base g:Heap} {outer:List Env} {c:Nat} (B:Below A base outer g) (hn:g.get? c=none):base.get? c=none∧∀e∈outer,e.frame≠some c:=by
  refine ⟨?_,fun e he hb=>?_⟩
  · cases z:base.get? c with
    | none=>rfl
    | some o=>have:=B.stays _ _ z;rw [hn] at this;cases this
  · obtain ⟨_,o1,h1,h2⟩:=funFrames_in B.frames e he
    rw [hb] at h1;cases h1
    rw [hn] at h2;cases h2
theorem c_chain (w:World) {l:List Nat} {t ax kd dr c9 c7 ck cd ca p0 p1 p2 p3 a0 a1 a2 a3:Nat} {kvs dvs:List Value} {ks ds:Nat→Nat} {ps p9 p7:Array Value} {o9 o7:Obj} {pv:Program}
    (Bw:Below (ar 520 5400 gd outer) base outer (hideAll s.heap [ax,kd,dr,802,95,c9,78,c7]))
    (hg0:s.heap.get? ax=some (lstO [Value.int (p0:Int) a0, .int (p1:Int) a1, .int (p2:Int) a2, .int (p3:Int) a3].toArray ca)) (hg1:s.heap.get? kd=some (lstO kvs.toArray ck)) (hg2:s.heap.get? dr=some (lstO dvs.toArray cd)) (hg3:s.heap.get? 802=some (tabObj ps)) (hg4:s.heap.get? 95=some (tabObj p9)) (hg5:s.heap.get? c9=some (o9)) (hg6:s.heap.get? 78=some (tabObj p7)) (hg7:s.heap.get? c7=some (o7)) (XB:(K w.params).In base) (TB:Top pv loose mean mg mb base) (T0:Tabs c9 c7 o9 o7 ps p9 p7 s.gens) (wa:Off3 ax) (wk:Off3 kd) (wd:Off3 dr) (hk:∀p,p<4→∃t,kvs[p]?=some (.int (ks p:Int) t)) (hk2:∀p,ks p≤1) (hd:∀p,p<4→∃t,dvs[p]?=some (.int (ds p:Int) t)) (hd2:∀p,ds p≤2) (hp:∀p∈[p0,p1,p2,p3],p<4) (ha:∀c∈l,c∈alph) (hb:32∈l) (hz:l.length≤4)
    (hret:∀(h':Heap) (tk' t' c9' c7':Nat) (o9' o7':Obj) (ps' p9' p7':Array Value) (gs':Array GenState),h'.get? 802=some (tabObj ps')→h'.get? 95=some (tabObj p9')→h'.get? c9'=some o9'→h'.get? 78=some (tabObj p7')→h'.get? c7'=some o7'→Tabs c9' c7' o9' o7' ps' p9' p7' gs'→base.get? c9'=none→base.get? c7'=none→(∀e∈outer,e.frame≠some c9'∧e.frame≠some c7')→h'.get? kd=some (lstO kvs.toArray ck)→h'.get? dr=some (lstO dvs.toArray cd)→(∀b o,b≠802→b≠95→b≠78→b≠c9→b≠c7→(∀e∈outer,e.frame≠some b)→s.heap.get? b=some o→h'.get? b=some o)→FS outer s.heap h'→Q (.str (tx (runs ks ds [p0,p1,p2,p3] l)) t') {s with heap:=h',toks:=tk',gens:=gs'}):
    wpAny (model pw_il0090_01 w) (ar 520 5400 gd outer) (call (.ref 890) [.str (tx l) t, .ref ax, .ref kd, .ref dr]) Q E s:=by
  have X:=XB.keeps Bw.stays
  have T:=TB.keeps Bw.stays
  have hz5:l.length≤20000:=by omega
  have eK:rw_il0090_01=rw_il0090_01:=rfl
  revert eK X XB
  k_fill
  intro XB X eK
  refine wpAny_call ?_
  k_dflt (refine' own_enter (chg:=[(ax,lstO [Value.int (p0:Int) a0, .int (p1:Int) a1, .int (p2:Int) a2, .int (p3:Int) a3].toArray ca),(kd,lstO kvs.toArray ck),(dr,lstO dvs.toArray cd),(802,tabObj ps),(95,tabObj p9),(c9,o9),(78,tabObj p7),(c7,o7)]) ?k1 ?k2 ?k3 ?k4 ?k6 ?k7 ?k8 ?k9 ?kB ?_ ?c2 ?c3 ?c4 ?c5;(case k1=>exact Bw);(case k2=>(intro q hq;simp only [List.mem_cons,List.not_mem_nil,or_false] at hq;rcases hq with rfl|rfl|rfl|rfl|rfl|rfl|rfl|rfl;exact hg0;exact hg1;exact hg2;exact hg3;exact hg4;exact hg5;exact hg6;exact hg7));(case k3=>exact X);(case k4=>exact T);(case k6=>k_is);(case k7=>k_is);(case k8=>exact Nat.le_of_ble_eq_true rfl);(case k9=>first|exact BindsTo.of_eq rfl|exact binds_K (Frag.In.keeps X fun b o e=>of_hideAll _ e) rfl (by k_is) rfl rfl rfl);(case c5=>decide);(case kB=>exact locs rfl);(case c2=>exact rfl);(case c3=>exact rfl);(case c4=>exact rfl);k_whole;intro g' L' h' hg' hL' F' N' B' X' T' hlt';clear X T Bw;(try dsimp only);(try k_fold))
  (try (refine let_ctx ?_;intro A9 e9))
  repeat' (first|(k_unfold;(try dsimp only))|((fail_if_success (fail_if_success (with_reducible refine is_exec ?_)));first|((with_reducible show wpAny _ _ (exec (Stmt.For ..) _) _ _ _);(refine stop_here' ?_)))|((fail_if_success (fail_if_success (with_reducible refine is_call ?_)));first|(k_here;(with_reducible show wpAny _ _ (call (Value.builtin "len") [Value.str (tx _) _]) _ _ _);(refine use_len (by assumption) ?_);intro t' k')|(k_here;(with_reducible show wpAny _ _ (call (Value.builtin "str.count") [Value.str (tx _) _,Value.str (Str.ofString _) _]) _ _ _);first|(refine use_count (c:=39) (by decide) ?_;intro t' k')|(refine use_count (c:=34) (by decide) ?_;intro t' k')|(refine use_count (c:=92) (by decide) ?_;intro t' k')))|(k_end;kc_close)|walk1|(dsimp only;walk1)|(leave1;(try dsimp only)))
  unfold Stop'
  rename Fr _ _ _ _=>F8
  rename News _ _ _ _=>N8
  with_unfolding_all show wpAny _ ((ar 520 5400 gd outer).deeper (chEnv L')) (exec (.For (.Name "place" _) (.Name "order" _) chB [] _) (chEnv L')) _ _ _
  have N9:=newsC (a:=ax) (o:=lstO [Value.int (p0:Int) a0, .int (p1:Int) a1, .int (p2:Int) a2, .int (p3:Int) a3].toArray ca) (by k_mem) N8 (newsC (o:=cntO l _ _ _ _ _) (by k_mem) N8 (newsC (a:=kd) (o:=lstO kvs.toArray ck) (by k_mem) N8 (newsC (a:=dr) (o:=lstO dvs.toArray cd) (by k_mem) N8 (newsC (a:=802) (o:=tabObj ps) (by k_mem) N8 (newsC (a:=95) (o:=tabObj p9) (by k_mem) N8 (newsC (a:=c9) (o:=o9) (by k_mem) N8 (newsC (a:=78) (o:=tabObj p7) (by k_mem) N8 (newsC (a:=c7) (o:=o7) (by k_mem) N8 News.nil))))))))
  refine' wpAny_mono (for_reb (s:=Shared.mk _ s.gens s.drawn _ s.os) (L:=L') rfl rfl rfl rfl PassesOwn.never F8 N9 ?hit (fun _=>rfl) (CJ gd outer base g' kd dr ck cd kvs dvs ks ds [p0,p1,p2,p3] l) ?h0 ?hJ ?step ?done) (fun _ _ x=>x) (fun _ _ x=>False.elim x)
  case hit=>
    intro R hR
    (try (refine let_ctx ?_;intro A9 e9))
    repeat' (first|(k_unfold;(try dsimp only))|((fail_if_success (fail_if_success (with_reducible refine is_exec ?_)));first|((with_reducible show wpAny _ _ (exec (Stmt.For ..) _) _ _ _);(refine stop_here' ?_)))|((fail_if_success (fail_if_success (with_reducible refine is_call ?_)));first|(k_here;(with_reducible show wpAny _ _ (call (Value.builtin "len") [Value.str (tx _) _]) _ _ _);(refine use_len (by assumption) ?_);intro t' k')|(k_here;(with_reducible show wpAny _ _ (call (Value.builtin "str.count") [Value.str (tx _) _,Value.str (Str.ofString _) _]) _ _ _);first|(refine use_count (c:=39) (by decide) ?_;intro t' k')|(refine use_count (c:=34) (by decide) ?_;intro t' k')|(refine use_count (c:=92) (by decide) ?_;intro t' k')))|(k_end;kc_close)|walk1|(dsimp only;walk1)|(leave1;(try dsimp only)))
    exact hR
  case h0=>
    intro I hI
    refine ⟨_,_,_,_,_,_,_,c9,c7,o9,o7,ps,p9,p7,B',fun _ _=>rfl,fun _ _ b _ o ho _=>⟨o.slots,ho⟩,rfl,rfl,rfl,rfl,rfl,T0,⟨?a,?b,?c⟩,⟨?d,?e,?f⟩,fun q hq=>hI q (.tail _ hq)⟩
    case a=>k_ne
    case b=>k_ne
    case c=>k_ne
    case d=>exact Ne.symm (hI (802,tabObj ps) (by k_mem))
    case e=>exact Ne.symm (hI (95,tabObj p9) (by k_mem))
    case f=>exact Ne.symm (hI (78,tabObj p7) (by k_mem))
  case hJ=>exact fun I i g m news gs J=>by obtain ⟨_,_,_,_,_,_,_,_,_,_,_,_,_,_,_,_,_,_,_,_,_,_,_,_,_,h⟩:=J;exact h
  case step=>exact fun I i v g h m news gs tk oI hv J _ F N=>ch_step (s:=Shared.mk _ s.gens s.drawn _ s.os) XB TB wa wk wd hk hk2 hd hd2 hp ha hb hz I i v g h m news gs tk oI hv J F N
  case done=>
    intro I g2 h2 m2 news2 gs2 tk2 J2 F2 N2
    obtain ⟨cl,tt,n0,n1,n2,n3,n4,c9',c7',o9',o7',ps',p9',p7',B2,so,fs,rfl,e1,e2,e3,e4,T2,wc,wi,hI2⟩:=J2
    clear F8 N8 N9
    have F3:=fr_one F2 e1
    have X2:=XB.keeps B2.stays
    have T3:=TB.keeps B2.stays
    (try (refine let_ctx ?_;intro A9 e9))
    repeat' (first|(k_unfold;(try dsimp only))|((fail_if_success (fail_if_success (with_reducible refine is_exec ?_)));first|((with_reducible show wpAny _ _ (exec (Stmt.For ..) _) _ _ _);(refine stop_here' ?_)))|((fail_if_success (fail_if_success (with_reducible refine is_call ?_)));first|(k_here;(with_reducible show wpAny _ _ (call (Value.builtin "len") [Value.str (tx _) _]) _ _ _);(refine use_len (by assumption) ?_);intro t' k')|(k_here;(with_reducible show wpAny _ _ (call (Value.builtin "str.count") [Value.str (tx _) _,Value.str (Str.ofString _) _]) _ _ _);first|(refine use_count (c:=39) (by decide) ?_;intro t' k')|(refine use_count (c:=34) (by decide) ?_;intro t' k')|(refine use_count (c:=92) (by decide) ?_;intro t' k')))|(k_end;kc_close)|walk1|(dsimp only;walk1)|(leave1;(try dsimp only)))
    show Q _ _
    rename Fr _ _ _ _=>F9
    rename News _ _ _ _=>N9
    have fr:∀c o,(c,o)∈_→base.get? c=none∧∀e∈outer,e.frame≠some c:=fun c o hm=>ch_fresh B2 (News.fresh N9 hm)
    refine' hret _ _ _ _ _ _ _ _ _ _ _ ?b1 ?b2 ?b3 ?b4 ?b5 T2 (fr c9' o9' ?m9).1 (fr c7' o7' ?m7).1 (fun e he=>⟨(fr c9' o9' ?m9).2 e he,(fr c7' o7' ?m7).2 e he⟩) ?b6 ?b7 ?k (fs_line hg' B' fs F9)
    case b1=>exact News.get N9 (by k_mem)
    case b2=>exact News.get N9 (by k_mem)
    case b3=>exact News.get N9 (by k_mem)
    case b4=>exact News.get N9 (by k_mem)
    case b5=>exact News.get N9 (by k_mem)
    case b6=>exact News.get N9 (by k_mem)
    case b7=>exact News.get N9 (by k_mem)
    case m9=>k_mem
    case m7=>k_mem
    case k=>
      intro b o h1 h2 h3 q4 q5 h4 h5
      have nn:∀a oa,s.heap.get? a=some oa→(a,oa)∈_→b=a→_:=fun a oa hg hm e=>by
        subst e
        rw [hg] at h5;cases h5
        exact News.get N9 hm
      by_cases q1:b=ax
      · exact nn _ _ hg0 (by k_mem) q1
      by_cases q2:b=kd
      · exact nn _ _ hg1 (by k_mem) q2
      by_cases q3:b=dr
      · exact nn _ _ hg2 (by k_mem) q3
      exact kept_line hg' so F9 b o (by simp only [List.map,List.mem_cons,List.not_mem_nil,or_false,not_or];exact ⟨q1,q2,q3,h1,h2,q4,h3,q5⟩) h4 h5
end Mine
end
section
open PySem PySem.W PySem.W.X PyProof.Rows PySem.Calls PyProof.Rows.LCg
namespace Mine
theorem pick_mem {items:Array Value} {lo hi st:Option Int}:∀y∈(slicePick items lo hi st).toList,y∈items.toList:=by
  intro y hy
  unfold slicePick at hy
  simp only [List.mem_filterMap] at hy
  obtain ⟨k,_,hk⟩:=hy
  exact List.mem_of_getElem? (by simpa using hk)
section
variable {w:World} {A:Around} {g:Heap} {L:Nat} {m:Str→Option Value} {news:List (Addr × Obj)} {s:Shared} {Q E:Value→Shared→Prop}
theorem slice3 {value slice:PySem.Expr} {ops:List Value} {a:Nat} {vs:List Value} {vl vk:Value} {i:Int} (F:Fr g L s.heap m) (N:News g L s.heap news) (hl:g.IsList a vs.toArray) (hz:vs.length≤63) (hi:AllInt vs) (pl:IsPart vl (some i)) (pk:IsPart vk (some 3))
    (ret:∀(D:Nat) (h':Heap) (us:List Value),AllInt us→Fr g L h' m→News g L h' ((D,lstO us.toArray 0)::news)→Q (.ref D) {s with heap:=h'})
    (hs:subscripted slice false (.ref a) (.ref s.heap.objs.size)=operate ops (getItem (.ref a) (.ref s.heap.objs.size))) (ht:∀r,letTemporaryGo value (.ref a) r=pure ()):
    wpAny (model pw_il0090_01 w) A (subscriptTail value slice (.ref a) (.ref s.heap.objs.size)) Q E {s with heap:=s.heap.push {cls:= .type "slice",data:= .fields #[vl, .none,vk]}}:=by
  have hl':s.heap.IsList a vs.toArray:=hl.at fun o e=>F.keep a o e
  refine slice_list3 F N hl' pl .none pk (by decide) (fun h' F' N'=>ret _ h' (slicePick vs.toArray (some i) none (some 3)).toList (fun y hy=>hi y (by simpa using pick_mem y hy)) F' ?_) hs ht (by have:sizeLine=16777216:=rfl;simp;omega)
  simpa using N'
theorem sum_int {a c:Nat} {us:List Value} (hh:A.handled=none) (F:Fr g L s.heap m) (N:News g L s.heap news) (hm:(a,lstO us.toArray c)∈news) (hi:AllInt us)
    (ret:∀(h':Heap) (tk':Nat) (n:Int) (t:Nat),Fr g L h' m→News g L h' news→Q (.int n t) {s with heap:=h',toks:=tk'}):
    wpAny (model pw_il0090_01 w) A (call (.builtin "sum") [.ref a]) Q E s:=by
  classical
  have hl:s.heap.IsList a us.toArray:=⟨_,(N _ hm).1,rfl,_,rfl⟩
  refine call_sum_walkG (wpAny_pyIter_list hl ?_)
  have hlt:@Ne Nat a s.heap.objs.size:=Nat.ne_of_lt (Heap.lt_size (N _ hm).1)
  refine ⟨s.heap.objs.size,_,_,_,_,_,fun j=>match us[j]? with|some (.int n _)=>n|_=>0,rfl,Walks.list (A:=A.in1) hh s.heap.objs.size a hlt us.toArray,⟨⟨_,Heap.get?_push_size _ rfl,rfl,rfl⟩,hl.push _⟩,?_,?_,?_⟩
  · intro b hb
    show b<(s.heap.push _).objs.size
    rw [Heap.size_push]
    rcases List.mem_cons.mp hb with rfl|hb
    · exact Nat.lt_succ_self _
    · rw [List.mem_singleton.mp hb];exact Nat.lt_succ_of_lt (Heap.lt_size (N _ hm).1)
  · intro j v hv
    have hv':us[j]?=some v:=by simpa using hv
    obtain ⟨n,t,rfl⟩:=hi v (List.mem_of_getElem? hv')
    exact ⟨t,by simp only [hv']⟩
  · intro h' tk t' kk
    have up:∀b o,s.heap.get? b=some o→h'.get? b=some o:=fun b o e=>kk b o (by
      simp only [List.mem_singleton]
      exact Nat.ne_of_lt (Heap.lt_size e)) (Heap.get?_push_of_some _ e)
    exact ret h' tk _ t' (F.keeps up) fun q hq=>⟨up _ _ (N q hq).1,(N q hq).2⟩
end
inductive ThreeI (ys:List Value):Prop
  | mk (n0:Int) (t0:Nat) (n1:Int) (t1:Nat) (n2:Int) (t2:Nat) (e:ys=[.int n0 t0, .int n1 t1, .int n2 t2]):ThreeI ys
theorem three_ints {ys:List Value} (h:ys.length=3) (hi:AllInt ys):ThreeI ys:=by
  obtain ⟨a,b,c,rfl⟩:=len3 h
  obtain ⟨n0,t0,rfl⟩:=hi a (.head _)
  obtain ⟨n1,t1,rfl⟩:=hi b (.tail _ (.head _))
  obtain ⟨n2,t2,rfl⟩:=hi c (.tail _ (.tail _ (.head _)))
  exact ⟨_,_,_,_,_,_,rfl⟩
end Mine
end
section
namespace Mine
variable {j0 j1 j2:Int}
noncomputable def signs16:List Nat:=[39,34,92,32,97,55,61,59,44,36,35,40,37,33,64,233]
theorem sign_item (n:Int):∃c,Txt.item (Str.ofString "'\"\\ a7=;,$#(%!@é") (n.fmod 16)=tx [c]∧c∈signs16:=by
  have h0:0≤n.fmod 16:=Int.fmod_nonneg_of_pos _ (by decide)
  have h1:n.fmod 16<16:=Int.fmod_lt_of_pos _ (by decide)
  generalize n.fmod 16=k at h0 h1
  obtain ⟨j,rfl⟩:=Int.eq_ofNat_of_zero_le h0
  have hj:j<16:=by omega
  have key:∀j:Nat,j<16→Txt.item (Str.ofString "'\"\\ a7=;,$#(%!@é") (j:Int)=tx [signs16.getD j 0]∧signs16.getD j 0∈signs16:=by decide+kernel
  exact ⟨_,(key j hj).1,(key j hj).2⟩
theorem c_sign (w:World) {n:Int} {t0:Nat}:Pure w 836 [.int n t0] 540 5600 (fun v h h'=>∃c t,v= .str (tx [c]) t∧c∈signs16):=by
  intro gd outer base mean pv mg mb loose s Q E Bw X T hret
  have eK:rw_il0090_01=rw_il0090_01:=rfl
  revert eK X
  k_fill
  intro X eK
  refine wpAny_call ?_
  k_dflt (refine' own_enter (chg:=[]) ?k1 ?k2 ?k3 ?k4 ?k6 ?k7 ?k8 ?k9 ?kB ?_ ?c2 ?c3 ?c4 ?c5;(case k1=>exact Bw);(case k2=>exact fun _ h=>nomatch h);(case k3=>exact X);(case k4=>exact T);(case k6=>k_is);(case k7=>k_is);(case k8=>exact Nat.le_of_ble_eq_true rfl);(case k9=>first|exact BindsTo.of_eq rfl|exact binds_K X rfl (by k_is) rfl rfl rfl);(case c5=>decide);(case kB=>exact locs rfl);(case c2=>exact rfl);(case c3=>exact rfl);(case c4=>exact rfl);k_whole;intro g' L' h' hg' hL' F' N' B' X' T' hlt';clear X T Bw;(try dsimp only);(try k_fold))
  have hgs:g'=s.heap:=hg'
  subst hgs
  clear hg'
  (try (refine let_ctx ?_;intro A9 e9))
  repeat' (first|(k_unfold;(try dsimp only))|(k_end;kc_close)|walk1|(dsimp only;walk1)|(leave1;(try dsimp only)))
  show Q _ _
  rename Fr _ _ _ _=>F9
  obtain ⟨c,e,hc⟩:=sign_item n
  exact hret _ _ _ F9.keep ⟨c,_,by rw [e],hc⟩
end Mine
end
section
open PySem PySem.W PySem.W.X PyProof.Rows PySem.Calls PyProof.Rows.LCg
namespace Mine
section
variable {prog:Program} {w:World} {A:Around} {h₀:Heap} {L:Addr} {m:Str→Option Value} {env:Env} {elt:Expr} {x:Str} {scope:Scope} {cl:List (Str × Addr)} {s:Shared} {S:List (Addr × Obj)→Prop} {P:Nat→Value→Prop} {Fin:List Value→List (Addr × Obj)→Prop} {news:List (Addr × Obj)}
inductive ElEndR (h₀:Heap) (L:Addr) (m:Str→Option Value) (led:List (Addr × Obj)) (R:Value→Prop) (s:Shared) (y:Value) (s':Shared):Prop
  | mk (r:R y) (h':Heap) (tk':Nat) (e:s'={s with heap:=h',toks:=tk'}) (F:Fr h₀ L h' m) (N:News h₀ L h' led):ElEndR h₀ L m led R s y s'
inductive FourD (ys:List Value):Prop
  | mk (d0 d1 d2 d3 t0 t1 t2 t3:Nat) (h0:d0≤2) (h1:d1≤2) (h2:d2≤2) (h3:d3≤2) (e:ys=[.int (d0:Int) t0, .int (d1:Int) t1, .int (d2:Int) t2, .int (d3:Int) t3]):FourD ys
inductive ThreeS (ys:List Value):Prop
  | mk (c0 c1 c2 t0 t1 t2:Nat) (h0:c0∈signs16) (h1:c1∈signs16) (h2:c2∈signs16) (e:ys=[Value.str (tx [c0]) t0,Value.str (tx [c1]) t1,Value.str (tx [c2]) t2]):ThreeS ys
theorem rest_all {n:Nat} (R:Value→Prop)
    (turn:∀(i:Nat) (v:Value) (I:Addr) (oI:Obj) (C:Addr) (oC:Obj) (D:Addr) (ys:List Value) (m₂:Str→Option Value) (h:Heap) (tk:Nat) (E':Value→Shared→Prop),i<n→P i v→NsObj oC m₂→m₂ x=some v→Fr h₀ L h m→News h₀ L h ((I,oI)::(C,oC)::(D,lst ys)::news)→
      wpAny (model prog w) A (eval elt (compEnvC scope cl C env)) (ElEndR h₀ L m ((I,oI)::(C,oC)::(D,lst ys)::news) R {s with heap:=h,toks:=tk}) E' {s with heap:=h,toks:=tk})
    (hS:S news) (fin:∀ys,ys.length=n→(∀y∈ys,R y)→Fin ys news):CompRest prog w A h₀ L m env elt x scope cl s S P Fin n 0 [] news:=by
  have key:∀(k i:Nat) (ys:List Value),i+k=n→ys.length=i→(∀y∈ys,R y)→CompRest prog w A h₀ L m env elt x scope cl s S P Fin k i ys news:=by
    intro k
    induction k with
    | zero=>exact fun i ys h1 h2 h3=> .zero (fin ys (by omega) h3)
    | succ k ih=>
      intro i ys h1 h2 h3
      refine .succ fun v I oI C oC D m₂ h tk E' hP hC hx F N off ne=>?_
      refine wpAny_mono (turn i v I oI C oC D ys m₂ h tk E' (by omega) hP hC hx F N) (fun y s' hq=>?_) fun _ _ e=>e
      obtain ⟨hr,h',tk',rfl,F',N'⟩:=hq
      refine ⟨h',tk',news,rfl,F',N',off,hS,ih (i+1) (ys++[y]) (by omega) (by simp [h2]) fun z hz=>?_⟩
      rcases List.mem_append.mp hz with hz|hz
      · exact h3 z hz
      · rw [List.mem_singleton.mp hz];exact hr
  exact key n 0 [] (by omega) rfl fun _ h=>nomatch h
end
noncomputable def IsDress (v:Value):Prop:=∃(d t:Nat),d≤2∧v= .int (d:Int) t
noncomputable def IsSign (v:Value):Prop:=∃(c t:Nat),c∈signs16∧v= .str (tx [c]) t
theorem dress_mod {n:Int} {t:Nat}:IsDress (.int (n.fmod 3) t):=by
  have h0:0≤n.fmod 3:=Int.fmod_nonneg_of_pos _ (by decide)
  have h1:n.fmod 3<3:=Int.fmod_lt_of_pos _ (by decide)
  exact ⟨(n.fmod 3).toNat,t,by omega,by rw [Int.toNat_of_nonneg h0]⟩
section
variable {w:World} {A A₀:Around} {base g:Heap} {env:Env} {outer:List Env} {L:Addr} {pv:Program} {m mg mb:Str→Option Value} {mean:ExcName→Option Value} {loose:List Str} {news:List (Addr × Obj)} {s:Shared} {Q E:Value→Shared→Prop} {n:Int} {t:Nat}
theorem use_sign (B:Below A₀ base outer g) (F:Fr g L s.heap m) (N:News g L s.heap news) (X:(K w.params).In g) (T:Top pv loose mean mg mb g)
    (hA:A.frames=some (env::outer)) (hf:env.frame=some L) (hke:env.scope.kind= .function) (hh:A.handled=none) (hd:Nat.ble A.depth 540=true) (hu:Nat.ble A.units 5600=true)
    (ret:∀h' tk' c t',c∈signs16→Fr g L h' m→News g L h' news→Q (.str (tx [c]) t') {s with heap:=h',toks:=tk'}):
    wpAny (model pw_il0090_01 w) A (call (.ref 836) [.int n t]) Q E s:=by
  refine use_pure (no_implicit_lambda% (@c_sign w n t)) B F N X T hA hf hke hh hd hu fun v h' tk' F' N' _ hp=>?_
  obtain ⟨c,t',rfl,hc⟩:=hp
  exact ret h' tk' c t' hc F' N'
theorem use_order (B:Below A₀ base outer g) (F:Fr g L s.heap m) (N:News g L s.heap news) (X:(K w.params).In g) (T:Top pv loose mean mg mb g)
    (hA:A.frames=some (env::outer)) (hf:env.frame=some L) (hke:env.scope.kind= .function) (hh:A.handled=none) (hd:Nat.ble A.depth 500=true) (hu:Nat.ble A.units 5000=true)
    (ret:∀(h':Heap) (tk' l p0 p1 p2 p3 t0 t1 t2 t3 c:Nat),[0,1,2,3].Perm [p0,p1,p2,p3]→Fr g L h' m→News g L h' ((l,lstO [Value.int (p0:Int) t0, .int (p1:Int) t1, .int (p2:Int) t2, .int (p3:Int) t3].toArray c)::news)→AllNe l news→Q (.ref l) {s with heap:=h',toks:=tk'}):
    wpAny (model pw_il0090_01 w) A (call (.ref 841) [.int n t]) Q E s:=by
  refine use_pure (no_implicit_lambda% (@c_order w n t)) B F N X T hA hf hke hh hd hu fun v h' tk' F' N' kk hp=>?_
  obtain ⟨l,p0,p1,p2,p3,t0,t1,t2,t3,c,rfl,e1,e2,e3⟩:=hp
  have nn:∀x∈[p0,p1,p2,p3],0≤x:=fun x hx=>by
    have:=e3.mem_iff.mpr hx
    simp only [List.mem_cons,List.not_mem_nil,or_false] at this
    omega
  have e4:=e3.map Int.toNat
  have cast:∀x∈[p0,p1,p2,p3],((x.toNat:Nat):Int)=x:=fun x hx=>Int.toNat_of_nonneg (nn x hx)
  obtain ⟨_,N2,ne⟩:=new_news F N kk e1 e2
  refine ret h' tk' l p0.toNat p1.toNat p2.toNat p3.toNat t0 t1 t2 t3 c e4 F' ?_ (allNe_of fun q hq=>ne q hq)
  rw [cast p0 (.head _),cast p1 (.tail _ (.head _)),cast p2 (.tail _ (.tail _ (.head _))),cast p3 (.tail _ (.tail _ (.tail _ (.head _))))]
  exact N2
end
theorem four_dress {ys:List Value} (h:ys.length=4) (hi:∀y∈ys,IsDress y):FourD ys:=by
  obtain ⟨a,b,c,d,rfl⟩:=len4 h
  obtain ⟨d0,t0,h0,rfl⟩:=hi a (.head _)
  obtain ⟨d1,t1,h1,rfl⟩:=hi b (.tail _ (.head _))
  obtain ⟨d2,t2,h2,rfl⟩:=hi c (.tail _ (.tail _ (.head _)))
  obtain ⟨d3,t3,h3,rfl⟩:=hi d (.tail _ (.tail _ (.tail _ (.head _))))
  exact ⟨_,_,_,_,_,_,_,_,h0,h1,h2,h3,rfl⟩
theorem three_signs {ys:List Value} (h:ys.length=3) (hi:∀y∈ys,IsSign y):ThreeS ys:=by
  obtain ⟨a,b,c,rfl⟩:=len3 h
  obtain ⟨d0,t0,h0,rfl⟩:=hi a (.head _)
  obtain ⟨d1,t1,h1,rfl⟩:=hi b (.tail _ (.head _))
  obtain ⟨d2,t2,h2,rfl⟩:=hi c (.tail _ (.tail _ (.head _)))
  exact ⟨_,_,_,_,_,_,h0,h1,h2,rfl⟩
theorem pow_k {prog:Program} {w:World} {A:Around} {s:Shared} {Q E:Value→Shared→Prop} {b:Int} {i t u:Nat} (hi:i<4) (hb:b=3∨b=16) (h:∀d:Int,d≠0→(∀a,Builtin.divisionGoesByPylong a d=false)→∀t' k,Q (.int d t') {s with toks:=k}):
    wpAny (model prog w) A (binaryOp .Pow (.int b t) (.int (0+(i:Int)) u)) Q E s:=by
  rcases hb with rfl|rfl<;>rcases lt4 hi with rfl|rfl|rfl|rfl<;>exact pow_int_small (by decide) (by decide) (by decide) (h _ (by decide) (fun a=>PyProof.noPylong_of_log2 (by decide+kernel)) _ _)
theorem floor_k {prog:Program} {w:World} {A:Around} {s:Shared} {Q E:Value→Shared→Prop} {a d:Int} {t u:Nat} (hd:d≠0) (hp:∀a,Builtin.divisionGoesByPylong a d=false) (h:∀t' k,Q (.int (a.fdiv d) t') {s with toks:=k}):
    wpAny (model prog w) A (binaryOp .FloorDiv (.int a t) (.int d u)) Q E s:=floordiv_int hd (h _ _) (Or.inl (hp a))
end Mine
end
section
namespace Mine
open Mine.Re
theorem law_text {a b c:Nat} {z:Str} (hz:z=tx [32]):tx [a]++z++tx [b]++tx [c]=tx [a,32,b,c]:=by
  subst hz;simp only [tx_append,List.cons_append,List.nil_append]
theorem off3_of {a:Nat} {news:List (Addr × Obj)} (h:AllNe a news) (m8:∃o,(802,o)∈news) (m9:∃o,(95,o)∈news) (m7:∃o,(78,o)∈news):Off3 a:=by
  obtain ⟨_,m8⟩:=m8;obtain ⟨_,m9⟩:=m9;obtain ⟨_,m7⟩:=m7
  exact ⟨fun e=>allNe_all h _ m8 e.symm,fun e=>allNe_all h _ m9 e.symm,fun e=>allNe_all h _ m7 e.symm⟩
structure OffAll (c9 c7 a:Nat):Prop where
  o:Off3 a
  n:@Ne Nat a c9
  m:@Ne Nat a c7
theorem rest_nil {c9 c7:Nat} {news:List (Addr × Obj)}:∀p∈([]:List (Addr × Obj)),p∈news∧OffAll c9 c7 p.1:=fun _ h=>nomatch h
theorem rest_cons {c9 c7:Nat} {news rest:List (Addr × Obj)} {q:Addr × Obj} (h:q∈news) (o:OffAll c9 c7 q.1) (t:∀q∈rest,q∈news∧OffAll c9 c7 q.1):∀p∈q::rest,p∈news∧OffAll c9 c7 p.1:=fun p hp=>by
  rcases List.mem_cons.mp hp with rfl|hp
  · exact ⟨h,o⟩
  · exact t p hp
section
variable {w:World} {A A₀:Around} {base g:Heap} {env:Env} {L:Addr} {pb':Program} {m mg' mb':Str→Option Value} {mean':ExcName→Option Value} {loose':List Str} {news rest:List (Addr × Obj)} {s:Shared} {Q E:Value→Shared→Prop}
theorem fr_after {h':Heap} (F:Fr g L s.heap m) (hf:env.frame=some L) (kk:∀b o,g.get? b=some o→b≠L→s.heap.get? b=some o→h'.get? b=some o) (fs:FS [env] s.heap h'):Fr g L h' m:=by
  refine ⟨?_,fun b o hb=>kk b o hb (Nat.ne_of_lt (Nat.lt_of_lt_of_le (Heap.lt_size hb) F.above)) (F.keep _ _ hb),F.above⟩
  obtain ⟨o,es,ep,e1,e2,e3⟩:=F.ns
  obtain ⟨sl,hsl⟩:=fs env (.head _) L hf o e1 (fun vs e=>by rw [e2] at e;cases e)
  exact ⟨_,es,ep,hsl,e2,e3⟩
theorem use_chain {l:List Nat} {t ax kd dr c9 c7 ck cd ca p0 p1 p2 p3 a0 a1 a2 a3:Nat} {kvs dvs:List Value} {ks ds:Nat→Nat} {ps p9 p7:Array Value} {o9 o7:Obj}
    (B:Below A₀ base [] g) (F:Fr g L s.heap m) (N:News g L s.heap news) (XB:(K w.params).In base) (TB:Top pb' loose' mean' mg' mb' base) (hbg:base=g)
    (hA:A.frames=some [env]) (hf:env.frame=some L) (hke:env.scope.kind= .function) (hh:A.handled=none) (hd0:Nat.ble A.depth 520=true) (hu:Nat.ble A.units 5400=true)
    (ma:(ax,lstO [Value.int (p0:Int) a0, .int (p1:Int) a1, .int (p2:Int) a2, .int (p3:Int) a3].toArray ca)∈news) (mk:(kd,lstO kvs.toArray ck)∈news) (md:(dr,lstO dvs.toArray cd)∈news) (m8:(802,tabObj ps)∈news) (m95:(95,tabObj p9)∈news) (m9:(c9,o9)∈news) (m78:(78,tabObj p7)∈news) (m7:(c7,o7)∈news)
    (T0:Tabs c9 c7 o9 o7 ps p9 p7 s.gens) (wa:Off3 ax) (wk:Off3 kd) (wd:Off3 dr) (hk:∀p,p<4→∃t,kvs[p]?=some (.int (ks p:Int) t)) (hk2:∀p,ks p≤1) (hd:∀p,p<4→∃t,dvs[p]?=some (.int (ds p:Int) t)) (hd2:∀p,ds p≤2) (hp:∀p∈[p0,p1,p2,p3],p<4) (ha:∀c∈l,c∈alph) (hb:32∈l) (hz:l.length≤4)
    (hr:∀q∈rest,q∈news∧OffAll c9 c7 q.1)
    (ret:∀(h':Heap) (tk' t' c9' c7':Nat) (o9' o7':Obj) (ps' p9' p7':Array Value) (gs':Array GenState),Fr g L h' m→News g L h' ((802,tabObj ps')::(95,tabObj p9')::(78,tabObj p7')::(c9',o9')::(c7',o7')::(kd,lstO kvs.toArray ck)::(dr,lstO dvs.toArray cd)::rest)→Tabs c9' c7' o9' o7' ps' p9' p7' gs'→
      Q (.str (tx (runs ks ds [p0,p1,p2,p3] l)) t') {s with heap:=h',toks:=tk',gens:=gs'}):
    wpAny (model pw_il0090_01 w) A (call (.ref 890) [.str (tx l) t, .ref ax, .ref kd, .ref dr]) Q E s:=by
  have BS:=below_sub (as:=[ax,kd,dr,802,95,c9,78,c7]) B F N hA hf hke (by
    intro b hb
    simp only [List.mem_cons,List.not_mem_nil,or_false] at hb
    rcases hb with rfl|rfl|rfl|rfl|rfl|rfl|rfl|rfl
    · exact ⟨_,ma⟩
    · exact ⟨_,mk⟩
    · exact ⟨_,md⟩
    · exact ⟨_,m8⟩
    · exact ⟨_,m95⟩
    · exact ⟨_,m9⟩
    · exact ⟨_,m78⟩
    · exact ⟨_,m7⟩)
  refine weaken (A':=ar 520 5400 A.guards [env]) hh (Nat.le_of_ble_eq_true hd0) hA.symm rfl (Nat.le_of_ble_eq_true hu) ?_
  refine c_chain w ⟨rfl,BS.stays,BS.frames⟩ (N _ ma).1 (N _ mk).1 (N _ md).1 (N _ m8).1 (N _ m95).1 (N _ m9).1 (N _ m78).1 (N _ m7).1 XB TB T0 wa wk wd hk hk2 hd hd2 hp ha hb hz
    fun h' tk' t' c9' c7' o9' o7' ps' p9' p7' gs' e8 e9 ec e7 ed T' b9 b7 f9 ek er kk fs=>?_
  have off:∀b o,g.get? b=some o→∀o',(b,o') ∉ news:=fun b o e o' h=>by rw [(N _ h).2.2] at e;cases e
  refine ret h' tk' t' c9' c7' o9' o7' ps' p9' p7' gs' (fr_after F hf (fun b o h1 h2 h3=>kk b o (fun e=>off b o h1 _ (e▸m8)) (fun e=>off b o h1 _ (e▸m95)) (fun e=>off b o h1 _ (e▸m78)) (fun e=>off b o h1 _ (e▸m9)) (fun e=>off b o h1 _ (e▸m7)) (fun e he=>?_) h3) fs) ?_ T'
  · rw [List.mem_singleton.mp he,hf];exact fun e=>h2 (Option.some.inj e).symm
  · have nL:∀c,(∀e∈[env],e.frame≠some c)→c≠L:=fun c h e=>h env (.head _) (by rw [hf,e])
    intro q hq
    rcases List.mem_cons.mp hq with rfl|hq
    · exact ⟨e8,(N _ m8).2⟩
    rcases List.mem_cons.mp hq with rfl|hq
    · exact ⟨e9,(N _ m95).2⟩
    rcases List.mem_cons.mp hq with rfl|hq
    · exact ⟨e7,(N _ m78).2⟩
    rcases List.mem_cons.mp hq with rfl|hq
    · exact ⟨ec,nL _ (fun e he=>(f9 e he).1),hbg▸b9⟩
    rcases List.mem_cons.mp hq with rfl|hq
    · exact ⟨ed,nL _ (fun e he=>(f9 e he).2),hbg▸b7⟩
    rcases List.mem_cons.mp hq with rfl|hq
    · exact ⟨ek,(N _ mk).2⟩
    rcases List.mem_cons.mp hq with rfl|hq
    · exact ⟨er,(N _ md).2⟩
    obtain ⟨hm,hO⟩:=hr q hq
    refine ⟨kk _ _ hO.o.x hO.o.y hO.o.z hO.n hO.m (fun e he=>?_) (N q hm).1,(N q hm).2⟩
    rw [List.mem_singleton.mp he,hf];exact fun e=>(N q hm).2.1 (Option.some.inj e).symm
theorem use_apart {l r:List Nat} {t u:Nat}
    (B:Below A₀ base [] g) (F:Fr g L s.heap m) (N:News g L s.heap news) (XB:(K w.params).In base) (TB:Top pb' loose' mean' mg' mb' base)
    (hA:A.frames=some [env]) (hf:env.frame=some L) (hke:env.scope.kind= .function) (hh:A.handled=none) (hd0:Nat.ble A.depth 530=true) (hu:Nat.ble A.units 5500=true)
    (hz:l.length≤20000) (hz2:r.length≤20000) (hcc:∀c,c≠92→l.count c=r.count c)
    (ret:∀(h':Heap) (tk':Nat),Fr g L h' m→News g L h' news→Q (.bool true) {s with heap:=h',toks:=tk'}):
    wpAny (model pw_il0090_01 w) A (call (.ref 897) [.str (tx l) t, .str (tx r) u]) Q E s:=by
  have BP:=pushX B F hf hke
  refine weaken (A':=ar 530 5500 A.guards [env]) hh (Nat.le_of_ble_eq_true hd0) hA.symm rfl (Nat.le_of_ble_eq_true hu) ?_
  refine c_apart w ⟨rfl,BP.stays,BP.frames⟩ XB TB hz hz2 hcc fun h' tk' kk fs=>ret h' tk' (fr_after F hf (fun b o _ h2 h3=>kk b o (fun e he=>?_) h3) fs) fun q hq=>⟨kk _ _ (fun e he=>?_) (N q hq).1,(N q hq).2⟩
  · rw [List.mem_singleton.mp he,hf];exact fun e=>h2 (Option.some.inj e).symm
  · rw [List.mem_singleton.mp he,hf];exact fun e=>(N q hq).2.1 (Option.some.inj e).symm
end
noncomputable def natsOf (vs:List Value) (p:Nat):Nat:=match vs[p]? with|some (.int n _)=>n.toNat|_=>0
theorem kinds_ok {n:Int} {a b c d:Nat}:(∀p,natsOf [Value.int 0 a, .int 1 b, .int (n.fmod 2) c, .int 1 d] p≤1)∧∀p,p<4→∃t,[Value.int 0 a, .int 1 b, .int (n.fmod 2) c, .int 1 d][p]?=some (.int (natsOf [Value.int 0 a, .int 1 b, .int (n.fmod 2) c, .int 1 d] p:Int) t):=by
  have h0:0≤n.fmod 2:=Int.fmod_nonneg_of_pos _ (by decide)
  have h1:n.fmod 2<2:=Int.fmod_lt_of_pos _ (by decide)
  refine ⟨fun p=>?_,fun p hp=>?_⟩
  · rcases Nat.lt_or_ge p 4 with hp|hp
    · rcases lt4 hp with rfl|rfl|rfl|rfl
      · exact Nat.zero_le _
      · exact Nat.le_refl _
      · show (n.fmod 2).toNat≤1;omega
      · exact Nat.le_refl _
    · obtain ⟨k,rfl⟩:=Nat.le.dest hp
      rw [Nat.add_comm]
      exact Nat.zero_le _
  · rcases lt4 hp with rfl|rfl|rfl|rfl
    · exact ⟨_,rfl⟩
    · exact ⟨_,rfl⟩
    · exact ⟨c,by show some (Value.int (n.fmod 2) c)=some (.int ((n.fmod 2).toNat:Int) c);rw [Int.toNat_of_nonneg h0]⟩
    · exact ⟨_,rfl⟩
theorem dresses_ok {d0 d1 d2 d3 u0 u1 u2 u3:Nat} (h0:d0≤2) (h1:d1≤2) (h2:d2≤2) (h3:d3≤2):(∀p,natsOf [Value.int (d0:Int) u0, .int (d1:Int) u1, .int (d2:Int) u2, .int (d3:Int) u3] p≤2)∧∀p,p<4→∃t,[Value.int (d0:Int) u0, .int (d1:Int) u1, .int (d2:Int) u2, .int (d3:Int) u3][p]?=some (.int (natsOf [Value.int (d0:Int) u0, .int (d1:Int) u1, .int (d2:Int) u2, .int (d3:Int) u3] p:Int) t):=by
  refine ⟨fun p=>?_,fun p hp=>?_⟩
  · rcases Nat.lt_or_ge p 4 with hp|hp
    · rcases lt4 hp with rfl|rfl|rfl|rfl
      · exact h0
      · exact h1
      · exact h2
      · exact h3
    · obtain ⟨k,rfl⟩:=Nat.le.dest hp
      rw [Nat.add_comm]
      exact Nat.zero_le _
  · rcases lt4 hp with rfl|rfl|rfl|rfl<;>exact ⟨_,rfl⟩
theorem perm_lt {a b c d:Nat} (h:[0,1,2,3].Perm [a,b,c,d]):∀p∈[a,b,c,d],p<4:=fun p hp=>by
  have:=h.mem_iff.mpr hp
  simp only [List.mem_cons,List.not_mem_nil,or_false] at this
  omega
theorem text_ok {a b c:Nat} (ha:a∈signs16) (hb:b∈signs16) (hc:c∈signs16):∀x∈[a,32,b,c],x∈alph:=by
  have key:∀x∈signs16,x∈alph:=by decide
  intro x hx
  simp only [List.mem_cons,List.not_mem_nil,or_false] at hx
  rcases hx with rfl|rfl|rfl|rfl
  · exact key _ ha
  · decide
  · exact key _ hb
  · exact key _ hc
theorem tabs_first {c9 c7:Nat} {o9 o7:Obj} {gs:Array GenState} (hG:gs=#[]) (w9:Off3 c9) (w7:Off3 c7) (z:@Ne Nat c7 c9):Tabs c9 c7 o9 o7 #[] #[] #[] gs:=
  ⟨trivial,AllBare.of_eq hG, .inl rfl, .inl rfl,w9,w7,z⟩
theorem apart_runs {ks ds:Nat→Nat} {a b c d e f g h:Nat} {l:List Nat} (h1:[0,1,2,3].Perm [a,b,c,d]) (h2:[0,1,2,3].Perm [e,f,g,h]):∀x,x≠92→(runs ks ds [a,b,c,d] l).count x=(runs ks ds [e,f,g,h] l).count x:=
  runs_apart (h1.symm.trans h2) l
theorem law_end {g h:Heap} {L:Nat} {m:Str→Option Value} {s:Shared} (hg:g=hideAll s.heap [802,95,78]) (F:Fr g L h m):∀b o,b≠802→b≠95→b≠78→s.heap.get? b=some o→h.get? b=some o:=fun b o h1 h2 h3 e=>
  F.keep b o (hg▸hideAll_get _ e fun hm=>by
    simp only [List.mem_cons,List.not_mem_nil,or_false] at hm
    rcases hm with rfl|rfl|rfl
    · exact h1 rfl
    · exact h2 rfl
    · exact h3 rfl)
end Mine
end
end
section
namespace Mine
variable {j0 j1 j2:Int}
open Mine.Re
theorem c_law (w:World) {sl:Nat} {vs:List Value} {mean:ExcName→Option Value} {pv:Program} {mg mb:Str→Option Value} {loose:List Str} {s:Shared} {Q E:Value→Shared→Prop}
    (X:(K w.params).In (hideAll s.heap [802,95,78])) (T:Top pv loose mean mg mb (hideAll s.heap [802,95,78]))
    (hg0:s.heap.get? 802=some (tabObj #[])) (hg1:s.heap.get? 95=some (tabObj #[])) (hg2:s.heap.get? 78=some (tabObj #[])) (hl:(hideAll s.heap [802,95,78]).IsList sl vs.toArray) (hi:AllInt vs) (hz:vs.length≤63) (hG:s.gens=#[])
    (hret:∀(h':Heap) (tk':Nat) (gs':Array GenState),AllBare gs'→(∃ps,h'.get? 802=some (tabObj ps))→(∃ps,h'.get? 95=some (tabObj ps))→(∃ps,h'.get? 78=some (tabObj ps))→(∀b o,b≠802→b≠95→b≠78→s.heap.get? b=some o→h'.get? b=some o)→Q (.bool true) {s with heap:=h',toks:=tk',gens:=gs'}):
    wpAny (model pw_il0090_01 w) callerA (call (.ref 902) [.ref sl]) Q E s:=by
  have Bw:=below_caller (hideAll s.heap [802,95,78])
  have eK:rw_il0090_01=rw_il0090_01:=rfl
  revert eK X
  k_fill
  intro X eK
  refine wpAny_call ?_
  k_dflt (refine' own_enterC (chg:=[(802,tabObj #[]),(95,tabObj #[]),(78,tabObj #[])]) ?k1 ?k2 ?k3 ?k4 ?k6 ?k7 ?k8 ?k9 ?kB ?kD ?_ ?c2 ?c3 ?c4;(case k1=>exact Bw);(case k2=>(intro q hq;simp only [List.mem_cons,List.not_mem_nil,or_false] at hq;rcases hq with rfl|rfl|rfl;exact hg0;exact hg1;exact hg2));(case k3=>exact X);(case k4=>exact T);(case k6=>k_is);(case k7=>k_is);(case k8=>exact Nat.le_of_ble_eq_true rfl);(case k9=>first|exact BindsTo.of_eq rfl|exact binds_K (Frag.In.keeps X fun b o e=>of_hideAll _ e) rfl (by k_is) rfl rfl rfl);(case kB=>exact rfl);(case kD=>decide+kernel);(case c2=>exact rfl);(case c3=>exact rfl);(case c4=>exact rfl);k_whole;intro g' L' h' tk' cells' hg' hL' F' N' Y' B' X' T' hlt';clear X T Bw;k_cells Y';(try simp only [List.cons_append,List.nil_append] at N');(try dsimp only);(try k_fold))
  have b802:@LT.lt Nat _ 802 L':=hlt' (802,tabObj #[]) (by k_mem)
  have b95:@LT.lt Nat _ 95 L':=hlt' (95,tabObj #[]) (by k_mem)
  have b78:@LT.lt Nat _ 78 L':=hlt' (78,tabObj #[]) (by k_mem)
  clear hlt'
  have hl9:g'.IsList sl vs.toArray:=by rw [hg'];exact hl
  clear hl hg0 hg1 hg2
  repeat' (first|((with_reducible show wpAny _ _ (eval (PySem.Expr.ListComp _ _ _ _) _) _ _ _);refine stop_here' ?_)|((with_reducible show wpAny _ _ (exec (PySem.Stmt.Assign _ (PySem.Expr.ListComp _ _ _ _) _) _) _ _ _);first|k_dflt (refine wpAny_Assign_Name ?_)|refine stop_here' ?_)|walk1)
  unfold Stop'
  rename Fr _ _ _ _=>F8
  refine enum_list F8 (by with_unfolding_all rfl) (by decide) rfl (by decide) rfl rfl (by decide) ?_ (fun _=>rfl)
  repeat' (first|((with_reducible show wpAny _ _ (eval (PySem.Expr.List _ _) _) _ _ _);k_dflt (refine' list_p (by k_asm) (by k_asm) (by exact Eq.refl (some _)) (by exact rfl) ?_;k_whole);intro lβ nβ hβ Fβ Nβ zβ;(dsimp only [nβ] at Nβ);clear nβ;(try k_sweep))|((with_reducible show wpAny _ _ (call (Value.type _) [Value.ref _]) _ _ _);k_dflt (refine' use_enum (by k_asm) (by k_asm) (by k_mem) ?_);intro eβ itβ hβ hitβ Fβ Nβ q1β q2β q3β q4β)|walk1)
  rename Fr _ _ _ _=>F9
  rename News _ _ _ _=>N9
  rename Heap.IsListIter _ _ _ _=>hi9
  refine ⟨_,_,_,_,[_,_,_],_,rfl,rfl,by simp,hi9,F9,N9,?a1,?a2,?a3,?a4,?a5,?a6,?el,?fin⟩
  case el=>
    intro i v ti C D oC oe oi ys m2 h2 tk2 E2 hv hoC hm1 hm2 F2 N2
    clear F9 N9
    obtain ⟨n1,t1,rfl⟩:∃n t,v= .int n t:=by
      rcases i with _|_|_|n
      all_goals first|(cases hv;exact ⟨_,_,rfl⟩)|exact nomatch hv
    repeat' (first|((with_reducible show wpAny _ _ (subscriptTail _ (PySem.Expr.Slice (some _) none (some _) _) (Value.ref _) (Value.ref _)) _ _ _);k_dflt (refine' slice3 (by k_asm) (by k_asm) (by assumption) (by assumption) (by assumption) (by exact IsPart.int _ _) (by exact IsPart.int _ _) ?_ (by with_unfolding_all rfl) (by kmk_pure));intro Dβ hβ usβ hAβ Fβ Nβ)|((with_reducible show wpAny _ _ (call (Value.builtin _) [Value.ref _]) _ _ _);k_dflt (refine' sum_int (by exact rfl) (by k_asm) (by k_asm) (by k_mem) (by assumption) ?_);intro hβ tkβ nβ tβ Fβ Nβ)|walk1)
    rename Fr _ _ _ _=>F3
    rename News _ _ _ _=>N3
    exact ⟨_,_,_,_,rfl,rfl,F3,fun q hq=>N3 q (.tail _ hq)⟩
  case a1=>assumption
  case a2=>assumption
  case a3=>assumption
  case a4=>rename (∀p∈_,_∧_)=>q9;exact (q9 _ (.head _)).2
  case a5=>rename (∀p∈_,_∧_)=>q9;exact (q9 _ (.head _)).1
  case a6=>rename (∀p∈_,_∧_)=>q9;exact fun p hp=>q9 p (.tail _ hp)
  case fin=>
    intro D h2 tk2 ys hyl hai F2 N2 hD
    obtain ⟨n0,t0,n1,t1,n2,t2,rfl⟩:=three_ints hyl hai
    clear F9 N9
    simp only [List.forall_mem_cons,List.not_mem_nil,false_implies,implies_true,and_true] at hD
    obtain ⟨d1,d2,d3,d4,d5,d6⟩:=hD
    repeat' (first|((with_reducible show wpAny _ _ (newList _) _ _ _);k_dflt (refine' newl (by k_asm) (by k_asm) (by exact rfl) ?_;k_whole);intro lβ nβ hβ Fβ Nβ zβ;(dsimp only [nβ] at Nβ);clear nβ;(try k_sweep))|((with_reducible show wpAny _ _ (exec (PySem.Stmt.Assign _ (PySem.Expr.ListComp _ _ _ _) _) _) _ _ _);refine stop_here' ?_)|(k_end;kc_close)|walk1)
    unfold Stop'
    rename Fr _ _ _ _=>F4
    refine LCg.Assign_ListComp_U (F₀:=F4) (by rfl) (by with_unfolding_all rfl) (by with_unfolding_all rfl) (by decide) (by rfl) (by decide) (by rfl) (by rfl) (by rfl) ?_
    repeat' (first|((with_reducible show LCg.CompSrc _ _ _ _ _ _ _ _ _ _ _ _ _ _);refine stop_here' ?_)|walk1)
    unfold Stop'
    rename Fr _ _ _ _=>F5
    rename News _ _ _ _=>N5
    rename IsRange _ _ _ _ _ _ _ _=>r5
    refine LCg.CompSrc.range (n:=4) rfl F5 N5 r5 (by decide) rfl (Nat.le_of_ble_eq_true rfl) ?_
    intro g5
    refine rest_all IsDress ?turn4 trivial ?fin4
    case turn4=>
      clear F5 N5
      intro i v I oI C oC D ys m6 h6 tk6 E6 hi6 hP6 hC6 hx6 F6 N6
      obtain ⟨t6,rfl⟩:=hP6
      repeat' (first|(k_unfold;(try dsimp only))|((with_reducible show wpAny _ _ (binaryOp Operator.Pow (Value.int _ _) (Value.int _ _)) _ _ _);k_dflt (refine' pow_k hi6 (by first|exact Or.inl rfl|exact Or.inr rfl) ?_);intro d9 hd9 hp9 t9 k9)|((with_reducible show wpAny _ _ (binaryOp Operator.FloorDiv (Value.int _ _) (Value.int _ _)) _ _ _);k_dflt (refine' floor_k (by assumption) (by assumption) ?_);intro t9 k9)|(k_end;kc_close)|walk1)
      rename Fr _ _ _ _=>F7
      rename News _ _ _ _=>N7
      exact ⟨dress_mod,_,_,rfl,F7,N7⟩
    intro ys4 hy4 hR4
    obtain ⟨d0,d1,d2,d3,u0,u1,u2,u3,hd0,hd1,hd2,hd3,rfl⟩:=four_dress hy4 hR4
    clear F5 N5
    repeat' (first|((with_reducible show wpAny _ _ (exec (PySem.Stmt.Assign _ (PySem.Expr.ListComp _ _ _ _) _) _) _ _ _);refine stop_here' ?_)|(k_end;kc_close)|walk1)
    unfold Stop'
    rename Fr _ _ _ _=>F4
    refine LCg.Assign_ListComp_U (F₀:=F4) (by rfl) (by with_unfolding_all rfl) (by with_unfolding_all rfl) (by decide) (by rfl) (by decide) (by rfl) (by rfl) (by rfl) ?_
    repeat' (first|((with_reducible show LCg.CompSrc _ _ _ _ _ _ _ _ _ _ _ _ _ _);refine stop_here' ?_)|walk1)
    unfold Stop'
    rename Fr _ _ _ _=>F5
    rename News _ _ _ _=>N5
    rename IsRange _ _ _ _ _ _ _ _=>r5
    refine LCg.CompSrc.range (n:=3) rfl F5 N5 r5 (by decide) rfl (Nat.le_of_ble_eq_true rfl) ?_
    intro g5
    refine rest_all IsSign ?turn3 trivial ?fin3
    case turn3=>
      clear F5 N5
      intro i v I oI C oC D ys m6 h6 tk6 E6 hi6 hP6 hC6 hx6 F6 N6
      obtain ⟨t6,rfl⟩:=hP6
      repeat' (first|(k_unfold;(try dsimp only))|((with_reducible show wpAny _ _ (binaryOp Operator.Pow (Value.int _ _) (Value.int _ _)) _ _ _);k_dflt (refine' pow_k (Nat.lt_succ_of_lt hi6) (by first|exact Or.inl rfl|exact Or.inr rfl) ?_);intro d9 hd9 hp9 t9 k9)|((with_reducible show wpAny _ _ (binaryOp Operator.FloorDiv (Value.int _ _) (Value.int _ _)) _ _ _);k_dflt (refine' floor_k (by assumption) (by assumption) ?_);intro t9 k9)|((with_reducible show wpAny _ _ (call (Value.ref 836) _) _ _ _);refine stop_here' ?_)|(k_end;kc_close)|walk1)
      unfold Stop'
      rename Fr _ _ _ _=>F7
      rename News _ _ _ _=>N7
      exact use_sign B' F7 N7 X' T' rfl rfl rfl rfl rfl rfl fun h' tk' c t' hc F8 N8=>⟨⟨c,t',hc,rfl⟩,_,_,rfl,F8,N8⟩
    intro ys3 hy3 hR3
    obtain ⟨c0,c1,c2,v0,v1,v2,hc0,hc1,hc2,rfl⟩:=three_signs hy3 hR3
    clear F5 N5
    repeat' (first|((with_reducible show wpAny _ _ (call (Value.ref 841) _) _ _ _);refine stop_here' ?_)|(k_end;kc_close)|walk1)
    unfold Stop'
    rename Fr _ _ _ _=>F5
    rename News _ _ _ _=>N5
    refine use_order B' F5 N5 X' T' rfl rfl rfl rfl rfl rfl fun h6 tk6 ax p0 p1 p2 p3 a0 a1 a2 a3 ca hperm F6 N6 hne=>?_
    have hax:=off3_of hne ⟨_,by k_mem⟩ ⟨_,by k_mem⟩ ⟨_,by k_mem⟩
    clear F5 N5 hne
    repeat' (first|((with_reducible show wpAny _ _ (call (Value.ref 890) _) _ _ _);refine stop_here' ?_)|walk1)
    unfold Stop'
    rename Fr _ _ _ _=>F7
    rename News _ _ _ _=>N7
    have et:tx [c0]++Str.ofString " "++tx [c1]++tx [c2]=tx [c0,32,c1,c2]:=law_text (by decide)
    rw [et]
    have hbase:hideAll s.heap [802,95,78]=g':=hg'.symm
    have XB:(K w.params).In (hideAll s.heap [802,95,78]):=hbase▸X'
    have TB:Top pv loose mean mg mb (hideAll s.heap [802,95,78]):=hbase▸T'
    have h32:32∈[c0,32,c1,c2]:= .tail _ (.head _)
    have x1:@Ne Nat (L'+1+1) 802∧@Ne Nat (L'+1+1) 95∧@Ne Nat (L'+1+1) 78∧@Ne Nat (L'+1) 802∧@Ne Nat (L'+1) 95∧@Ne Nat (L'+1) 78:=⟨Nat.ne_of_gt (Nat.lt_succ_of_lt (Nat.lt_succ_of_lt b802)),Nat.ne_of_gt (Nat.lt_succ_of_lt (Nat.lt_succ_of_lt b95)),Nat.ne_of_gt (Nat.lt_succ_of_lt (Nat.lt_succ_of_lt b78)),Nat.ne_of_gt (Nat.lt_succ_of_lt b802),Nat.ne_of_gt (Nat.lt_succ_of_lt b95),Nat.ne_of_gt (Nat.lt_succ_of_lt b78)⟩
    refine use_chain (A₀:=callerA) (env:=envOfC _ _ L' _ _) B' F7 N7 XB TB hbase rfl rfl rfl rfl rfl rfl (.head _) (.tail _ (.tail _ (.tail _ (.head _)))) (.tail _ (.tail _ (.head _))) (by k_mem) (by k_mem) (.tail _ (.tail _ (.tail _ (.head _)))) (by k_mem) (.tail _ (.tail _ (.head _)))
      (tabs_first hG (Off3.mk (by k_ne) (by k_ne) (by k_ne)) (Off3.mk (by k_ne) (by k_ne) (by k_ne)) (by k_ne)) hax (Off3.mk (by k_ne) (by k_ne) (by k_ne)) (Off3.mk (by k_ne) (by k_ne) (by k_ne)) kinds_ok.2 kinds_ok.1 (dresses_ok hd0 hd1 hd2 hd3).2 (dresses_ok hd0 hd1 hd2 hd3).1 (perm_lt hperm) (text_ok hc0 hc1 hc2) h32 (Nat.le_refl 4) (rest_cons (.tail _ (.tail _ (.tail _ (.tail _ (.head _))))) ⟨⟨Ne.symm d4,Ne.symm d5,Ne.symm d6⟩,by k_ne,by k_ne⟩ (rest_cons (.tail _ (.tail _ (.tail _ (.tail _ (.tail _ (.tail _ (.head _))))))) ⟨⟨x1.1,x1.2.1,x1.2.2.1⟩,by k_ne,by k_ne⟩ (rest_cons (.tail _ (.tail _ (.tail _ (.tail _ (.tail _ (.tail _ (.tail _ (.head _)))))))) ⟨⟨x1.2.2.2.1,x1.2.2.2.2.1,x1.2.2.2.2.2⟩,by k_ne,by k_ne⟩ rest_nil))) ?ret1
    case ret1=>
      intro h7 tk7 t7 c9 c7 o9 o7 ps p9 p7 gs F8 N8 T8
      clear F7 N7
      repeat' (first|((with_reducible show wpAny _ _ (call (Value.ref 841) _) _ _ _);refine stop_here' ?_)|(k_end;kc_close)|walk1)
      unfold Stop'
      rename Fr _ _ _ _=>F5
      rename News _ _ _ _=>N5
      refine use_order B' F5 N5 X' T' rfl rfl rfl rfl rfl rfl fun h6 tk6 bx q0 q1 q2 q3 b0 b1 b2 b3 cb hperm2 F6 N6 hne=>?_
      have hbx:=off3_of hne ⟨_,by k_mem⟩ ⟨_,by k_mem⟩ ⟨_,by k_mem⟩
      clear F5 N5 hne
      repeat' (first|((with_reducible show wpAny _ _ (call (Value.ref 890) _) _ _ _);refine stop_here' ?_)|walk1)
      unfold Stop'
      rename Fr _ _ _ _=>F7
      rename News _ _ _ _=>N7
      rw [et]
      refine use_chain (rest:=[]) (A₀:=callerA) (env:=envOfC _ _ L' _ _) B' F7 N7 XB TB hbase rfl rfl rfl rfl rfl rfl (.head _) (.tail _ (.tail _ (.tail _ (.tail _ (.tail _ (.tail _ (.head _))))))) (.tail _ (.tail _ (.tail _ (.tail _ (.tail _ (.tail _ (.tail _ (.head _)))))))) (.tail _ (.head _)) (.tail _ (.tail _ (.head _))) (.tail _ (.tail _ (.tail _ (.tail _ (.head _))))) (.tail _ (.tail _ (.tail _ (.head _)))) (.tail _ (.tail _ (.tail _ (.tail _ (.tail _ (.head _))))))
        T8 hbx (Off3.mk (by k_ne) (by k_ne) (by k_ne)) (Off3.mk (by k_ne) (by k_ne) (by k_ne)) kinds_ok.2 kinds_ok.1 (dresses_ok hd0 hd1 hd2 hd3).2 (dresses_ok hd0 hd1 hd2 hd3).1 (perm_lt hperm2) (text_ok hc0 hc1 hc2) h32 (Nat.le_refl 4) rest_nil ?ret2
      case ret2=>
        intro h8 tk8 t8 e9 e7 v9 v7 ps2 p92 p72 gs2 F9 N9 T9
        clear F7 N7
        repeat' (first|((with_reducible show wpAny _ _ (call (Value.ref 897) _) _ _ _);refine stop_here' ?_)|(k_end;kc_close)|walk1)
        unfold Stop'
        rename Fr _ _ _ _=>F7
        rename News _ _ _ _=>N7
        refine use_apart (A₀:=callerA) (env:=envOfC _ _ L' _ _) B' F7 N7 XB TB rfl rfl rfl rfl rfl rfl (runs_len4 (dresses_ok hd0 hd1 hd2 hd3).1 _ _ _ _ _ (Nat.le_refl 4)) (runs_len4 (dresses_ok hd0 hd1 hd2 hd3).1 _ _ _ _ _ (Nat.le_refl 4)) (apart_runs hperm hperm2) fun h10 tk10 F10 N10=>?_
        clear F7 N7
        repeat' (first|(k_unfold;(try dsimp only))|(k_end;kc_close)|walk1)
        exact hret _ _ _ T9.hG ⟨_,(N10 _ (.head _)).1⟩ ⟨_,(N10 _ (.tail _ (.head _))).1⟩ ⟨_,(N10 _ (.tail _ (.tail _ (.head _)))).1⟩ (law_end hg' F10)
end Mine
end
section
open PySem PySem.W PySem.W.X PyProof.Rows PySem.Calls PySem.Spec
namespace Mine
theorem old_of {tabs:List (Addr × Addr)} {h h':Heap} (hT:TabsAt tabs h) (hg:∀q∈tabs,∃ps,h'.get? q.2=some (tabObj ps)) (k:∀b o,b ∉ tabs.map (·.2)→h.get? b=some o→h'.get? b=some o):OldK h h':=by
  have tab:∀b o,b∈tabs.map (·.2)→h.get? b=some o→isCodeTable h b∧o=tabObj #[]∧∃ps,h'.get? b=some (tabObj ps):=fun b o hb e=>by
    obtain ⟨q,hq,rfl⟩:=List.mem_map.mp hb
    have t:=hT q hq
    have e2:=t.2
    rw [e] at e2
    exact ⟨(t.1.tab t.2).isCodeTable,Option.some.inj e2,hg q hq⟩
  constructor
  · intro b o e
    by_cases hb:b∈tabs.map (·.2)
    · obtain ⟨c,rfl,ps,hp⟩:=tab b o hb e
      exact .inr (.inl ⟨c,rfl,#[],ps,rfl,by rw [Array.empty_append];exact hp⟩)
    · exact .inl (k b o hb e)
  · intro b o e
    by_cases hb:b∈tabs.map (·.2)
    · obtain ⟨_,_,ps,hp⟩:=tab b o hb e
      exact ⟨_,hp⟩
    · exact ⟨o,k b o hb e⟩
theorem allInt_of {vs:List Value} {xs:List Int} (h:IntsAre vs xs):AllInt vs:=by
  induction h with
  | nil=>exact fun _ h=>nomatch h
  | cons _ _ _ ih=>
    intro y hy
    rcases List.mem_cons.mp hy with rfl|hy
    · exact ⟨_,_,rfl⟩
    · exact ih y hy
theorem law_hc {loose:List Str} {XP:(Str→Option Value)→Heap→Prop} {d:DefRec} {kwd:List (Str × PySem.Expr)} (hdef:defOf qV (rw_il0090_01).row.name=some (d,kwd)):
    WalkO qV loose XP (Hook.says (kmHook K asK as_ok [802,95,78])) (rw_il0090_01).row.toRowW d kwd (fun f vs=>PySem.call f vs):=by
  intro w s₀ s₁ mg mb G Y fa o pm cd doc dV kV ho hd hcd hD hmg hg args vals as hpre hlay hrd hwl hlo
  have hT8:=km_tabs_of Y
  have X:=km_in_of Y
  refine Ground.open G ?_
  intro T B D TE TW
  have hname:d.name=Str.ofString "law":=defOf_name hdef
  rw [hname] at hmg
  have e9:=mg_of (n:=Str.ofString "law") (v:= .ref 902) X T.g (by kernel_rfl)
  rw [hmg] at e9
  cases e9
  clear hd hcd hD hmg ho hdef hname
  wrow_args hpre hlay hrd hwl hlo
  rename Heap.IsList _ _ _=>hl
  rename IntsAre _ _=>hI
  rename ¬_<_=>hn
  have hT9:TabsAt [(806,802),(99,95),(82,78)] s₁.heap:=List.forall_mem_cons.mpr ⟨⟨codeHd_of_K (c:=806) (P:=802) X (by kernel_rfl),hT8 802 (by k_mem)⟩,List.forall_mem_cons.mpr ⟨⟨codeHd_of_K (c:=99) (P:=95) X (by kernel_rfl),hT8 95 (by k_mem)⟩,List.forall_mem_cons.mpr ⟨⟨codeHd_of_K (c:=82) (P:=78) X (by kernel_rfl),hT8 78 (by k_mem)⟩,fun _ h=>nomatch h⟩⟩⟩
  have hz:=IntsAre.length hI
  have hl':=ghost_list hT9 hl
  have hX':=ghost_K (K:=K w.params) hT9 X (by kernel_rfl)
  have hT':=ghost_top hT9 T
  refine c_law w hX' hT' (hT8 802 (by k_mem)) (hT8 95 (by k_mem)) (hT8 78 (by k_mem)) hl' (allInt_of hI) (by omega) hg fun h' tk' gs' hG e8 e9 e7 kk=>?_
  refine ⟨.inl ⟨_,_,_,rfl,raisesW_false (by wrow_none_raised),ReadsW.bool true,postW_of (by wrow_shape) (by wtm_val) (by w_fin),unshared_nil⟩,old_of hT9 ?_ ?_,rfl,hG⟩
  · intro q hq
    simp only [List.mem_cons,List.not_mem_nil,or_false] at hq
    rcases hq with rfl|rfl|rfl
    · exact e8
    · exact e9
    · exact e7
  · intro b o hb e
    simp only [List.map_cons,List.map_nil,List.mem_cons,List.not_mem_nil,or_false,not_or] at hb
    exact kk b o hb.1 hb.2.1 hb.2.2 e
end Mine
end
section
open PySem PySem.W PyProof.Rows
namespace MineH
theorem law_row (k1:rw_il0090_01.row.wellSaid=true):rw_il0090_01.row.Holds:=by
  obtain ⟨d,kwd,h1,h2,h3⟩:=h_def
  exact holds_open (r:=rw_il0090_01.row) (q:=Mine.qV) (loose:=looseN) (Xt:=lookX) (XP:=XL Mine.qV []) (Yf:=Hook.obs lawH) (Ya:=Hook.val lawH) (YP:=Hook.says lawH) (N:=12174) h_left (Hook.of lawH) (Hook.keeps lawH) (fun s e=>xl_of s (Bool.and_eq_true_iff.mp e).1) XL.keeps h1 h2 h3
    (fun s e=>recFacts_of (Bool.and_eq_true_iff.mp e).2) h_wr k1 h_ok h_bare h_wit (Mine.law_hc h1)
end MineH
end
end
theorem PySem.Challenge.cw_il0090_01_holds : PySem.Challenge.rw_il0090_01.Holds :=
  MineH.h_said' MineH.law_row
