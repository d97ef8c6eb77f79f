import PyProof.Rows.All
import Wide.All
import OpenK.AllK
import Wide.FinOn
import PySem.Challenge.RW_br5015_01
open PySem PySem.W PySem.Calls PyProof.Rows
set_option Elab.async false
set_option maxRecDepth 100000
set_option maxHeartbeats 8000000
set_option linter.all false
namespace Mine

/-! the text's statements, by their places -/
abbrev pw : Program := PySem.Challenge.pw_br5015_01
abbrev S (x : String) : Str := Str.ofString x
def st (i : Nat) : Stmt := (pw.main.body[i]?).getD (.Pass default)
def sub (i j : Nat) : Stmt := match st i with
  | .ClassDef _ _ _ b _ _ _ _ _ _ _ => (b[j]?).getD (.Pass default)
  | _ => .Pass default
def fparams : Stmt → Arguments
  | .FunctionDef _ a _ _ _ _ _ _ _ _ => a
  | _ => default
def fbody : Stmt → List Stmt
  | .FunctionDef _ _ b _ _ _ _ _ _ _ => b
  | _ => []
def fscope : Stmt → Scope
  | .FunctionDef _ _ _ _ _ _ s _ _ _ => s
  | _ => default

/-! the part of the heap behind the top that the walk needs -/
def K (P : Params) : Frag :=
  (nat_lit 2, ⟨.none, none, (.dict #[⟨PyData.keyHash P (S "type.__subclasses__.OSError.0"), .str (S "type.__subclasses__.OSError.0") 233, (.int (45) 0)⟩, ⟨PyData.keyHash P (S "type.__subclasses__.OSError.n"), .str (S "type.__subclasses__.OSError.n") 234, (.int (1) 0)⟩, ⟨PyData.keyHash P (S "type.__subclasses__.Exception.0"), .str (S "type.__subclasses__.Exception.0") 1620, (.int (1098) 0)⟩, ⟨PyData.keyHash P (S "type.__subclasses__.Exception.n"), .str (S "type.__subclasses__.Exception.n") 1621, (.int (1) 0)⟩, ⟨PyData.keyHash P (S "type.__subclasses__.EOFError.0"), .str (S "type.__subclasses__.EOFError.0") 1678, (.int (1141) 0)⟩, ⟨PyData.keyHash P (S "type.__subclasses__.EOFError.n"), .str (S "type.__subclasses__.EOFError.n") 1679, (.int (1) 0)⟩] 6), #[]⟩) ::
  (nat_lit 3, ⟨(.type "dict"), none, (.dict #[⟨PyData.keyHash P (S "__name__"), .str (S "__name__") 165, (.str (S "law_br5015_01") 1693)⟩, ⟨PyData.keyHash P (S "__doc__"), .str (S "__doc__") 166, .none⟩, ⟨PyData.keyHash P (S "__package__"), .str (S "__package__") 167, .none⟩, ⟨PyData.keyHash P (S "__loader__"), .str (S "__loader__") 168, (.builtin "__main__.__loader__#opaque")⟩, ⟨PyData.keyHash P (S "__spec__"), .str (S "__spec__") 169, .none⟩, ⟨PyData.keyHash P (S "__annotations__"), .str (S "__annotations__") 170, (.ref 6)⟩, ⟨PyData.keyHash P (S "__builtins__"), .str (S "__builtins__") 171, (.ref 4)⟩, ⟨PyData.keyHash P (S "__file__"), .str (S "__file__") 173, (.str (S "/claim/cut.py") 172)⟩, ⟨PyData.keyHash P (S "__cached__"), .str (S "__cached__") 174, .none⟩, ⟨PyData.keyHash P (S "_wall"), .str (S "_wall") 193, (.ref 21)⟩, ⟨PyData.keyHash P (S "SEEK_END"), .str (S "SEEK_END") 195, (.int (2) 194)⟩, ⟨PyData.keyHash P (S "PY2"), .str (S "PY2") 196, (.bool false)⟩, ⟨PyData.keyHash P (S "_whence"), .str (S "_whence") 206, (.ref 28)⟩, ⟨PyData.keyHash P (S "_index"), .str (S "_index") 214, (.ref 35)⟩, ⟨PyData.keyHash P (S "UnsupportedOperation"), .str (S "UnsupportedOperation") 236, (.ref 45)⟩, ⟨PyData.keyHash P (S "IOBase"), .str (S "IOBase") 268, (.ref 65)⟩, ⟨PyData.keyHash P (S "BufferedIOBase"), .str (S "BufferedIOBase") 286, (.ref 80)⟩, ⟨PyData.keyHash P (S "TextIOBase"), .str (S "TextIOBase") 304, (.ref 92)⟩, ⟨PyData.keyHash P (S "BytesIO"), .str (S "BytesIO") 566, (.ref 322)⟩, ⟨PyData.keyHash P (S "StringIO"), .str (S "StringIO") 853, (.ref 569)⟩, ⟨PyData.keyHash P (S "KaitaiStruct"), .str (S "KaitaiStruct") 931, (.ref 615)⟩, ⟨PyData.keyHash P (S "KaitaiStream"), .str (S "KaitaiStream") 1552, (.ref 1047)⟩, ⟨PyData.keyHash P (S "WriteBackHandler"), .str (S "WriteBackHandler") 1591, (.ref 1075)⟩, ⟨PyData.keyHash P (S "KaitaiStructError"), .str (S "KaitaiStructError") 1623, (.ref 1098)⟩, ⟨PyData.keyHash P (S "InvalidArgumentError"), .str (S "InvalidArgumentError") 1649, (.ref 1120)⟩, ⟨PyData.keyHash P (S "EndOfStreamError"), .str (S "EndOfStreamError") 1681, (.ref 1141)⟩, ⟨PyData.keyHash P (S "hand_back"), .str (S "hand_back") 1692, (.ref 1150)⟩, ⟨PyData.keyHash P (S "_law_handler"), .str (S "_law_handler") 1712, (.ref 1157)⟩, ⟨PyData.keyHash P (S "_law_called"), .str (S "_law_called") 1727, (.ref 1164)⟩, ⟨PyData.keyHash P (S "_law_walk"), .str (S "_law_walk") 1743, (.ref 1171)⟩, ⟨PyData.keyHash P (S "_law_ask"), .str (S "_law_ask") 1752, (.ref 1178)⟩, ⟨PyData.keyHash P (S "law"), .str (S "law") 1758, (.ref 1183)⟩] 32), #[]⟩) ::
  (nat_lit 27, ⟨(.type "code"), none, (.fields #[(.str (S "_whence") 199), (.str (S "_whence") 200), (.str (S "/claim/cut.py") 201), (.int (7) 0), (.int (2) 0), (.int (0) 0), (.int (0) 0), (.int (3) 0), (.ref 22), (.bool true), (.int (181) 0), (.ref 23), .none, (.ref 24), (.ref 25), (.ref 26), (.int (204) 0), (.int (7) 0), (.str (S "/claim/cut.py") 205)]), #[]⟩) ::
  (nat_lit 28, ⟨(.type "function"), none, (.func { name := (S "_whence"), qualname := (S "_whence"), params := fparams (st 4), body := .stmts (fbody (st 4)), scope := fscope (st 4), globals := 3, closure := [], defaults := .none, kwdefaults := .none, doc := .none, pyModule := (.str (S "io") 197), annotations := none, code := (.ref 27), closureTuple := .none, builtins := 0 }), #[]⟩) ::
  (nat_lit 34, ⟨(.type "code"), none, (.fields #[(.str (S "_index") 207), (.str (S "_index") 208), (.str (S "/claim/cut.py") 209), (.int (12) 0), (.int (2) 0), (.int (0) 0), (.int (0) 0), (.int (3) 0), (.ref 29), (.bool true), (.int (181) 0), (.ref 30), .none, (.ref 31), (.ref 32), (.ref 33), (.int (212) 0), (.int (12) 0), (.str (S "/claim/cut.py") 213)]), #[]⟩) ::
  (nat_lit 35, ⟨(.type "function"), none, (.func { name := (S "_index"), qualname := (S "_index"), params := fparams (st 5), body := .stmts (fbody (st 5)), scope := fscope (st 5), globals := 3, closure := [], defaults := .none, kwdefaults := .none, doc := .none, pyModule := (.str (S "io") 197), annotations := none, code := (.ref 34), closureTuple := .none, builtins := 0 }), #[]⟩) ::
  (nat_lit 61, ⟨(.type "code"), none, (.fields #[(.str (S "__new__") 251), (.str (S "IOBase.__new__") 252), (.str (S "/claim/cut.py") 253), (.int (24) 0), (.int (1) 0), (.int (1) 0), (.int (0) 0), (.int (15) 0), (.ref 56), (.bool true), (.int (181) 0), (.ref 57), .none, (.ref 58), (.ref 59), (.ref 60), (.int (257) 0), (.int (24) 0), (.str (S "/claim/cut.py") 258)]), #[]⟩) ::
  (nat_lit 62, ⟨(.type "function"), none, (.func { name := (S "__new__"), qualname := (S "IOBase.__new__"), params := fparams (sub 7 1), body := .stmts (fbody (sub 7 1)), scope := fscope (sub 7 1), globals := 3, closure := [], defaults := .none, kwdefaults := .none, doc := .none, pyModule := (.str (S "io") 197), annotations := none, code := (.ref 61), closureTuple := .none, builtins := 0 }), #[]⟩) ::
  (nat_lit 64, ⟨(.type "dict"), none, (.dict #[⟨PyData.keyHash P (S "__module__"), .str (S "__module__") 244, (.str (S "io") 249)⟩, ⟨PyData.keyHash P (S "__firstlineno__"), .str (S "__firstlineno__") 248, (.int (21) 247)⟩, ⟨PyData.keyHash P (S "__new__"), .str (S "__new__") 259, (.ref 66)⟩, ⟨PyData.keyHash P (S "__static_attributes__"), .str (S "__static_attributes__") 260, (.ref 63)⟩, ⟨PyData.keyHash P (S "__dict__"), .str (S "__dict__") 263, (.ref 67)⟩, ⟨PyData.keyHash P (S "__weakref__"), .str (S "__weakref__") 265, (.ref 68)⟩, ⟨PyData.keyHash P (S "__doc__"), .str (S "__doc__") 266, .none⟩] 4), #[]⟩) ::
  (nat_lit 65, ⟨(.type "type"), none, (.cls { name := (S "IOBase"), bases := [(.type "object")], mro := [(.ref 65), (.type "object")], ns := 64, qualname := (S "IOBase"), hasDict := true, slotNames := [], subclasses := [(.ref 80), (.ref 92)], abstract := false, collection := none, hasDel := false }), #[none, none, (some (.str (S "IOBase") 237)), (some (.str (S "IOBase") 245)), (some .none), (some (.bool true))]⟩) ::
  (nat_lit 66, ⟨(.type "staticmethod"), none, (.fields #[(.ref 62)]), #[]⟩) ::
  (nat_lit 67, ⟨(.type "getset_descriptor"), none, (.fields #[(.str (S "__dict__") 262), (.ref 65), (.builtin "function.__dict__"), (.builtin "function.__dict__#set")]), #[]⟩) ::
  (nat_lit 68, ⟨(.type "getset_descriptor"), none, (.fields #[(.str (S "__weakref__") 264), (.ref 65), (.builtin "ExceptionGroup.__weakref__"), .none]), #[]⟩) ::
  (nat_lit 79, ⟨(.type "dict"), none, (.dict #[⟨PyData.keyHash P (S "__module__"), .str (S "__module__") 276, (.str (S "io") 281)⟩, ⟨PyData.keyHash P (S "__firstlineno__"), .str (S "__firstlineno__") 280, (.int (28) 279)⟩, ⟨PyData.keyHash P (S "__static_attributes__"), .str (S "__static_attributes__") 283, (.ref 78)⟩, ⟨PyData.keyHash P (S "__doc__"), .str (S "__doc__") 284, .none⟩] 2), #[]⟩) ::
  (nat_lit 80, ⟨(.type "type"), none, (.cls { name := (S "BufferedIOBase"), bases := [(.ref 65)], mro := [(.ref 80), (.ref 65), (.type "object")], ns := 79, qualname := (S "BufferedIOBase"), hasDict := true, slotNames := [], subclasses := [(.ref 322)], abstract := false, collection := none, hasDel := false }), #[(some (.ref 71)), none, (some (.str (S "BufferedIOBase") 269)), (some (.str (S "BufferedIOBase") 277)), (some .none), (some (.bool true))]⟩) ::
  (nat_lit 102, ⟨(.type "tuple"), none, (.seq #[.none] 0), #[]⟩) ::
  (nat_lit 108, ⟨(.type "code"), none, (.fields #[(.str (S "__init__") 319), (.str (S "BytesIO.__init__") 320), (.str (S "/claim/cut.py") 321), (.int (35) 0), (.int (2) 0), (.int (0) 0), (.int (0) 0), (.int (3) 0), (.ref 103), (.bool true), (.int (181) 0), (.ref 104), .none, (.ref 105), (.ref 106), (.ref 107), (.int (324) 0), (.int (35) 0), (.str (S "/claim/cut.py") 325)]), #[]⟩) ::
  (nat_lit 109, ⟨(.type "function"), none, (.func { name := (S "__init__"), qualname := (S "BytesIO.__init__"), params := fparams (sub 10 1), body := .stmts (fbody (sub 10 1)), scope := fscope (sub 10 1), globals := 3, closure := [], defaults := (.ref 102), kwdefaults := .none, doc := .none, pyModule := (.str (S "io") 197), annotations := none, code := (.ref 108), closureTuple := .none, builtins := 0 }), #[]⟩) ::
  (nat_lit 115, ⟨(.type "code"), none, (.fields #[(.str (S "__check") 327), (.str (S "BytesIO.__check") 328), (.str (S "/claim/cut.py") 329), (.int (41) 0), (.int (1) 0), (.int (0) 0), (.int (0) 0), (.int (3) 0), (.ref 110), (.bool true), (.int (181) 0), (.ref 111), .none, (.ref 112), (.ref 113), (.ref 114), (.int (331) 0), (.int (41) 0), (.str (S "/claim/cut.py") 332)]), #[]⟩) ::
  (nat_lit 116, ⟨(.type "function"), none, (.func { name := (S "__check"), qualname := (S "BytesIO.__check"), params := fparams (sub 10 2), body := .stmts (fbody (sub 10 2)), scope := fscope (sub 10 2), globals := 3, closure := [], defaults := .none, kwdefaults := .none, doc := .none, pyModule := (.str (S "io") 197), annotations := none, code := (.ref 115), closureTuple := .none, builtins := 0 }), #[]⟩) ::
  (nat_lit 221, ⟨(.type "code"), none, (.fields #[(.str (S "tell") 438), (.str (S "BytesIO.tell") 439), (.str (S "/claim/cut.py") 440), (.int (103) 0), (.int (1) 0), (.int (0) 0), (.int (0) 0), (.int (3) 0), (.ref 216), (.bool true), (.int (181) 0), (.ref 217), .none, (.ref 218), (.ref 219), (.ref 220), (.int (442) 0), (.int (103) 0), (.str (S "/claim/cut.py") 443)]), #[]⟩) ::
  (nat_lit 222, ⟨(.type "function"), none, (.func { name := (S "tell"), qualname := (S "BytesIO.tell"), params := fparams (sub 10 17), body := .stmts (fbody (sub 10 17)), scope := fscope (sub 10 17), globals := 3, closure := [], defaults := .none, kwdefaults := .none, doc := .none, pyModule := (.str (S "io") 197), annotations := none, code := (.ref 221), closureTuple := .none, builtins := 0 }), #[]⟩) ::
  (nat_lit 223, ⟨(.type "tuple"), none, (.seq #[(.int (0) 445)] 0), #[]⟩) ::
  (nat_lit 229, ⟨(.type "code"), none, (.fields #[(.str (S "seek") 446), (.str (S "BytesIO.seek") 447), (.str (S "/claim/cut.py") 448), (.int (107) 0), (.int (3) 0), (.int (3) 0), (.int (0) 0), (.int (3) 0), (.ref 224), (.bool true), (.int (181) 0), (.ref 225), .none, (.ref 226), (.ref 227), (.ref 228), (.int (452) 0), (.int (107) 0), (.str (S "/claim/cut.py") 453)]), #[]⟩) ::
  (nat_lit 230, ⟨(.type "function"), none, (.func { name := (S "seek"), qualname := (S "BytesIO.seek"), params := fparams (sub 10 18), body := .stmts (fbody (sub 10 18)), scope := fscope (sub 10 18), globals := 3, closure := [], defaults := (.ref 223), kwdefaults := .none, doc := .none, pyModule := (.str (S "io") 197), annotations := none, code := (.ref 229), closureTuple := .none, builtins := 0 }), #[]⟩) ::
  (nat_lit 320, ⟨(.type "tuple"), none, (.seq #[(.str (S "__buf") 561), (.str (S "__pos") 562)] 0), #[]⟩) ::
  (nat_lit 321, ⟨(.type "dict"), none, (.dict #[⟨PyData.keyHash P (S "__module__"), .str (S "__module__") 312, (.str (S "_io") 317)⟩, ⟨PyData.keyHash P (S "__firstlineno__"), .str (S "__firstlineno__") 316, (.int (32) 315)⟩, ⟨PyData.keyHash P (S "__init__"), .str (S "__init__") 326, (.ref 109)⟩, ⟨PyData.keyHash P (S "_BytesIO__check"), .str (S "_BytesIO__check") 333, (.ref 116)⟩, ⟨PyData.keyHash P (S "_BytesIO__line"), .str (S "_BytesIO__line") 344, (.ref 123)⟩, ⟨PyData.keyHash P (S "closed"), .str (S "closed") 352, (.ref 131)⟩, ⟨PyData.keyHash P (S "close"), .str (S "close") 359, (.ref 138)⟩, ⟨PyData.keyHash P (S "__enter__"), .str (S "__enter__") 366, (.ref 145)⟩, ⟨PyData.keyHash P (S "__exit__"), .str (S "__exit__") 374, (.ref 152)⟩, ⟨PyData.keyHash P (S "readable"), .str (S "readable") 381, (.ref 159)⟩, ⟨PyData.keyHash P (S "writable"), .str (S "writable") 388, (.ref 166)⟩, ⟨PyData.keyHash P (S "seekable"), .str (S "seekable") 395, (.ref 173)⟩, ⟨PyData.keyHash P (S "isatty"), .str (S "isatty") 402, (.ref 180)⟩, ⟨PyData.keyHash P (S "flush"), .str (S "flush") 409, (.ref 187)⟩, ⟨PyData.keyHash P (S "fileno"), .str (S "fileno") 416, (.ref 194)⟩, ⟨PyData.keyHash P (S "detach"), .str (S "detach") 423, (.ref 201)⟩, ⟨PyData.keyHash P (S "getvalue"), .str (S "getvalue") 430, (.ref 208)⟩, ⟨PyData.keyHash P (S "getbuffer"), .str (S "getbuffer") 437, (.ref 215)⟩, ⟨PyData.keyHash P (S "tell"), .str (S "tell") 444, (.ref 222)⟩, ⟨PyData.keyHash P (S "seek"), .str (S "seek") 454, (.ref 230)⟩, ⟨PyData.keyHash P (S "truncate"), .str (S "truncate") 462, (.ref 238)⟩, ⟨PyData.keyHash P (S "read"), .str (S "read") 474, (.ref 246)⟩, ⟨PyData.keyHash P (S "read1"), .str (S "read1") 484, (.ref 254)⟩, ⟨PyData.keyHash P (S "readinto"), .str (S "readinto") 494, (.ref 261)⟩, ⟨PyData.keyHash P (S "readinto1"), .str (S "readinto1") 502, (.ref 268)⟩, ⟨PyData.keyHash P (S "readline"), .str (S "readline") 512, (.ref 276)⟩, ⟨PyData.keyHash P (S "readlines"), .str (S "readlines") 520, (.ref 284)⟩, ⟨PyData.keyHash P (S "__iter__"), .str (S "__iter__") 527, (.ref 291)⟩, ⟨PyData.keyHash P (S "__next__"), .str (S "__next__") 535, (.ref 298)⟩, ⟨PyData.keyHash P (S "write"), .str (S "write") 545, (.ref 305)⟩, ⟨PyData.keyHash P (S "writelines"), .str (S "writelines") 553, (.ref 312)⟩, ⟨PyData.keyHash P (S "__repr__"), .str (S "__repr__") 560, (.ref 319)⟩, ⟨PyData.keyHash P (S "__static_attributes__"), .str (S "__static_attributes__") 563, (.ref 320)⟩, ⟨PyData.keyHash P (S "__doc__"), .str (S "__doc__") 564, .none⟩] 2), #[]⟩) ::
  (nat_lit 322, ⟨(.type "type"), none, (.cls { name := (S "BytesIO"), bases := [(.ref 80)], mro := [(.ref 322), (.ref 80), (.ref 65), (.type "object")], ns := 321, qualname := (S "BytesIO"), hasDict := true, slotNames := [], subclasses := [], abstract := false, collection := none, hasDel := false }), #[(some (.ref 95)), none, (some (.str (S "BytesIO") 305)), (some (.str (S "BytesIO") 313)), (some .none), (some (.bool true))]⟩) ::
  (nat_lit 584, ⟨(.type "code"), none, (.fields #[(.str (S "__init__") 868), (.str (S "KaitaiStruct.__init__") 869), (.str (S "/claim/cut.py") 870), (.int (410) 0), (.int (2) 0), (.int (0) 0), (.int (0) 0), (.int (3) 0), (.ref 579), (.bool true), (.int (181) 0), (.ref 580), .none, (.ref 581), (.ref 582), (.ref 583), (.int (873) 0), (.int (410) 0), (.str (S "/claim/cut.py") 874)]), #[]⟩) ::
  (nat_lit 585, ⟨(.type "function"), none, (.func { name := (S "__init__"), qualname := (S "KaitaiStruct.__init__"), params := fparams (sub 13 0), body := .stmts (fbody (sub 13 0)), scope := fscope (sub 13 0), globals := 3, closure := [], defaults := .none, kwdefaults := .none, doc := .none, pyModule := (.str (S "kaitaistruct") 854), annotations := none, code := (.ref 584), closureTuple := .none, builtins := 0 }), #[]⟩) ::
  (nat_lit 598, ⟨(.type "code"), none, (.fields #[(.str (S "from_bytes") 883), (.str (S "KaitaiStruct.from_bytes") 884), (.str (S "/claim/cut.py") 885), (.int (416) 0), (.int (2) 0), (.int (0) 0), (.int (0) 0), (.int (3) 0), (.ref 593), (.bool true), (.int (181) 0), (.ref 594), .none, (.ref 595), (.ref 596), (.ref 597), (.int (888) 0), (.int (416) 0), (.str (S "/claim/cut.py") 889)]), #[]⟩) ::
  (nat_lit 599, ⟨(.type "function"), none, (.func { name := (S "from_bytes"), qualname := (S "KaitaiStruct.from_bytes"), params := fparams (sub 13 2), body := .stmts (fbody (sub 13 2)), scope := fscope (sub 13 2), globals := 3, closure := [], defaults := .none, kwdefaults := .none, doc := .none, pyModule := (.str (S "kaitaistruct") 854), annotations := (some 602), code := (.ref 598), closureTuple := .none, builtins := 0 }), #[]⟩) ::
  (nat_lit 600, ⟨(.type "dict"), none, (.dict #[⟨PyData.keyHash P (S "__module__"), .str (S "__module__") 891, (.str (S "kaitaistruct") 854)⟩, ⟨PyData.keyHash P (S "__name__"), .str (S "__name__") 894, (.str (S "from_bytes") 893)⟩, ⟨PyData.keyHash P (S "__qualname__"), .str (S "__qualname__") 897, (.str (S "KaitaiStruct.from_bytes") 896)⟩, ⟨PyData.keyHash P (S "__doc__"), .str (S "__doc__") 899, .none⟩, ⟨PyData.keyHash P (S "__annotations__"), .str (S "__annotations__") 901, (.ref 602)⟩] 5), #[]⟩) ::
  (nat_lit 601, ⟨(.type "classmethod"), (some 600), (.fields #[(.ref 599), (.bool false)]), #[]⟩) ::
  (nat_lit 613, ⟨(.type "tuple"), none, (.seq #[(.str (S "_io") 923)] 0), #[]⟩) ::
  (nat_lit 614, ⟨(.type "dict"), none, (.dict #[⟨PyData.keyHash P (S "__module__"), .str (S "__module__") 863, (.str (S "kaitaistruct") 854)⟩, ⟨PyData.keyHash P (S "__firstlineno__"), .str (S "__firstlineno__") 867, (.int (408) 866)⟩, ⟨PyData.keyHash P (S "__init__"), .str (S "__init__") 875, (.ref 585)⟩, ⟨PyData.keyHash P (S "close"), .str (S "close") 882, (.ref 592)⟩, ⟨PyData.keyHash P (S "from_bytes"), .str (S "from_bytes") 902, (.ref 601)⟩, ⟨PyData.keyHash P (S "from_io"), .str (S "from_io") 922, (.ref 611)⟩, ⟨PyData.keyHash P (S "__static_attributes__"), .str (S "__static_attributes__") 924, (.ref 613)⟩, ⟨PyData.keyHash P (S "__dict__"), .str (S "__dict__") 926, (.ref 616)⟩, ⟨PyData.keyHash P (S "__weakref__"), .str (S "__weakref__") 928, (.ref 617)⟩, ⟨PyData.keyHash P (S "__doc__"), .str (S "__doc__") 929, .none⟩] 4), #[]⟩) ::
  (nat_lit 615, ⟨(.type "type"), none, (.cls { name := (S "KaitaiStruct"), bases := [(.type "object")], mro := [(.ref 615), (.type "object")], ns := 614, qualname := (S "KaitaiStruct"), hasDict := true, slotNames := [], subclasses := [], abstract := false, collection := none, hasDel := false }), #[(some (.ref 572)), none, (some (.str (S "KaitaiStruct") 856)), (some (.str (S "KaitaiStruct") 864)), (some (.builtin "object.__new__")), (some (.bool true))]⟩) ::
  (nat_lit 616, ⟨(.type "getset_descriptor"), none, (.fields #[(.str (S "__dict__") 925), (.ref 615), (.builtin "function.__dict__"), (.builtin "function.__dict__#set")]), #[]⟩) ::
  (nat_lit 617, ⟨(.type "getset_descriptor"), none, (.fields #[(.str (S "__weakref__") 927), (.ref 615), (.builtin "ExceptionGroup.__weakref__"), .none]), #[]⟩) ::
  (nat_lit 632, ⟨(.type "code"), none, (.fields #[(.str (S "__init__") 944), (.str (S "KaitaiStream.__init__") 945), (.str (S "/claim/cut.py") 946), (.int (425) 0), (.int (2) 0), (.int (0) 0), (.int (0) 0), (.int (3) 0), (.ref 627), (.bool true), (.int (181) 0), (.ref 628), .none, (.ref 629), (.ref 630), (.ref 631), (.int (949) 0), (.int (425) 0), (.str (S "/claim/cut.py") 950)]), #[]⟩) ::
  (nat_lit 633, ⟨(.type "function"), none, (.func { name := (S "__init__"), qualname := (S "KaitaiStream.__init__"), params := fparams (sub 14 0), body := .stmts (fbody (sub 14 0)), scope := fscope (sub 14 0), globals := 3, closure := [], defaults := .none, kwdefaults := .none, doc := .none, pyModule := (.str (S "kaitaistruct") 854), annotations := none, code := (.ref 632), closureTuple := .none, builtins := 0 }), #[]⟩) ::
  (nat_lit 653, ⟨(.type "code"), none, (.fields #[(.str (S "seek") 966), (.str (S "KaitaiStream.seek") 967), (.str (S "/claim/cut.py") 968), (.int (449) 0), (.int (2) 0), (.int (0) 0), (.int (0) 0), (.int (3) 0), (.ref 648), (.bool true), (.int (181) 0), (.ref 649), .none, (.ref 650), (.ref 651), (.ref 652), (.int (971) 0), (.int (449) 0), (.str (S "/claim/cut.py") 972)]), #[]⟩) ::
  (nat_lit 654, ⟨(.type "function"), none, (.func { name := (S "seek"), qualname := (S "KaitaiStream.seek"), params := fparams (sub 14 3), body := .stmts (fbody (sub 14 3)), scope := fscope (sub 14 3), globals := 3, closure := [], defaults := .none, kwdefaults := .none, doc := .none, pyModule := (.str (S "kaitaistruct") 854), annotations := none, code := (.ref 653), closureTuple := .none, builtins := 0 }), #[]⟩) ::
  (nat_lit 660, ⟨(.type "code"), none, (.fields #[(.str (S "pos") 974), (.str (S "KaitaiStream.pos") 975), (.str (S "/claim/cut.py") 976), (.int (458) 0), (.int (1) 0), (.int (0) 0), (.int (0) 0), (.int (3) 0), (.ref 655), (.bool true), (.int (181) 0), (.ref 656), .none, (.ref 657), (.ref 658), (.ref 659), (.int (978) 0), (.int (458) 0), (.str (S "/claim/cut.py") 979)]), #[]⟩) ::
  (nat_lit 661, ⟨(.type "function"), none, (.func { name := (S "pos"), qualname := (S "KaitaiStream.pos"), params := fparams (sub 14 4), body := .stmts (fbody (sub 14 4)), scope := fscope (sub 14 4), globals := 3, closure := [], defaults := .none, kwdefaults := .none, doc := .none, pyModule := (.str (S "kaitaistruct") 854), annotations := none, code := (.ref 660), closureTuple := .none, builtins := 0 }), #[]⟩) ::
  (nat_lit 667, ⟨(.type "code"), none, (.fields #[(.str (S "size") 981), (.str (S "KaitaiStream.size") 982), (.str (S "/claim/cut.py") 983), (.int (461) 0), (.int (1) 0), (.int (0) 0), (.int (0) 0), (.int (3) 0), (.ref 662), (.bool true), (.int (181) 0), (.ref 663), .none, (.ref 664), (.ref 665), (.ref 666), (.int (988) 0), (.int (461) 0), (.str (S "/claim/cut.py") 989)]), #[]⟩) ::
  (nat_lit 668, ⟨(.type "function"), none, (.func { name := (S "size"), qualname := (S "KaitaiStream.size"), params := fparams (sub 14 5), body := .stmts (fbody (sub 14 5)), scope := fscope (sub 14 5), globals := 3, closure := [], defaults := .none, kwdefaults := .none, doc := .none, pyModule := (.str (S "kaitaistruct") 854), annotations := none, code := (.ref 667), closureTuple := .none, builtins := 0 }), #[]⟩) ::
  (nat_lit 723, ⟨(.type "code"), none, (.fields #[(.str (S "align_to_byte") 1040), (.str (S "KaitaiStream.align_to_byte") 1041), (.str (S "/claim/cut.py") 1042), (.int (491) 0), (.int (1) 0), (.int (0) 0), (.int (0) 0), (.int (3) 0), (.ref 718), (.bool true), (.int (181) 0), (.ref 719), .none, (.ref 720), (.ref 721), (.ref 722), (.int (1044) 0), (.int (491) 0), (.str (S "/claim/cut.py") 1045)]), #[]⟩) ::
  (nat_lit 724, ⟨(.type "function"), none, (.func { name := (S "align_to_byte"), qualname := (S "KaitaiStream.align_to_byte"), params := fparams (sub 14 13), body := .stmts (fbody (sub 14 13)), scope := fscope (sub 14 13), globals := 3, closure := [], defaults := .none, kwdefaults := .none, doc := .none, pyModule := (.str (S "kaitaistruct") 854), annotations := none, code := (.ref 723), closureTuple := .none, builtins := 0 }), #[]⟩) ::
  (nat_lit 1028, ⟨(.type "code"), none, (.fields #[(.str (S "add_child_stream") 1511), (.str (S "KaitaiStream.add_child_stream") 1512), (.str (S "/claim/cut.py") 1513), (.int (632) 0), (.int (2) 0), (.int (0) 0), (.int (0) 0), (.int (3) 0), (.ref 1023), (.bool true), (.int (181) 0), (.ref 1024), .none, (.ref 1025), (.ref 1026), (.ref 1027), (.int (1516) 0), (.int (632) 0), (.str (S "/claim/cut.py") 1517)]), #[]⟩) ::
  (nat_lit 1029, ⟨(.type "function"), none, (.func { name := (S "add_child_stream"), qualname := (S "KaitaiStream.add_child_stream"), params := fparams (sub 14 51), body := .stmts (fbody (sub 14 51)), scope := fscope (sub 14 51), globals := 3, closure := [], defaults := .none, kwdefaults := .none, doc := .none, pyModule := (.str (S "kaitaistruct") 854), annotations := none, code := (.ref 1028), closureTuple := .none, builtins := 0 }), #[]⟩) ::
  (nat_lit 1030, ⟨(.type "tuple"), none, (.seq #[.none] 0), #[]⟩) ::
  (nat_lit 1036, ⟨(.type "code"), none, (.fields #[(.str (S "write_back_child_streams") 1519), (.str (S "KaitaiStream.write_back_child_streams") 1520), (.str (S "/claim/cut.py") 1521), (.int (635) 0), (.int (2) 0), (.int (0) 0), (.int (0) 0), (.int (3) 0), (.ref 1031), (.bool true), (.int (181) 0), (.ref 1032), .none, (.ref 1033), (.ref 1034), (.ref 1035), (.int (1526) 0), (.int (635) 0), (.str (S "/claim/cut.py") 1527)]), #[]⟩) ::
  (nat_lit 1037, ⟨(.type "function"), none, (.func { name := (S "write_back_child_streams"), qualname := (S "KaitaiStream.write_back_child_streams"), params := fparams (sub 14 52), body := .stmts (fbody (sub 14 52)), scope := fscope (sub 14 52), globals := 3, closure := [], defaults := (.ref 1030), kwdefaults := .none, doc := .none, pyModule := (.str (S "kaitaistruct") 854), annotations := none, code := (.ref 1036), closureTuple := .none, builtins := 0 }), #[]⟩) ::
  (nat_lit 1043, ⟨(.type "code"), none, (.fields #[(.str (S "_write_back") 1529), (.str (S "KaitaiStream._write_back") 1530), (.str (S "/claim/cut.py") 1531), (.int (644) 0), (.int (2) 0), (.int (0) 0), (.int (0) 0), (.int (3) 0), (.ref 1038), (.bool true), (.int (181) 0), (.ref 1039), .none, (.ref 1040), (.ref 1041), (.ref 1042), (.int (1534) 0), (.int (644) 0), (.str (S "/claim/cut.py") 1535)]), #[]⟩) ::
  (nat_lit 1044, ⟨(.type "function"), none, (.func { name := (S "_write_back"), qualname := (S "KaitaiStream._write_back"), params := fparams (sub 14 53), body := .stmts (fbody (sub 14 53)), scope := fscope (sub 14 53), globals := 3, closure := [], defaults := .none, kwdefaults := .none, doc := .none, pyModule := (.str (S "kaitaistruct") 854), annotations := none, code := (.ref 1043), closureTuple := .none, builtins := 0 }), #[]⟩) ::
  (nat_lit 1045, ⟨(.type "tuple"), none, (.seq #[(.str (S "_io") 1537), (.str (S "_size") 1538), (.str (S "bits") 1539), (.str (S "bits_le") 1540), (.str (S "bits_left") 1541), (.str (S "bits_write_mode") 1542), (.str (S "child_streams") 1543), (.str (S "write_back_handler") 1544)] 0), #[]⟩) ::
  (nat_lit 1046, ⟨(.type "dict"), none, (.dict #[⟨PyData.keyHash P (S "__module__"), .str (S "__module__") 939, (.str (S "kaitaistruct") 854)⟩, ⟨PyData.keyHash P (S "__firstlineno__"), .str (S "__firstlineno__") 943, (.int (423) 942)⟩, ⟨PyData.keyHash P (S "__init__"), .str (S "__init__") 951, (.ref 633)⟩, ⟨PyData.keyHash P (S "close"), .str (S "close") 958, (.ref 640)⟩, ⟨PyData.keyHash P (S "is_eof"), .str (S "is_eof") 965, (.ref 647)⟩, ⟨PyData.keyHash P (S "seek"), .str (S "seek") 973, (.ref 654)⟩, ⟨PyData.keyHash P (S "pos"), .str (S "pos") 980, (.ref 661)⟩, ⟨PyData.keyHash P (S "size"), .str (S "size") 990, (.ref 668)⟩, ⟨PyData.keyHash P (S "read_s1"), .str (S "read_s1") 997, (.ref 675)⟩, ⟨PyData.keyHash P (S "read_s4be"), .str (S "read_s4be") 1004, (.ref 682)⟩, ⟨PyData.keyHash P (S "read_s2le"), .str (S "read_s2le") 1011, (.ref 689)⟩, ⟨PyData.keyHash P (S "read_u1"), .str (S "read_u1") 1018, (.ref 696)⟩, ⟨PyData.keyHash P (S "read_u2be"), .str (S "read_u2be") 1025, (.ref 703)⟩, ⟨PyData.keyHash P (S "read_u8be"), .str (S "read_u8be") 1032, (.ref 710)⟩, ⟨PyData.keyHash P (S "read_u4le"), .str (S "read_u4le") 1039, (.ref 717)⟩, ⟨PyData.keyHash P (S "align_to_byte"), .str (S "align_to_byte") 1046, (.ref 724)⟩, ⟨PyData.keyHash P (S "read_bits_int_be"), .str (S "read_bits_int_be") 1054, (.ref 731)⟩, ⟨PyData.keyHash P (S "read_bits_int"), .str (S "read_bits_int") 1062, (.ref 738)⟩, ⟨PyData.keyHash P (S "read_bits_int_le"), .str (S "read_bits_int_le") 1070, (.ref 745)⟩, ⟨PyData.keyHash P (S "read_bytes"), .str (S "read_bytes") 1078, (.ref 752)⟩, ⟨PyData.keyHash P (S "_read_bytes_not_aligned"), .str (S "_read_bytes_not_aligned") 1086, (.ref 759)⟩, ⟨PyData.keyHash P (S "read_bytes_full"), .str (S "read_bytes_full") 1093, (.ref 766)⟩, ⟨PyData.keyHash P (S "read_bytes_term"), .str (S "read_bytes_term") 1104, (.ref 773)⟩, ⟨PyData.keyHash P (S "read_bytes_term_multi"), .str (S "read_bytes_term_multi") 1115, (.ref 780)⟩, ⟨PyData.keyHash P (S "ensure_fixed_contents"), .str (S "ensure_fixed_contents") 1123, (.ref 787)⟩, ⟨PyData.keyHash P (S "bytes_strip_right"), .str (S "bytes_strip_right") 1143, (.ref 796)⟩, ⟨PyData.keyHash P (S "bytes_terminate"), .str (S "bytes_terminate") 1164, (.ref 806)⟩, ⟨PyData.keyHash P (S "bytes_terminate_multi"), .str (S "bytes_terminate_multi") 1185, (.ref 816)⟩, ⟨PyData.keyHash P (S "_ensure_bytes_left_to_write"), .str (S "_ensure_bytes_left_to_write") 1196, (.ref 824)⟩, ⟨PyData.keyHash P (S "write_s1"), .str (S "write_s1") 1204, (.ref 831)⟩, ⟨PyData.keyHash P (S "write_s4be"), .str (S "write_s4be") 1212, (.ref 838)⟩, ⟨PyData.keyHash P (S "write_s2le"), .str (S "write_s2le") 1220, (.ref 845)⟩, ⟨PyData.keyHash P (S "write_u1"), .str (S "write_u1") 1228, (.ref 852)⟩, ⟨PyData.keyHash P (S "write_u2be"), .str (S "write_u2be") 1236, (.ref 859)⟩, ⟨PyData.keyHash P (S "write_u8be"), .str (S "write_u8be") 1244, (.ref 866)⟩, ⟨PyData.keyHash P (S "write_u4le"), .str (S "write_u4le") 1252, (.ref 873)⟩, ⟨PyData.keyHash P (S "write_align_to_byte"), .str (S "write_align_to_byte") 1260, (.ref 880)⟩, ⟨PyData.keyHash P (S "write_bits_int_be"), .str (S "write_bits_int_be") 1269, (.ref 887)⟩, ⟨PyData.keyHash P (S "write_bits_int_le"), .str (S "write_bits_int_le") 1278, (.ref 894)⟩, ⟨PyData.keyHash P (S "write_bytes"), .str (S "write_bytes") 1286, (.ref 901)⟩, ⟨PyData.keyHash P (S "_write_bytes_not_aligned"), .str (S "_write_bytes_not_aligned") 1295, (.ref 908)⟩, ⟨PyData.keyHash P (S "write_bytes_limit"), .str (S "write_bytes_limit") 1306, (.ref 915)⟩, ⟨PyData.keyHash P (S "process_xor_one"), .str (S "process_xor_one") 1326, (.ref 924)⟩, ⟨PyData.keyHash P (S "process_xor_many"), .str (S "process_xor_many") 1346, (.ref 934)⟩, ⟨PyData.keyHash P (S "process_rotate_left"), .str (S "process_rotate_left") 1367, (.ref 944)⟩, ⟨PyData.keyHash P (S "int_from_byte"), .str (S "int_from_byte") 1386, (.ref 954)⟩, ⟨PyData.keyHash P (S "byte_from_int"), .str (S "byte_from_int") 1405, (.ref 964)⟩, ⟨PyData.keyHash P (S "byte_array_index"), .str (S "byte_array_index") 1425, (.ref 974)⟩, ⟨PyData.keyHash P (S "byte_array_min"), .str (S "byte_array_min") 1444, (.ref 984)⟩, ⟨PyData.keyHash P (S "byte_array_max"), .str (S "byte_array_max") 1463, (.ref 994)⟩, ⟨PyData.keyHash P (S "byte_array_index_of"), .str (S "byte_array_index_of") 1483, (.ref 1004)⟩, ⟨PyData.keyHash P (S "resolve_enum"), .str (S "resolve_enum") 1503, (.ref 1014)⟩, ⟨PyData.keyHash P (S "to_byte_array"), .str (S "to_byte_array") 1510, (.ref 1022)⟩, ⟨PyData.keyHash P (S "add_child_stream"), .str (S "add_child_stream") 1518, (.ref 1029)⟩, ⟨PyData.keyHash P (S "write_back_child_streams"), .str (S "write_back_child_streams") 1528, (.ref 1037)⟩, ⟨PyData.keyHash P (S "_write_back"), .str (S "_write_back") 1536, (.ref 1044)⟩, ⟨PyData.keyHash P (S "__static_attributes__"), .str (S "__static_attributes__") 1545, (.ref 1045)⟩, ⟨PyData.keyHash P (S "__dict__"), .str (S "__dict__") 1547, (.ref 1048)⟩, ⟨PyData.keyHash P (S "__weakref__"), .str (S "__weakref__") 1549, (.ref 1049)⟩, ⟨PyData.keyHash P (S "__doc__"), .str (S "__doc__") 1550, .none⟩] 4), #[]⟩) ::
  (nat_lit 1047, ⟨(.type "type"), none, (.cls { name := (S "KaitaiStream"), bases := [(.type "object")], mro := [(.ref 1047), (.type "object")], ns := 1046, qualname := (S "KaitaiStream"), hasDict := true, slotNames := [], subclasses := [], abstract := false, collection := none, hasDel := false }), #[(some (.ref 620)), none, (some (.str (S "KaitaiStream") 932)), (some (.str (S "KaitaiStream") 940)), (some (.builtin "object.__new__")), (some (.bool true))]⟩) ::
  (nat_lit 1048, ⟨(.type "getset_descriptor"), none, (.fields #[(.str (S "__dict__") 1546), (.ref 1047), (.builtin "function.__dict__"), (.builtin "function.__dict__#set")]), #[]⟩) ::
  (nat_lit 1049, ⟨(.type "getset_descriptor"), none, (.fields #[(.str (S "__weakref__") 1548), (.ref 1047), (.builtin "ExceptionGroup.__weakref__"), .none]), #[]⟩) ::
  (nat_lit 1064, ⟨(.type "code"), none, (.fields #[(.str (S "__init__") 1565), (.str (S "WriteBackHandler.__init__") 1566), (.str (S "/claim/cut.py") 1567), (.int (648) 0), (.int (3) 0), (.int (0) 0), (.int (0) 0), (.int (3) 0), (.ref 1059), (.bool true), (.int (181) 0), (.ref 1060), .none, (.ref 1061), (.ref 1062), (.ref 1063), (.int (1571) 0), (.int (648) 0), (.str (S "/claim/cut.py") 1572)]), #[]⟩) ::
  (nat_lit 1065, ⟨(.type "function"), none, (.func { name := (S "__init__"), qualname := (S "WriteBackHandler.__init__"), params := fparams (sub 15 0), body := .stmts (fbody (sub 15 0)), scope := fscope (sub 15 0), globals := 3, closure := [], defaults := .none, kwdefaults := .none, doc := .none, pyModule := (.str (S "kaitaistruct") 854), annotations := none, code := (.ref 1064), closureTuple := .none, builtins := 0 }), #[]⟩) ::
  (nat_lit 1071, ⟨(.type "code"), none, (.fields #[(.str (S "write_back") 1574), (.str (S "WriteBackHandler.write_back") 1575), (.str (S "/claim/cut.py") 1576), (.int (652) 0), (.int (2) 0), (.int (0) 0), (.int (0) 0), (.int (3) 0), (.ref 1066), (.bool true), (.int (181) 0), (.ref 1067), .none, (.ref 1068), (.ref 1069), (.ref 1070), (.int (1579) 0), (.int (652) 0), (.str (S "/claim/cut.py") 1580)]), #[]⟩) ::
  (nat_lit 1072, ⟨(.type "function"), none, (.func { name := (S "write_back"), qualname := (S "WriteBackHandler.write_back"), params := fparams (sub 15 1), body := .stmts (fbody (sub 15 1)), scope := fscope (sub 15 1), globals := 3, closure := [], defaults := .none, kwdefaults := .none, doc := .none, pyModule := (.str (S "kaitaistruct") 854), annotations := none, code := (.ref 1071), closureTuple := .none, builtins := 0 }), #[]⟩) ::
  (nat_lit 1073, ⟨(.type "tuple"), none, (.seq #[(.str (S "handler") 1582), (.str (S "pos") 1583)] 0), #[]⟩) ::
  (nat_lit 1074, ⟨(.type "dict"), none, (.dict #[⟨PyData.keyHash P (S "__module__"), .str (S "__module__") 1560, (.str (S "kaitaistruct") 854)⟩, ⟨PyData.keyHash P (S "__firstlineno__"), .str (S "__firstlineno__") 1564, (.int (646) 1563)⟩, ⟨PyData.keyHash P (S "__init__"), .str (S "__init__") 1573, (.ref 1065)⟩, ⟨PyData.keyHash P (S "write_back"), .str (S "write_back") 1581, (.ref 1072)⟩, ⟨PyData.keyHash P (S "__static_attributes__"), .str (S "__static_attributes__") 1584, (.ref 1073)⟩, ⟨PyData.keyHash P (S "__dict__"), .str (S "__dict__") 1586, (.ref 1076)⟩, ⟨PyData.keyHash P (S "__weakref__"), .str (S "__weakref__") 1588, (.ref 1077)⟩, ⟨PyData.keyHash P (S "__doc__"), .str (S "__doc__") 1589, .none⟩] 4), #[]⟩) ::
  (nat_lit 1075, ⟨(.type "type"), none, (.cls { name := (S "WriteBackHandler"), bases := [(.type "object")], mro := [(.ref 1075), (.type "object")], ns := 1074, qualname := (S "WriteBackHandler"), hasDict := true, slotNames := [], subclasses := [], abstract := false, collection := none, hasDel := false }), #[(some (.ref 1052)), none, (some (.str (S "WriteBackHandler") 1553)), (some (.str (S "WriteBackHandler") 1561)), (some (.builtin "object.__new__")), (some (.bool true))]⟩) ::
  (nat_lit 1076, ⟨(.type "getset_descriptor"), none, (.fields #[(.str (S "__dict__") 1585), (.ref 1075), (.builtin "function.__dict__"), (.builtin "function.__dict__#set")]), #[]⟩) ::
  (nat_lit 1077, ⟨(.type "getset_descriptor"), none, (.fields #[(.str (S "__weakref__") 1587), (.ref 1075), (.builtin "ExceptionGroup.__weakref__"), .none]), #[]⟩) ::
  (nat_lit 1149, ⟨(.type "code"), none, (.fields #[(.str (S "hand_back") 1684), (.str (S "hand_back") 1685), (.str (S "/claim/cut.py") 1686), (.int (671) 0), (.int (3) 0), (.int (0) 0), (.int (0) 0), (.int (3) 0), (.ref 1144), (.bool true), (.int (181) 0), (.ref 1145), .none, (.ref 1146), (.ref 1147), (.ref 1148), (.int (1690) 0), (.int (671) 0), (.str (S "/claim/cut.py") 1691)]), #[]⟩) ::
  (nat_lit 1150, ⟨(.type "function"), none, (.func { name := (S "hand_back"), qualname := (S "hand_back"), params := fparams (st 20), body := .stmts (fbody (st 20)), scope := fscope (st 20), globals := 3, closure := [], defaults := .none, kwdefaults := .none, doc := .none, pyModule := (.str (S "kaitairows") 1682), annotations := none, code := (.ref 1149), closureTuple := .none, builtins := 0 }), #[]⟩) ::
  (nat_lit 1156, ⟨(.type "code"), none, (.fields #[(.str (S "_law_handler") 1695), (.str (S "_law_handler") 1696), (.str (S "/claim/cut.py") 1697), (.int (674) 0), (.int (6) 0), (.int (0) 0), (.int (0) 0), (.int (3) 0), (.ref 1151), (.bool true), (.int (181) 0), (.ref 1152), .none, (.ref 1153), (.ref 1154), (.ref 1155), (.int (1710) 0), (.int (674) 0), (.str (S "/claim/cut.py") 1711)]), #[]⟩) ::
  (nat_lit 1157, ⟨(.type "function"), none, (.func { name := (S "_law_handler"), qualname := (S "_law_handler"), params := fparams (st 22), body := .stmts (fbody (st 22)), scope := fscope (st 22), globals := 3, closure := [], defaults := .none, kwdefaults := .none, doc := .none, pyModule := (.str (S "law_br5015_01") 1693), annotations := none, code := (.ref 1156), closureTuple := .none, builtins := 0 }), #[]⟩) ::
  (nat_lit 1163, ⟨(.type "code"), none, (.fields #[(.str (S "_law_called") 1713), (.str (S "_law_called") 1714), (.str (S "/claim/cut.py") 1715), (.int (676) 0), (.int (7) 0), (.int (0) 0), (.int (0) 0), (.int (3) 0), (.ref 1158), (.bool true), (.int (181) 0), (.ref 1159), .none, (.ref 1160), (.ref 1161), (.ref 1162), (.int (1725) 0), (.int (676) 0), (.str (S "/claim/cut.py") 1726)]), #[]⟩) ::
  (nat_lit 1164, ⟨(.type "function"), none, (.func { name := (S "_law_called"), qualname := (S "_law_called"), params := fparams (st 23), body := .stmts (fbody (st 23)), scope := fscope (st 23), globals := 3, closure := [], defaults := .none, kwdefaults := .none, doc := .none, pyModule := (.str (S "law_br5015_01") 1693), annotations := none, code := (.ref 1163), closureTuple := .none, builtins := 0 }), #[]⟩) ::
  (nat_lit 1170, ⟨(.type "code"), none, (.fields #[(.str (S "_law_walk") 1728), (.str (S "_law_walk") 1729), (.str (S "/claim/cut.py") 1730), (.int (688) 0), (.int (8) 0), (.int (0) 0), (.int (0) 0), (.int (3) 0), (.ref 1165), (.bool true), (.int (181) 0), (.ref 1166), .none, (.ref 1167), (.ref 1168), (.ref 1169), (.int (1741) 0), (.int (688) 0), (.str (S "/claim/cut.py") 1742)]), #[]⟩) ::
  (nat_lit 1171, ⟨(.type "function"), none, (.func { name := (S "_law_walk"), qualname := (S "_law_walk"), params := fparams (st 24), body := .stmts (fbody (st 24)), scope := fscope (st 24), globals := 3, closure := [], defaults := .none, kwdefaults := .none, doc := .none, pyModule := (.str (S "law_br5015_01") 1693), annotations := none, code := (.ref 1170), closureTuple := .none, builtins := 0 }), #[]⟩) ::
  (nat_lit 1177, ⟨(.type "code"), none, (.fields #[(.str (S "_law_ask") 1744), (.str (S "_law_ask") 1745), (.str (S "/claim/cut.py") 1746), (.int (713) 0), (.int (2) 0), (.int (0) 0), (.int (0) 0), (.int (3) 0), (.ref 1172), (.bool true), (.int (181) 0), (.ref 1173), .none, (.ref 1174), (.ref 1175), (.ref 1176), (.int (1750) 0), (.int (713) 0), (.str (S "/claim/cut.py") 1751)]), #[]⟩) ::
  (nat_lit 1178, ⟨(.type "function"), none, (.func { name := (S "_law_ask"), qualname := (S "_law_ask"), params := fparams (st 25), body := .stmts (fbody (st 25)), scope := fscope (st 25), globals := 3, closure := [], defaults := .none, kwdefaults := .none, doc := .none, pyModule := (.str (S "law_br5015_01") 1693), annotations := none, code := (.ref 1177), closureTuple := .none, builtins := 0 }), #[]⟩) ::
  (nat_lit 1182, ⟨(.type "code"), none, (.fields #[(.str (S "law") 1753), (.str (S "law") 1754), (.str (S "/claim/cut.py") 1755), (.int (721) 0), (.int (1) 0), (.int (0) 0), (.int (0) 0), (.int (3) 0), (.ref 1179), (.bool true), (.int (181) 0), (.ref 1180), .none, .none, .none, (.ref 1181), (.int (1756) 0), (.int (721) 0), (.str (S "/claim/cut.py") 1757)]), #[]⟩) ::
  (nat_lit 1183, ⟨(.type "function"), none, (.func { name := (S "law"), qualname := (S "law"), params := fparams (st 26), body := .stmts (fbody (st 26)), scope := fscope (st 26), globals := 3, closure := [], defaults := .none, kwdefaults := .none, doc := .none, pyModule := (.str (S "law_br5015_01") 1693), annotations := none, code := (.ref 1182), closureTuple := .none, builtins := 0 }), #[]⟩) :: []
def kAddrs : List Addr := nat_lit 2 :: nat_lit 3 :: nat_lit 27 :: nat_lit 28 :: nat_lit 34 :: nat_lit 35 :: nat_lit 61 :: nat_lit 62 :: nat_lit 64 :: nat_lit 65 :: nat_lit 66 :: nat_lit 67 :: nat_lit 68 :: nat_lit 79 :: nat_lit 80 :: nat_lit 102 :: nat_lit 108 :: nat_lit 109 :: nat_lit 115 :: nat_lit 116 :: nat_lit 221 :: nat_lit 222 :: nat_lit 223 :: nat_lit 229 :: nat_lit 230 :: nat_lit 320 :: nat_lit 321 :: nat_lit 322 :: nat_lit 584 :: nat_lit 585 :: nat_lit 598 :: nat_lit 599 :: nat_lit 600 :: nat_lit 601 :: nat_lit 613 :: nat_lit 614 :: nat_lit 615 :: nat_lit 616 :: nat_lit 617 :: nat_lit 632 :: nat_lit 633 :: nat_lit 653 :: nat_lit 654 :: nat_lit 660 :: nat_lit 661 :: nat_lit 667 :: nat_lit 668 :: nat_lit 723 :: nat_lit 724 :: nat_lit 1028 :: nat_lit 1029 :: nat_lit 1030 :: nat_lit 1036 :: nat_lit 1037 :: nat_lit 1043 :: nat_lit 1044 :: nat_lit 1045 :: nat_lit 1046 :: nat_lit 1047 :: nat_lit 1048 :: nat_lit 1049 :: nat_lit 1064 :: nat_lit 1065 :: nat_lit 1071 :: nat_lit 1072 :: nat_lit 1073 :: nat_lit 1074 :: nat_lit 1075 :: nat_lit 1076 :: nat_lit 1077 :: nat_lit 1149 :: nat_lit 1150 :: nat_lit 1156 :: nat_lit 1157 :: nat_lit 1163 :: nat_lit 1164 :: nat_lit 1170 :: nat_lit 1171 :: nat_lit 1177 :: nat_lit 1178 :: nat_lit 1182 :: nat_lit 1183 :: []

def qv : Program := { pw with main := { pw.main with body := [st 26] } }
def loose : List Str := [S "_wall", S "SEEK_END", S "PY2", S "_whence", S "_index", S "UnsupportedOperation", S "IOBase", S "BufferedIOBase", S "TextIOBase", S "BytesIO", S "StringIO", S "KaitaiStruct", S "KaitaiStream", S "WriteBackHandler", S "KaitaiStructError", S "InvalidArgumentError", S "EndOfStreamError", S "hand_back", S "_law_handler", S "_law_called", S "_law_walk", S "_law_ask"]
def xt (s : Shared) : Bool := xlAt qv [] s && recOk [] s

/-! the top's run over a tree of objects -/
noncomputable def topRunT (tb : String → Option Builtin) (p : Program) (w : World) (n₀ : Nat) (ann : Option Value) : Nat → SharedT → Thread → Option SharedT
  | 0, _, _ => none
  | n + 1, s, t => match through t with
    | true => some s
    | false => match stepOk n₀ ann t with
      | false => none
      | true => match stepT (denote tb) p w s t with
        | some (s', t') => topRunT tb p w n₀ ann n s' t'
        | none => none
theorem topRun_of {tb : String → Option Builtin} {p : Program} {w : World} {n₀ : Nat} {ann : Option Value} : ∀ {n : Nat} {s s' : SharedT} {t : Thread}, topRunT tb p w n₀ ann n s t = some s' → topRun tb p w n₀ ann n s.abs t = some s'.abs
  | 0, _, _, _, h => by cases h
  | n + 1, s, s', t, h => by
    unfold topRunT at h
    unfold topRun
    cases ht : through t with
    | true => rw [ht] at h; cases h; rfl
    | false =>
      rw [ht] at h
      cases hk : stepOk n₀ ann t with
      | false => rw [hk] at h; cases h
      | true =>
        rw [hk] at h
        cases hs : stepT (denote tb) p w s t with
        | none => rw [hs] at h; cases h
        | some r => obtain ⟨s₂, t₂⟩ := r; rw [hs] at h; rw [stepT_spec hs]; exact topRun_of h

noncomputable def grow : List Obj → Nat → BT → BT
  | [], _, t => t
  | o :: l, i, t => grow l (i + 1) (t.ins i o)
noncomputable def bootT (P : Params) : BT := grow (boot_heap P).objs.toList 0 .nil
noncomputable def start0 (w : World) (os : OsState) : SharedT := ⟨bootT w.params, 11, (boot_heap w.params).life, #[], boot_drawn, boot_toks, os⟩
def steps : Nat := 9600
theorem keys_are : ∀ P, kAddrs = (K P).map (·.1) := fun _ => by kernel_rfl
def hook : Hook := kmHook K kAddrs keys_are [1152]
noncomputable def obs (w : World) (s : SharedT) := ((staticsOk (importedModules pw.main.body) (boot_heap w.params) s.abs.heap && namesBound pw s.abs.heap && gensDone s.abs && laidKept (boot_heap w.params) s.abs.heap,
  openSeen qv loose (importedModules pw.main.body) xt true s.abs, (kAddrs.map s.abs.heap.get?, [1152].map s.abs.heap.get?)))
noncomputable def headRun (w : World) (os : OsState) := (topRunT treeTable pw w 11 (some (.ref 6)) steps (start0 w os) (topStub pw)).map (obs w)
noncomputable def headWant (w : World) := some (true, openGood qv loose, ((K w.params).map fun p => some p.2, ([1152] : List Addr).map fun _ => some (tabObj #[])))

end Mine
lay_quick Mine.headRun Mine.headWant
namespace Mine
theorem fast_run : ∀ w os, PySem.W.Fast.tw979539551297594003 w os = PySem.W.Fast.tw5380836008554283192 w := by
  intro w os
  kernel_rfl
theorem head_run (w : World) (os : OsState) : headRun w os = headWant w :=
  (congrFun (congrFun PySem.W.Fast.te979539551297594003 w) os).trans ((fast_run w os).trans (congrFun PySem.W.Fast.te5380836008554283192 w).symm)
end Mine

namespace Mine
theorem boot_abs (w : World) (os : OsState) : (start0 w os).abs = ⟨boot_heap w.params, #[], boot_drawn, boot_toks, os⟩ := by kernel_rfl
theorem boot_ns (w : World) : ((boot_heap w.params).isNs mainGlobals && (#[] : Array GenState).size == 0, (boot_heap w.params).objs.size, (boot_heap w.params).nsMap mainGlobals "__annotations__") = (true, 11, some (.ref 6)) := by kernel_rfl
theorem open_is : opening pw = plainProg pw.main.scope.names := by kernel_rfl
theorem fence_is (s : Shared) : fenceModules? pw s = some s := by kernel_rfl

theorem leftO_of {p q : Program} {loose : List Str} {Xt : Shared → Bool} {α : Type} {Yf : Shared → α} {Ya : World → α} {N n m₀ : Nat} {ann : Option Value} {g0 : Bool} {H₀ : Params → Heap} {gs₀ : Array GenState} {d₀ : Drawn} {k₀ : Nat} {T0 : World → OsState → SharedT}
    (open_ : ∀ w : World, (fencedOpening treeTable p w N).map (fun s => (s.heap, s.gens, s.drawn, s.toks)) = some (H₀ w.params, gs₀, d₀, k₀))
    (abs0 : ∀ w os, (T0 w os).abs = ⟨H₀ w.params, gs₀, d₀, k₀, os⟩)
    (size : ∀ w : World, ((H₀ w.params).isNs mainGlobals && gs₀.size == 0, (H₀ w.params).objs.size, (H₀ w.params).nsMap mainGlobals "__annotations__") = (true, m₀, ann)) (le : n ≤ N)
    (run : ∀ (w : World) (os : OsState), (topRunT treeTable p w m₀ ann n (T0 w os) (topStub p)).map (fun s => ((staticsOk (importedModules p.main.body) (H₀ w.params) s.abs.heap && namesBound p s.abs.heap && gensDone s.abs && laidKept (H₀ w.params) s.abs.heap),
        openSeen q loose (importedModules p.main.body) Xt g0 s.abs, Yf s.abs)) = some (true, openGood q loose, Ya w)) : LeftO p q loose Xt Yf Ya N g0 := fun w => by
  obtain ⟨⟨h, gs, d, k, os⟩, e, e'⟩ := Option.map_eq_some_iff.mp (open_ w)
  obtain ⟨rfl, rfl, rfl, rfl⟩ : h = H₀ w.params ∧ gs = gs₀ ∧ d = d₀ ∧ k = k₀ := by simpa using e'
  obtain ⟨s', r, o⟩ := Option.map_eq_some_iff.mp (run w os)
  have r1 := topRun_of r
  rw [abs0] at r1
  have r2 := topRun_mono (N - n) _ _ _ _ r1
  rw [show n + (N - n) = N by omega] at r2
  obtain ⟨o1, o2, o3⟩ : _ ∧ _ ∧ _ := by simpa only [Prod.mk.injEq] using o
  obtain ⟨z1, z2, z3⟩ : _ ∧ _ ∧ _ := by simpa only [Prod.mk.injEq] using size w
  have t : topFrom treeTable p w N ⟨H₀ w.params, gs, d, k, os⟩ = some s'.abs := by
    unfold topFrom
    dsimp only
    rw [z1, z2, z3, r2]
    show (match staticsOk (importedModules p.main.body) (H₀ w.params) s'.abs.heap && namesBound p s'.abs.heap && gensDone s'.abs && laidKept (H₀ w.params) s'.abs.heap with | true => _ | false => _) = _
    rw [o1]
  unfold openEnds
  rw [e]
  show (topFrom treeTable p w N _).map _ = _
  rw [t]
  exact congrArg some (Prod.ext o2 o3)
theorem left : LeftO pw qv loose xt (fun s => (kAddrs.map s.heap.get?, ([1152] : List Addr).map s.heap.get?)) (fun w => ((K w.params).map fun p => some p.2, ([1152] : List Addr).map fun _ => some (tabObj #[]))) 19000 :=
  leftO_of (T0 := start0) (n := steps) (boot_open (p := pw) (N := 19000) open_is rfl fence_is) boot_abs boot_ns (by decide) head_run
end Mine
open PySem.Spec
namespace Mine
section
local macro_rules | `(tactic| k_room) => `(tactic| ((try simp only [depth_mark, depth_under_make, depth_under_kw, depth_in1, depth_deeper, depth_caller]); (try dsimp only [ktrTop]); (simp only [recursionLimit] at *); omega))
local macro_rules | `(tactic| k_units) => `(tactic| ((simp only [units_in1, units_deeper, Around.mark_units, units_caller, cLine_is] at *); (try dsimp only [ktrTop] at *); omega))
local macro_rules | `(tactic| k_all) => `(tactic| assumption)
theorem fill_PA : PySem.Challenge.rw_br5015_01 = PySem.Challenge.rw_br5015_01 ∧ K = K := by
  k_with_none
  k_fill
  exact ⟨rfl, rfl⟩
/-- the names that the walk's own ground leaves open -/
abbrev lo : List Str := looseW qv loose ++ (recsOf qv).map (·.name) ++ (litsOf qv).map (·.1) ++ (clssOf qv (looseW qv loose)).map (·.name)
abbrev sdict (P : Params) (t : Nat → Tok) (z1 z2 : Tok) (B C : Addr) (hv : Value) : Obj := dictOf [
  ⟨PyData.keyHash P (Str.ofString "_io"), .str (Str.ofString "_io") (t 0), .ref B⟩,
  ⟨PyData.keyHash P (Str.ofString "bits_left"), .str (Str.ofString "bits_left") (t 1), .int 0 z1⟩,
  ⟨PyData.keyHash P (Str.ofString "bits"), .str (Str.ofString "bits") (t 2), .int 0 z2⟩,
  ⟨PyData.keyHash P (Str.ofString "bits_le"), .str (Str.ofString "bits_le") (t 3), .bool false⟩,
  ⟨PyData.keyHash P (Str.ofString "bits_write_mode"), .str (Str.ofString "bits_write_mode") (t 4), .bool false⟩,
  ⟨PyData.keyHash P (Str.ofString "write_back_handler"), .str (Str.ofString "write_back_handler") (t 5), hv⟩,
  ⟨PyData.keyHash P (Str.ofString "child_streams"), .str (Str.ofString "child_streams") (t 6), .ref C⟩,
  ⟨PyData.keyHash P (Str.ofString "_size"), .str (Str.ofString "_size") (t 7), .int 4 (t 8)⟩] 8
abbrev bdict (P : Params) (t : Nat → Tok) (Y : Addr) (p : Int) (z : Tok) : Obj := dictOf [
  ⟨PyData.keyHash P (Str.ofString "_BytesIO__buf"), .str (Str.ofString "_BytesIO__buf") (t 0), .ref Y⟩,
  ⟨PyData.keyHash P (Str.ofString "_BytesIO__pos"), .str (Str.ofString "_BytesIO__pos") (t 1), .int p z⟩] 2
abbrev prg : Program := RowW.prog (OpenRow.toRowW (OpenLaw.row PySem.Challenge.rw_br5015_01))

section
variable (w : World) (mean : ExcName → Option Value) (mg mb : Str → Option Value)
  (dp un : Nat) (gd : Option (List Code)) (cn : Str) (cs : Scope) (a : Addr) (ccd : Value) (cl : List (Str × Addr)) (outer : List Env) (A₀ : Around) (base h₀ : Heap) (L : Addr) (m : Str → Option Value) (rest : List (Addr × Obj)) (s : Shared)
  (Q E : Value → Shared → Prop) (X D B BD C Y : Addr) (hv : Value) (t u : Nat → Tok) (z1 z2 z3 : Tok) (p : Int)
abbrev L4 (P : Params) (X D B BD C Y : Addr) (hv : Value) (t u : Nat → Tok) (z1 z2 z3 : Tok) (p : Int) (rest : List (Addr × Obj)) : List (Addr × Obj) :=
  (X, instObj 1047 D) :: (D, sdict P t z1 z2 B C hv) :: (B, instObj 322 BD) :: (BD, bdict P u Y p z3) :: rest

theorem pos_spec (hB : Below A₀ base outer h₀) (F : Fr h₀ L s.heap m) (X₀ : (K w.params).In h₀) (N : News h₀ L s.heap (L4 w.params X D B BD C Y hv t u z1 z2 z3 p rest))
  (T : Top topProg lo mean mg mb h₀) (hk : cs.kind = .function) (hp : 0 ≤ p ∧ p ≤ 5) (hd : dp + 10 < recursionLimit) (hu : un + 100 < cLine)
  (ret : ∀ h' tk tk', Fr h₀ L h' m → News h₀ L h' (L4 w.params X D B BD C Y hv t u z1 z2 z3 p rest) → Q (.int p tk) { s with heap := h', toks := tk' }) :
  wpAny (model prg w) (ktrTop dp un gd cn cs L a ccd cl outer) (call (.ref 661) [.ref X]) Q E s := by
  refine wpAny_call ?_
  k_dflt ktr_enter
  k_steps
  simp only [Int.add_zero]
  exact ret _ _ _ (by assumption) (by assumption)

theorem seek_spec (n : Int) (tn : Tok) (hB : Below A₀ base outer h₀) (F : Fr h₀ L s.heap m) (X₀ : (K w.params).In h₀) (N : News h₀ L s.heap (L4 w.params X D B BD C Y hv t u z1 z2 z3 p rest))
  (T : Top topProg lo mean mg mb h₀) (hk : cs.kind = .function) (hp : 0 ≤ p ∧ p ≤ 5) (hn : 0 ≤ n ∧ n ≤ 5) (hd : dp + 10 < recursionLimit) (hu : un + 100 < cLine)
  (o1 : @Ne Nat X D) (o2 : @Ne Nat X BD) (o3 : @Ne Nat D B) (o4 : @Ne Nat D BD) (o5 : @Ne Nat B BD) (o6 : ∀ q ∈ rest, q.1 ≠ D) (o7 : ∀ q ∈ rest, q.1 ≠ BD)
  (ret : ∀ h' y1 y2 y3 tk', Fr h₀ L h' m → News h₀ L h' (L4 w.params X D B BD C Y hv t u y1 y2 y3 n rest) → Q .none { s with heap := h', toks := tk' }) :
  wpAny (model prg w) (ktrTop dp un gd cn cs L a ccd cl outer) (call (.ref 654) [.ref X, .int n tn]) Q E s := by
  refine wpAny_call ?_
  k_dflt ktr_enter
  k_steps
  all_goals (try simp only [Int.add_zero] at *)
  all_goals (exact ret _ _ _ _ _ (by assumption) (by assumption))
end
end
section
local macro_rules | `(tactic| k_room) => `(tactic| ((try simp only [depth_mark, depth_under_make, depth_under_kw, depth_in1, depth_deeper, depth_caller]); (try dsimp only [ktrTop]); (simp only [recursionLimit] at *); omega))
local macro_rules | `(tactic| k_units) => `(tactic| ((simp only [units_in1, units_deeper, Around.mark_units, units_caller, cLine_is] at *); (try dsimp only [ktrTop] at *); omega))
local macro_rules | `(tactic| k_all) => `(tactic| assumption)
theorem fill_PB : PySem.Challenge.rw_br5015_01 = PySem.Challenge.rw_br5015_01 ∧ K = K := by
  k_with_none
  k_fill
  exact ⟨rfl, rfl⟩

abbrev lamP : Arguments := { posonlyargs := [], args := [{ arg := S "outer", annotation := none, pos := ⟨675, 18, 675, 23⟩ }], vararg := none, kwonlyargs := [], kw_defaults := [], kwarg := none, defaults := [] }
abbrev lamB : Expr := .Call (.Name (S "_law_called") ⟨675, 25, 675, 36⟩) [.Name (S "k") ⟨675, 37, 675, 38⟩, .Name (S "streams") ⟨675, 40, 675, 47⟩, .Name (S "seen") ⟨675, 49, 675, 53⟩, .Name (S "plan") ⟨675, 55, 675, 59⟩, .Name (S "made") ⟨675, 61, 675, 65⟩, .Name (S "spare") ⟨675, 67, 675, 72⟩, .Name (S "outer") ⟨675, 74, 675, 79⟩] [] ⟨675, 25, 675, 80⟩
abbrev lamS : Scope := { kind := .function, names := [(S "outer", .local), (S "k", .free), (S "made", .free), (S "plan", .free), (S "seen", .free), (S "spare", .free), (S "streams", .free), (S "_law_called", .globalImplicit)], isGenerator := false, isCoroutine := false }
abbrev lamQ : Str := S "_law_handler" ++ ".<locals>." ++ "<lambda>"
abbrev lamCl (l : Addr) : List (Str × Addr) := [(S "streams", l + 1 + 1), (S "spare", l + 1 + 1 + 1 + 1 + 1 + 1), (S "seen", l + 1 + 1 + 1), (S "plan", l + 1 + 1 + 1 + 1), (S "made", l + 1 + 1 + 1 + 1 + 1), (S "k", l + 1)]
abbrev lamObj (pm : Value) (l c : Addr) (ctv : Value) : Obj :=
  kla_obj (S "<lambda>") lamQ lamP lamB lamS (lamCl l) pm c ctv
theorem of_allLt {d : Addr} : ∀ {l : List (Addr × Obj)}, AllLt d l → ∀ p ∈ l, p.1 < d
  | [], _, _, h => nomatch h
  | _ :: _, ⟨h, _⟩, _, .head _ => h
  | _ :: _, ⟨_, r⟩, _, .tail _ m => of_allLt r _ m
section
variable (w : World) (mean : ExcName → Option Value) (mg mb : Str → Option Value)
  (dp un : Nat) (gd : Option (List Code)) (cn : Str) (cs : Scope) (a : Addr) (ccd : Value) (cl : List (Str × Addr)) (outer : List Env) (A₀ : Around) (base h₀ : Heap) (L : Addr) (m : Str → Option Value) (rest : List (Addr × Obj)) (s : Shared)
  (Q E : Value → Shared → Prop)

theorem handler_first (k : Int) (tk : Tok) (SL SN PL MD SP : Addr) (hB : Below A₀ base outer h₀) (F : Fr h₀ L s.heap m) (X₀ : (K w.params).In h₀) (N : News h₀ L s.heap ((1152, tabObj #[]) :: rest))
  (hT9 : CodeHd base 1156 1152) (o1 : ∀ q ∈ rest, q.1 ≠ 1152)
  (T : Top topProg lo mean mg mb h₀) (hk : cs.kind = .function) (hd : dp + 10 < recursionLimit) (hu : un + 100 < cLine)
  (ret : ∀ h' f c oc vs t ctv l o1 o2 o3 o4 o5 o6 tk', Fr h₀ L h' m →
    News h₀ L h' ((f, lamObj ((mg "__name__").getD .none) l c ctv) :: (c, oc) :: (l + 1 + 1 + 1 + 1 + 1 + 1, o1) :: (l + 1 + 1 + 1 + 1 + 1, o2) :: (l + 1 + 1 + 1 + 1, o3) :: (l + 1 + 1 + 1, o4) :: (l + 1 + 1, o5) :: (l + 1, o6) ::
      (1152, tabObj (#[] ++ #[rawInt 675, rawInt 11, .ref c])) :: rest) →
    oc.data = .fields vs → vs[1]? = some (.str lamQ t) → o1.data = .cell (some (.ref SP)) → o2.data = .cell (some (.ref MD)) → o3.data = .cell (some (.ref PL)) →
    o4.data = .cell (some (.ref SN)) → o5.data = .cell (some (.ref SL)) → o6.data = .cell (some (.int k tk)) →
    (∀ q ∈ rest, q.1 < l) → @LT.lt Nat _ 1152 l → @LT.lt Nat _ (l + 6) c → @LT.lt Nat _ c f → Q (.ref f) { s with heap := h', toks := tk' }) :
  wpAny (model prg w) (ktrTop dp un gd cn cs L a ccd cl outer) (call (.ref 1157) [.int k tk, .ref SL, .ref SN, .ref PL, .ref MD, .ref SP]) Q E s := by
  refine wpAny_call ?_
  k_dflt (refine' code_defC ?k1 ?k2 ?k3 ?k4 ?k5 ?kA ?kF ?kK ?k6 ?k7 ?k8 ?k9 ?kB ?kD ?_ ?c2 ?c3 ?c4; (case kA => exact rfl); (case kF => exact rfl); (case kK => assumption); (case k1 => k_asm); (case k2 => k_asm); (case k3 => k_asm); (case k4 => k_asm); (case k5 => k_asm); (case k6 => k_is); (case k7 => k_is); (case k8 => k_room); (case k9 => first | exact BindsTo.of_eq rfl | exact binds_K (by k_in) rfl (by k_is) rfl rfl rfl | fail "k_enter: no rule for these arguments"); (case kB => exact rfl); (case kD => decide +kernel); (case c2 => exact rfl); (case c3 => exact rfl); (case c4 => exact rfl); k_whole; intro g' L' h' tk' cells' FG' F' N' Y' B' X' T' l1; (try k_lt l1); k_cells Y'; (try simp only [List.cons_append, List.nil_append] at N'); (try dsimp only); (try k_lift B'); (try k_fold))
  k_steps
  rename _ ∧ AllLt _ rest => l9
  exact ret _ _ _ _ _ _ _ _ _ _ _ _ _ _ _ (by assumption) (by assumption) (by assumption) (by assumption) (by assumption) (by assumption) (by assumption) (by assumption) (by assumption) (by assumption) (of_allLt l9.2) l9.1 (by omega) (by omega)

theorem handler_later (k : Int) (tk : Tok) (SL SN PL MD SP c : Addr) (oc : Obj) (vs : Array Value) (t : Tok) (hB : Below A₀ base outer h₀) (F : Fr h₀ L s.heap m) (X₀ : (K w.params).In h₀) (N : News h₀ L s.heap ((1152, tabObj (#[] ++ #[rawInt 675, rawInt 11, .ref c])) :: (c, oc) :: rest))
  (hT9 : CodeHd base 1156 1152) (o1 : ∀ q ∈ rest, q.1 ≠ 1152) (o2 : @Ne Nat 1152 c) (hc1 : oc.data = .fields vs) (hc2 : vs[1]? = some (.str lamQ t))
  (T : Top topProg lo mean mg mb h₀) (hk : cs.kind = .function) (hd : dp + 10 < recursionLimit) (hu : un + 100 < cLine)
  (ret : ∀ h' f ctv l o1 o2 o3 o4 o5 o6 tk', Fr h₀ L h' m →
    News h₀ L h' ((f, lamObj ((mg "__name__").getD .none) l c ctv) :: (l + 1 + 1 + 1 + 1 + 1 + 1, o1) :: (l + 1 + 1 + 1 + 1 + 1, o2) :: (l + 1 + 1 + 1 + 1, o3) :: (l + 1 + 1 + 1, o4) :: (l + 1 + 1, o5) :: (l + 1, o6) ::
      (1152, tabObj (#[] ++ #[rawInt 675, rawInt 11, .ref c])) :: (c, oc) :: rest) →
    o1.data = .cell (some (.ref SP)) → o2.data = .cell (some (.ref MD)) → o3.data = .cell (some (.ref PL)) →
    o4.data = .cell (some (.ref SN)) → o5.data = .cell (some (.ref SL)) → o6.data = .cell (some (.int k tk)) →
    (∀ q ∈ rest, q.1 < l) → @LT.lt Nat _ c l → @LT.lt Nat _ (l + 6) f → Q (.ref f) { s with heap := h', toks := tk' }) :
  wpAny (model prg w) (ktrTop dp un gd cn cs L a ccd cl outer) (call (.ref 1157) [.int k tk, .ref SL, .ref SN, .ref PL, .ref MD, .ref SP]) Q E s := by
  refine wpAny_call ?_
  k_dflt (refine' code_defC ?k1 ?k2 ?k3 ?k4 ?k5 ?kA ?kF ?kK ?k6 ?k7 ?k8 ?k9 ?kB ?kD ?_ ?c2 ?c3 ?c4; (case kA => exact rfl); (case kF => exact rfl); (case kK => assumption); (case k1 => k_asm); (case k2 => k_asm); (case k3 => k_asm); (case k4 => k_asm); (case k5 => k_asm); (case k6 => k_is); (case k7 => k_is); (case k8 => k_room); (case k9 => first | exact BindsTo.of_eq rfl | exact binds_K (by k_in) rfl (by k_is) rfl rfl rfl | fail "k_enter: no rule for these arguments"); (case kB => exact rfl); (case kD => decide +kernel); (case c2 => exact rfl); (case c3 => exact rfl); (case c4 => exact rfl); k_whole; intro g' L' h' tk' cells' FG' F' N' Y' B' X' T' l1; (try k_lt l1); k_cells Y'; (try simp only [List.cons_append, List.nil_append] at N'); (try dsimp only); (try k_lift B'); (try k_fold))
  k_steps
  rename _ ∧ _ ∧ AllLt _ rest => l9
  exact ret _ _ _ _ _ _ _ _ _ _ _ (by assumption) (by assumption) (by assumption) (by assumption) (by assumption) (by assumption) (by assumption) (by assumption) (of_allLt l9.2.2) (by omega) (by omega)
end
end
section
local macro_rules | `(tactic| k_room) => `(tactic| ((try simp only [depth_mark, depth_under_make, depth_under_kw, depth_in1, depth_deeper, depth_caller]); (try dsimp only [ktrTop]); (simp only [recursionLimit] at *); omega))
local macro_rules | `(tactic| k_units) => `(tactic| ((simp only [units_in1, units_deeper, Around.mark_units, units_caller, cLine_is] at *); (try dsimp only [ktrTop] at *); omega))
local macro_rules | `(tactic| k_all) => `(tactic| assumption)
theorem fill_PC : PySem.Challenge.rw_br5015_01 = PySem.Challenge.rw_br5015_01 ∧ K = K := by
  k_with_none
  k_fill
  exact ⟨rfl, rfl⟩
/-- two addresses that differ (a def, so that omega does not split it) -/
def NeA (a b : Addr) : Prop := a ≠ b
theorem neA {a b : Addr} (h : NeA a b) : a ≠ b := h
theorem neA' {a b : Addr} (h : NeA b a) : a ≠ b := Ne.symm h
section
variable (w : World) (mean : ExcName → Option Value) (mg mb : Str → Option Value)
  (dp un : Nat) (gd : Option (List Code)) (cn : Str) (cs : Scope) (a : Addr) (ccd : Value) (cl : List (Str × Addr)) (outer : List Env) (A₀ : Around) (base h₀ : Heap) (L : Addr) (m : Str → Option Value) (rest : List (Addr × Obj)) (s : Shared)
  (Q E : Value → Shared → Prop) (X D B BD C Y : Addr) (hv : Value) (t u : Nat → Tok) (z1 z2 z3 : Tok) (p : Int)

theorem add_spec (vs : Array Value) (n : Nat) (V : Addr) (hB : Below A₀ base outer h₀) (F : Fr h₀ L s.heap m) (X₀ : (K w.params).In h₀)
  (N : News h₀ L s.heap ((X, instObj 1047 D) :: (D, sdict w.params t z1 z2 B C hv) :: (C, PySem.W.listOf vs n) :: rest))
  (T : Top topProg lo mean mg mb h₀) (hk : cs.kind = .function) (hd : dp + 10 < recursionLimit) (hu : un + 100 < cLine) (hn : vs.size ≤ 20)
  (o1 : @Ne Nat X C) (o2 : @Ne Nat D C) (o6 : ∀ q ∈ rest, q.1 ≠ C)
  (ret : ∀ h' n' tk', Fr h₀ L h' m → News h₀ L h' ((X, instObj 1047 D) :: (D, sdict w.params t z1 z2 B C hv) :: (C, PySem.W.listOf (vs.push (.ref V)) n') :: rest) → Q .none { s with heap := h', toks := tk' }) :
  wpAny (model prg w) (ktrTop dp un gd cn cs L a ccd cl outer) (call (.ref 1029) [.ref X, .ref V]) Q E s := by
  refine wpAny_call ?_
  k_dflt ktr_enter
  k_steps
  exact ret _ _ _ (by assumption) (by assumption)
end
theorem newsSub {h₀ h : Heap} {L : Addr} {l l' : List (Addr × Obj)} (N : News h₀ L h l) (hs : ∀ p ∈ l', p ∈ l) : News h₀ L h l' := fun p hp => N p (hs p hp)
theorem newsNe {h₀ h : Heap} {L x y : Addr} {o o' : Obj} {l : List (Addr × Obj)} (N : News h₀ L h l) (hx : (x, o) ∈ l) (hy : (y, o') ∈ l) (n : o ≠ o') : x ≠ y := fun e => by
  have a := (N _ hx).1
  have b := (N _ hy).1
  dsimp only at a b
  rw [e, b] at a
  exact n (Option.some.inj a).symm
theorem inst_ne_type {c d : Addr} {o : Obj} {T : String} (h : o.cls = .type T) : instObj c d ≠ o := fun e => by rw [← e] at h; cases h

section
variable {w : World} {mean : ExcName → Option Value} {mg mb : Str → Option Value}
  {dp un : Nat} {gd : Option (List Code)} {cn : Str} {cs : Scope} {a : Addr} {ccd : Value} {cl : List (Str × Addr)} {outer : List Env} {A₀ : Around} {base h₀ : Heap} {L : Addr} {m : Str → Option Value} {rest : List (Addr × Obj)} {s : Shared}
  {Q E : Value → Shared → Prop} {X D B BD C Y : Addr} {hv : Value} {t u : Nat → Tok} {z1 z2 z3 : Tok} {p : Int}
theorem pos_use {W : List (Addr × Obj)} (hB : Below A₀ base outer h₀) (F : Fr h₀ L s.heap m) (X₀ : (K w.params).In h₀) (N : News h₀ L s.heap W)
  (T : Top topProg lo mean mg mb h₀) (hk : cs.kind = .function) (mX : (X, instObj 1047 D) ∈ W) (mD : (D, sdict w.params t z1 z2 B C hv) ∈ W) (mB : (B, instObj 322 BD) ∈ W) (mE : (BD, bdict w.params u Y p z3) ∈ W)
  (hp : 0 ≤ p ∧ p ≤ 5) (hd : dp + 10 < recursionLimit) (hu : un + 100 < cLine)
  (ret : ∀ h' tk tk', Fr h₀ L h' m → News h₀ L h' W → Q (.int p tk) { s with heap := h', toks := tk' }) :
  wpAny (model prg w) (ktrTop dp un gd cn cs L a ccd cl outer) (call (.ref 661) [.ref X]) Q E s := by
  refine pos_spec (rest := W) (D := D) (B := B) (BD := BD) (C := C) (Y := Y) (hv := hv) (t := t) (u := u) (z1 := z1) (z2 := z2) (z3 := z3) w mean mg mb dp un gd cn cs a ccd cl outer A₀ base h₀ L m s Q E X p hB F X₀ (newsSub N ?_) T hk hp hd hu (fun h' tk tk' F' N' => ret h' tk tk' F' (newsSub N' fun q hq => ?_))
  · intro q hq
    simp only [L4, List.mem_cons] at hq
    rcases hq with rfl | rfl | rfl | rfl | hq <;> assumption
  · simp only [L4, List.mem_cons]; exact .inr (.inr (.inr (.inr hq)))

theorem add_use {W : List (Addr × Obj)} {g : Obj → List (Addr × Obj)} {vs : Array Value} {n : Nat} {V : Addr} (hB : Below A₀ base outer h₀) (F : Fr h₀ L s.heap m) (X₀ : (K w.params).In h₀)
  (N : News h₀ L s.heap W)
  (T : Top topProg lo mean mg mb h₀) (hk : cs.kind = .function) (mX : (X, instObj 1047 D) ∈ W) (mD : (D, sdict w.params t z1 z2 B C hv) ∈ W) (U : UpdF C (PySem.W.listOf vs n) W g)
  (hn : vs.size ≤ 20) (hd : dp + 10 < recursionLimit) (hu : un + 100 < cLine)
  (ret : ∀ h' n' tk', Fr h₀ L h' m → News h₀ L h' (g (PySem.W.listOf (vs.push (.ref V)) n')) → Q .none { s with heap := h', toks := tk' }) :
  wpAny (model prg w) (ktrTop dp un gd cn cs L a ccd cl outer) (call (.ref 1029) [.ref X, .ref V]) Q E s := by
  obtain ⟨pre, post, e1, e2, n1, n2⟩ := U.split
  have mC : (C, PySem.W.listOf vs n) ∈ W := by rw [e1]; simp
  have x1 : X ≠ C := newsNe N mX mC (inst_ne_type rfl)
  have x2 : D ≠ C := newsNe N mD mC (fun e => by have := congrArg Obj.cls e; simp [dictOf, PySem.W.listOf] at this)
  refine add_spec (rest := pre ++ post) (t := t) (z1 := z1) (z2 := z2) (B := B) (C := C) (hv := hv) (D := D) w mean mg mb dp un gd cn cs a ccd cl outer A₀ base h₀ L m s Q E X vs n V hB F X₀ (newsSub N ?_) T hk hd hu hn x1 x2 ?_ (fun h' n' tk' F' N' => ret h' n' tk' F' (newsSub N' fun q hq => ?_))
  · intro q hq
    simp only [List.mem_cons, List.mem_append] at hq
    rcases hq with rfl | rfl | rfl | hq | hq
    · exact mX
    · exact mD
    · exact mC
    · rw [e1]; simp [hq]
    · rw [e1]; simp [hq]
  · intro q hq
    rcases List.mem_append.mp hq with hq | hq
    · exact n1 q hq
    · exact n2 q hq
  · rw [e2] at hq
    simp only [List.mem_cons, List.mem_append] at hq ⊢
    rcases hq with hq | rfl | hq
    · exact .inr (.inr (.inr (.inl hq)))
    · exact .inr (.inr (.inl rfl))
    · exact .inr (.inr (.inr (.inr hq)))
end
end
section
local macro_rules | `(tactic| k_room) => `(tactic| ((try simp only [depth_mark, depth_under_make, depth_under_kw, depth_in1, depth_deeper, depth_caller]); (try dsimp only [ktrTop]); (simp only [recursionLimit] at *); omega))
local macro_rules | `(tactic| k_units) => `(tactic| ((simp only [units_in1, units_deeper, Around.mark_units, units_caller, cLine_is] at *); (try dsimp only [ktrTop] at *); omega))
local macro_rules | `(tactic| k_all) => `(tactic| assumption)
theorem fill_PF : PySem.Challenge.rw_br5015_01 = PySem.Challenge.rw_br5015_01 ∧ K = K := by
  k_with_none
  k_fill
  exact ⟨rfl, rfl⟩
def Flies (R : Heap) (L : Addr) (m : Str → Option Value) (base : Heap) (l : List Env) (e : Addr) (cls : Value) (W : List (Addr × Obj)) (h : Heap) : Prop :=
  ∃ B a0, base.StaysIn B ∧ (∀ q ∈ W, B.get? q.1 = some q.2 ∧ base.get? q.1 = none) ∧ Heap.FlyingW B l e cls a0 h ∧ R.UpToSlots h ∧ h.Ns L m ∧ R.objs.size ≤ L
theorem Flies.sub {R base h : Heap} {L : Addr} {m : Str → Option Value} {l : List Env} {e : Addr} {cls : Value} {W W' : List (Addr × Obj)} (x : Flies R L m base l e cls W h) (hs : ∀ q ∈ W', q ∈ W) : Flies R L m base l e cls W' h := by
  obtain ⟨B, a0, h1, h2, h3⟩ := x
  exact ⟨B, a0, h1, fun q hq => h2 q (hs q hq), h3⟩
theorem Flies.up {R R' base h : Heap} {l : List Env} {e : Addr} {cls : Value} {W : List (Addr × Obj)} {L L' : Addr} {m m' : Str → Option Value} (x : Flies R' L' m' base l e cls W h) (F : Fr R L R' m) : Flies R L m base l e cls W h := by
  obtain ⟨B, a0, h1, h2, h3, h4, _⟩ := x
  exact ⟨B, a0, h1, h2, h3, (Heap.UpToSlots.of_keeps F.keep).trans h4, h4.ns F.ns, F.above⟩
section
variable {M : Model} {A : Around} {E : Value → Shared → Prop} {s : Shared} {base g : Heap} {outer : List Env} {L e : Addr} {env : Env} {m : Str → Option Value} {Q : Unit → Shared → Prop} {W : List (Addr × Obj)}
/-- an exception that was made before leaves its first frame -/
theorem fly_first {oe : Obj} {vs : Array Value} {a0 : Value} (hfr : A.frames = some (env :: outer)) (hf : env.frame = some L) (hk : env.scope.kind = .function) (hst : base.StaysIn g) (hff : g.FunFrames base outer) (F : Fr g L s.heap m) (N : News g L s.heap W)
    (he : s.heap.get? e = some oe) (heg : g.get? e = none) (heL : e ≠ L) (hW : ∀ q ∈ W, q.1 ≠ e) (hd : oe.data = .fields vs) (h1 : vs[1]? = some .none) (h0 : vs[0]? = some a0)
    (hQ : ∀ h', Flies g L m base outer e oe.cls W h' → Q () { s with heap := h' }) : wpAny M A (leaving env (.ref e)) Q E s := by
  have hnew : ∀ b, g.get? b = none → base.get? b = none := fun b hb => by
    cases hq : base.get? b with
    | none => rfl
    | some o => have := hst b o hq; rw [hb] at this; cases this
  have hLn : base.get? L = none := by
    cases hq : base.get? L with
    | none => rfl
    | some o => exact absurd (Nat.lt_of_lt_of_le (Heap.lt_size (hst L o hq)) F.above) (Nat.lt_irrefl _)
  have hfs : s.heap.FunFrames base (env :: outer) := .cons (by rw [hk]; decide) hf F.ns hLn (hff.of_keeps fun b o q _ => ⟨o, F.keep b o q, rfl⟩)
  have hin : ∀ env' ∈ env :: outer, ∀ b, env'.frame = some b → b ∈ e :: (env :: outer).filterMap (·.frame) := fun env' he b hb => .tail _ (List.mem_filterMap.mpr ⟨env', he, hb⟩)
  have st : base.StaysIn (hideAll s.heap (e :: (env :: outer).filterMap (·.frame))) := fun b o q => hideAll_get _ (F.keep b o (hst b o q)) fun hm => by
    rcases List.mem_cons.mp hm with rfl | hm
    · rw [hnew _ heg] at q; cases q
    · rw [(hfs.mem hm).1] at q; cases q
  refine wpAny_leaving_firstW (base := hideAll s.heap (e :: (env :: outer).filterMap (·.frame))) hfr (funFrames_hide hfs hin) hf he (fun b o q => of_hideAll _ q) (hideAll_none _ (.head _)) hd h1 h0 fun h' hL => ?_
  obtain ⟨k1, ⟨_, _, k2⟩, k3, k4⟩ := hL
  refine hQ h' ⟨_, a0, st, fun q hq => ⟨hideAll_get _ (N q hq).1 fun hm => ?_, hnew _ (N q hq).2.2⟩, ⟨k1, hideAll_none _ (.head _), k2, k3⟩, (Heap.UpToSlots.of_keeps F.keep).trans k4, Heap.UpToSlots.ns k4 F.ns, F.above⟩
  rcases List.mem_cons.mp hm with hm | hm
  · exact hW q hq hm
  · obtain ⟨env', he', hf'⟩ := List.mem_filterMap.mp hm
    rcases List.mem_cons.mp he' with rfl | he'
    · rw [hf] at hf'; exact (N q hq).2.1 (Option.some.inj hf').symm
    · obtain ⟨o, ho, _⟩ := (hff.mem (List.mem_filterMap.mpr ⟨env', he', hf'⟩)).2
      rw [(N q hq).2.2] at ho; cases ho
theorem fly_nine {p1 p2 p3 p4 p5 p6 p7 p8 p9 : Addr × Obj} {oe : Obj} {vs : Array Value} {a0 cls : Value} {rest : List (Addr × Obj)} (hfr : A.frames = some (env :: outer)) (hf : env.frame = some L) (hk : env.scope.kind = .function) (hst : base.StaysIn g) (hff : g.FunFrames base outer) (F : Fr g L s.heap m)
    (N : News g L s.heap (p1 :: p2 :: p3 :: p4 :: p5 :: p6 :: p7 :: p8 :: p9 :: (e, oe) :: rest)) (hc : oe.cls = cls) (hd : oe.data = .fields vs) (h1 : vs[1]? = some .none) (h0 : vs[0]? = some a0)
    (n1 : p1.1 ≠ e) (n2 : p2.1 ≠ e) (n3 : p3.1 ≠ e) (n4 : p4.1 ≠ e) (n5 : p5.1 ≠ e) (n6 : p6.1 ≠ e) (n7 : p7.1 ≠ e) (n8 : p8.1 ≠ e) (n9 : p9.1 ≠ e) (nr : ∀ q ∈ rest, q.1 ≠ e)
    (hQ : ∀ h', Flies g L m base outer e cls (p1 :: p2 :: p3 :: p4 :: p5 :: p6 :: p7 :: p8 :: p9 :: rest) h' → Q () { s with heap := h' }) : wpAny M A (leaving env (.ref e)) Q E s := by
  have me : (e, oe) ∈ p1 :: p2 :: p3 :: p4 :: p5 :: p6 :: p7 :: p8 :: p9 :: (e, oe) :: rest := by simp
  subst hc
  refine fly_first hfr hf hk hst hff F (newsSub N fun q hq => ?_) (N _ me).1 (N _ me).2.2 (N _ me).2.1 (fun q hq => ?_) hd h1 h0 hQ
  · simp only [List.mem_cons] at hq ⊢
    rcases hq with h | h | h | h | h | h | h | h | h | h <;> simp [h]
  · simp only [List.mem_cons] at hq
    rcases hq with rfl | rfl | rfl | rfl | rfl | rfl | rfl | rfl | rfl | h
    · exact n1
    · exact n2
    · exact n3
    · exact n4
    · exact n5
    · exact n6
    · exact n7
    · exact n8
    · exact n9
    · exact nr q h
/-- it leaves one frame more -/
theorem fly_next {cls : Value} (hfr : A.frames = some (env :: outer)) (hf : env.frame = some L) {G : Heap} {L₀ : Addr} {m₀ : Str → Option Value} (R : Flies G L₀ m₀ base (env :: outer) e cls W s.heap)
    (hQ : ∀ h', Flies G L₀ m₀ base outer e cls W h' → Q () { s with heap := h' }) : wpAny M A (leaving env (.ref e)) Q E s := by
  obtain ⟨B, a0, h1, h2, h3, h4, h5, h6⟩ := R
  exact wpAny_leaves_onW hfr hf h3 fun h' x1 x2 => hQ h' ⟨B, a0, h1, h2, x1, h4.trans x2, x2.ns h5, h6⟩
end
end
section
local macro_rules | `(tactic| k_room) => `(tactic| ((try simp only [depth_mark, depth_under_make, depth_under_kw, depth_in1, depth_deeper, depth_caller]); (try dsimp only [ktrTop]); (simp only [recursionLimit] at *); omega))
local macro_rules | `(tactic| k_units) => `(tactic| ((simp only [units_in1, units_deeper, Around.mark_units, units_caller, cLine_is] at *); (try dsimp only [ktrTop] at *); omega))
local macro_rules | `(tactic| k_all) => `(tactic| assumption)
local macro_rules | `(tactic| k_ne) => `(tactic| ((try dsimp only); first | (refine neA ?_; with_reducible assumption) | (refine neA' ?_; with_reducible assumption)))
theorem fill_PD : PySem.Challenge.rw_br5015_01 = PySem.Challenge.rw_br5015_01 ∧ K = K := by
  k_with_none
  k_fill
  exact ⟨rfl, rfl⟩
section
variable {prog : Program} {w : World} {A : Around} {E : Value → Shared → Prop} {s : Shared} {env : Env} {h₀ : Heap} {x : Str} {body : List Stmt} {Q : Flow → Shared → Prop}
theorem is_pick {M : Model} {A : Around} {E : Value → Shared → Prop} {s : Shared} {Q : Value → Shared → Prop} {x y : Addr} (ho : x = y ∨ ∃ ox oy, s.heap.get? x = some ox ∧ s.heap.get? y = some oy ∧ ox.cls ≠ .type "tuple")
    (h1 : x = y → Q (.bool true) s) (h2 : x ≠ y → Q (.bool false) s) : wpAny M A (compareOp .Is (.ref x) (.ref y)) Q E s := by
  by_cases e : x = y
  · subst e; exact wpAny_is_ref_self (h1 rfl)
  · obtain ⟨ox, oy, a, b, c⟩ := ho.resolve_left e
    exact kto_is a b e c (h2 e)
theorem range7 (n : Nat) (h : n ≤ 7) : Builtin.Range.small 0 (n : Int) 1 = true ∧ Builtin.Range.rangeSize 0 (n : Int) 1 = (n : Int) := by
  rcases Nat.lt_or_ge n 1 with _ | _ <;> (match n, h with | 0, _ => exact ⟨rfl, rfl⟩ | 1, _ => exact ⟨rfl, rfl⟩ | 2, _ => exact ⟨rfl, rfl⟩ | 3, _ => exact ⟨rfl, rfl⟩ | 4, _ => exact ⟨rfl, rfl⟩ | 5, _ => exact ⟨rfl, rfl⟩ | 6, _ => exact ⟨rfl, rfl⟩ | 7, _ => exact ⟨rfl, rfl⟩)
/-- what a turn of such a loop leaves -/
structure OneTurn (h₀ : Heap) (L : Addr) (s : Shared) (x yv : Str) (i : Int) (t : Tok) (gv : Int) (m₀ : Str → Option Value) (W : List (Addr × Obj)) (f : Flow) (s₂ : Shared) : Prop where
  next : f = .next
  at_ : ∃ h' tk' z', s₂ = { s with heap := h', toks := tk' } ∧ Fr h₀ L h' (fun y => if y = x then some (.int i t) else if y = yv then some (.int gv z') else m₀ y) ∧ News h₀ L h' W
theorem OneTurn.keep {h₀ : Heap} {L : Addr} {s : Shared} {x yv : Str} {i : Int} {t : Tok} {gv c : Int} {z : Tok} {m₀ : Str → Option Value} {W : List (Addr × Obj)} {h' : Heap} {tk' : Nat}
    (F : Fr h₀ L h' (fun y => if y = x then some (.int i t) else if y = yv then some (.int c z) else m₀ y)) (N : News h₀ L h' W) (e : gv = c) : OneTurn h₀ L s x yv i t gv m₀ W .next { s with heap := h', toks := tk' } :=
  ⟨rfl, _, _, _, rfl, e ▸ F, N⟩
theorem OneTurn.set {h₀ : Heap} {L : Addr} {s : Shared} {x yv : Str} {i : Int} {t : Tok} {gv c : Int} {z z' : Tok} {m₀ : Str → Option Value} {W : List (Addr × Obj)} {h' : Heap} {tk' : Nat}
    (F : Fr h₀ L h' (fun y' => if y' = yv then some (.int gv z) else if y' = x then some (.int i t) else if y' = yv then some (.int c z') else m₀ y')) (N : News h₀ L h' W) (hne : yv ≠ x) : OneTurn h₀ L s x yv i t gv m₀ W .next { s with heap := h', toks := tk' } := by
  refine ⟨rfl, _, _, z, rfl, ?_, N⟩
  have e : (fun y' => if y' = yv then some (Value.int gv z) else if y' = x then some (.int i t) else if y' = yv then some (.int c z') else m₀ y') = (fun y => if y = x then some (.int i t) else if y = yv then some (.int gv z) else m₀ y) := by
    funext y
    by_cases h1 : y = x
    · subst h1; simp [Ne.symm hne]
    · by_cases h2 : y = yv
      · subst h2; simp [h1]
      · simp [h1, h2]
  rw [← e]; exact F
/-- a loop over a range that turns one int of the frame and nothing else -/
theorem iter_one {r : Addr} {t₀ u₀ v₀ : Tok} {n : Nat} {m₀ : Str → Option Value} {news : List (Addr × Obj)} {yv : Str} {c₀ : Int} {z₀ : Tok} (g : Int → Int → Int)
    (hh : A.handled = none) (hr : IsRange s.heap r 0 (n : Int) 1 t₀ u₀ v₀) (hn7 : n ≤ 7) (F : Fr h₀ env.locals s.heap m₀) (N : News h₀ env.locals s.heap news)
    (hy : m₀ yv = some (.int c₀ z₀)) (hyx : yv ≠ x)
    (turn : ∀ i t a z h tk own, 0 ≤ i → i < (n : Int) → Fr h₀ env.locals h (fun y => if y = x then some (.int i t) else if y = yv then some (.int a z) else m₀ y) → News h₀ env.locals h (news ++ own) →
      wpAny (model prog w) A (execs body env) (OneTurn h₀ env.locals s x yv i t (g a i) m₀ (news ++ own)) E { s with heap := h, toks := tk })
    (done : ∀ (u : Str → Option Value) z h tk, Fr h₀ env.locals h (fun y => if y = x then u y else if y = yv then some (.int ((rangeKs 0 n).foldl g c₀) z) else m₀ y) → News h₀ env.locals h news → Q .next { s with heap := h, toks := tk }) :
    wpAny (model prog w) A (pyIter (.ref r)) (fun it s₂ => LoopAtV prog w A h₀ env x body Q E it s₂) E s := by
  obtain ⟨hsmall, hn⟩ := range7 n hn7
  refine iter_rangeS (fun (c : Int) m₁ nx => nx = news ∧ (∃ z, m₁ yv = some (.int c z)) ∧ ∀ y, y ≠ x → y ≠ yv → m₁ y = m₀ y) g c₀ hh hr hsmall hn F N ⟨rfl, ⟨z₀, hy⟩, fun _ _ _ => rfl⟩ ?_ ?_
  · rintro k t a m₁ nx h tk own hk ho ⟨rfl, ⟨z, hz⟩, hm⟩ F' N'
    have hk' := mem_rangeKs hk
    rw [map_one hz hm] at F'
    refine wpAny_mono (turn k t a z h tk own hk'.1 (by omega) F' N') (fun f s₂ hp => ?_) fun _ _ e => e
    obtain ⟨rfl, h', tk', z', rfl, F₂, N₂⟩ := hp
    exact ⟨h', tk', _, nx ++ own, nx, rfl, F₂, N₂, fun p hp => List.mem_append_left _ hp, fun p hp => List.mem_append_right _ hp, rfl, rfl, ⟨z', by simp [hyx]⟩, fun y h1 h2 => by simp [h1, h2]⟩
  · rintro m₁ nx h tk ⟨rfl, ⟨z, hz⟩, hm⟩ F' N'
    refine done m₁ z h tk ?_ N'
    have e : (fun y => if y = x then m₁ y else if y = yv then some (Value.int ((rangeKs 0 n).foldl g c₀) z) else m₀ y) = m₁ := by
      funext y
      by_cases h1 : y = x
      · simp [h1]
      · by_cases h2 : y = yv
        · subst h2; simp [h1, hz]
        · simp [h1, h2, hm y h1 h2]
    rw [e]; exact F'
end
section
variable {w : World} {mean : ExcName → Option Value} {mg mb : Str → Option Value}
  {dp un : Nat} {gd : Option (List Code)} {cn : Str} {cs : Scope} {a : Addr} {ccd : Value} {cl : List (Str × Addr)} {outer : List Env} {A₀ : Around} {base h₀ : Heap} {L : Addr} {m : Str → Option Value} {rest : List (Addr × Obj)} {s : Shared}
  {Q E : Value → Shared → Prop} {X D B BD C Y : Addr} {hv : Value} {t u : Nat → Tok} {z1 z2 z3 : Tok} {p : Int}

def PlanAt (w : World) (o : Obj) (b e : Int) : Prop :=
  ∃ kvs, o.IsDictOf (strKind prg w) kvs ∧ PyProof.V.FlatPairs PyData.str kvs [(.str (Str.ofString "bomb"), .int b), (.str (Str.ofString "more"), .int e), (.str (Str.ofString "end"), .str (Str.ofString ""))]
def parOf (gX : Nat → Addr) (X : Addr) (n : Nat) : Int := (rangeKs 0 n).foldl (fun c i => if gX i.toNat = X then i else c) (-1)
abbrev rowOf (k par p : Int) (t1 t2 t3 : Tok) : Obj := PySem.W.listOf #[.int k t1, .int par t2, .int p t3] 0
theorem called_spec {svs : Array Value} {gX gD : Nat → Addr} {k : Int} {tk : Tok} {SL SN PL MD SP : Addr} {ns nl nc : Nat} {lvs cvs : Array Value} {oP oM : Obj} {b e : Int}
  (hB : Below A₀ base outer h₀) (F : Fr h₀ L s.heap m) (X₀ : (K w.params).In h₀)
  (N : News h₀ L s.heap ((SL, PySem.W.listOf svs ns) :: (SN, PySem.W.listOf lvs nl) :: (PL, oP) :: (X, instObj 1047 D) :: (D, sdict w.params t z1 z2 B C hv) :: (B, instObj 322 BD) :: (BD, bdict w.params u Y p z3) :: (C, PySem.W.listOf cvs nc) :: (MD, oM) :: rest))
  (T : Top topProg lo mean mg mb h₀) (hk : cs.kind = .function) (hp : 0 ≤ p ∧ p ≤ 5) (hd : dp + 30 < recursionLimit) (hu : un + 200 < cLine)
  (q1 : NeA SL SN) (q2 : NeA SL PL) (q3 : NeA SL C) (q4 : NeA SN PL) (q5 : NeA SN X) (q6 : NeA SN D) (q7 : NeA SN B) (q8 : NeA SN BD) (q9 : NeA SN C)
  (r1 : NeA PL X) (r2 : NeA PL D) (r3 : NeA PL B) (r4 : NeA PL BD) (r5 : NeA PL C) (r6 : NeA X C) (r7 : NeA D C) (r8 : NeA B C) (r9 : NeA BD C)
  (v1 : NeA MD SL) (v2 : NeA MD SN) (v3 : NeA MD PL) (v4 : NeA MD X) (v5 : NeA MD D) (v6 : NeA MD B) (v7 : NeA MD BD) (v8 : NeA MD C)
  (a1 : ∀ q ∈ rest, q.1 ≠ SN) (a2 : ∀ q ∈ rest, q.1 ≠ PL) (a3 : ∀ q ∈ rest, q.1 ≠ C) (a4 : ∀ q ∈ rest, q.1 ≠ MD)
  (pl1 : (PL == sysModules) = false) (pl2 : PlanAt w oP b e)
  (hM : b = k → ∃ vs a0, oM.cls = .type "LookupError" ∧ oM.data = .fields vs ∧ vs[1]? = some .none ∧ vs[0]? = some a0)
  (hl : lvs.size ≤ 16000000) (hcv : cvs.size ≤ 20) (hfit : (svs.size : Int) < 2 ^ 63) (hN : svs.size ≤ 7) (hsv : ∀ i : Nat, i < svs.size → svs[i]? = some (.ref (gX i)))
  (hin : ∀ i : Nat, i < svs.size → gX i = X ∨ (gX i, instObj 1047 (gD i)) ∈ rest)
  (ret : b ≠ k → e ≠ k → ∀ h' tk' r t1 t2 t3 nl', Fr h₀ L h' m → News h₀ L h' ((r, rowOf k (parOf gX X svs.size) p t1 t2 t3) :: (SL, PySem.W.listOf svs ns) :: (SN, PySem.W.listOf (lvs.push (.ref r)) nl') :: (PL, oP) :: (X, instObj 1047 D) :: (D, sdict w.params t z1 z2 B C hv) :: (B, instObj 322 BD) :: (BD, bdict w.params u Y p z3) :: (C, PySem.W.listOf cvs nc) :: (MD, oM) :: rest) →
    AllLt r ((SL, PySem.W.listOf svs ns) :: (SN, PySem.W.listOf lvs nl) :: (PL, oP) :: (X, instObj 1047 D) :: (D, sdict w.params t z1 z2 B C hv) :: (B, instObj 322 BD) :: (BD, bdict w.params u Y p z3) :: (C, PySem.W.listOf cvs nc) :: (MD, oM) :: rest) → Q .none { s with heap := h', toks := tk' })
  (retm : b ≠ k → e = k → ∀ h' tk' r t1 t2 t3 nl' nc' oP', PlanAt w oP' b (-1) → Fr h₀ L h' m → News h₀ L h' ((r, rowOf k (parOf gX X svs.size) p t1 t2 t3) :: (SL, PySem.W.listOf svs ns) :: (SN, PySem.W.listOf (lvs.push (.ref r)) nl') :: (PL, oP') :: (X, instObj 1047 D) :: (D, sdict w.params t z1 z2 B C hv) :: (B, instObj 322 BD) :: (BD, bdict w.params u Y p z3) :: (C, PySem.W.listOf (cvs.push (.ref SP)) nc') :: (MD, oM) :: rest) →
    AllLt r ((SL, PySem.W.listOf svs ns) :: (SN, PySem.W.listOf lvs nl) :: (PL, oP) :: (X, instObj 1047 D) :: (D, sdict w.params t z1 z2 B C hv) :: (B, instObj 322 BD) :: (BD, bdict w.params u Y p z3) :: (C, PySem.W.listOf cvs nc) :: (MD, oM) :: rest) → Q .none { s with heap := h', toks := tk' })
  (exc : b = k → ∀ h' tk' r t1 t2 t3 nl' oP', PlanAt w oP' (-1) e → Flies h₀ L m base (envX cn cs L a ccd cl :: outer) MD (.type "LookupError") ((r, rowOf k (parOf gX X svs.size) p t1 t2 t3) :: (SL, PySem.W.listOf svs ns) :: (SN, PySem.W.listOf (lvs.push (.ref r)) nl') :: (PL, oP') :: (X, instObj 1047 D) :: (D, sdict w.params t z1 z2 B C hv) :: (B, instObj 322 BD) :: (BD, bdict w.params u Y p z3) :: (C, PySem.W.listOf cvs nc) :: rest) h' →
    AllLt r ((SL, PySem.W.listOf svs ns) :: (SN, PySem.W.listOf lvs nl) :: (PL, oP) :: (X, instObj 1047 D) :: (D, sdict w.params t z1 z2 B C hv) :: (B, instObj 322 BD) :: (BD, bdict w.params u Y p z3) :: (C, PySem.W.listOf cvs nc) :: (MD, oM) :: rest) → E (.ref MD) { s with heap := h', toks := tk' }) :
  wpAny (model prg w) (ktrTop dp un gd cn cs L a ccd cl outer) (call (.ref 1164) [.int k tk, .ref SL, .ref SN, .ref PL, .ref MD, .ref SP, .ref X]) Q E s := by
  obtain ⟨kvs, pl2, pl3⟩ := pl2
  refine wpAny_call ?_
  k_dflt ktr_enter
  (k_with "call builtin:len" => k_dflt (refine call_len_list (News.isList (by k_asm) (by k_mem)) (by assumption) ?_))
  (k_with "subscriptTail" => k_dflt (refine tail_any (Heap.IsList.typeIs (News.isList (by k_asm) (by k_mem))) slot_list_getitem.lookup (wpAny_getItem_list (News.isList (by k_asm) (by k_mem)) (by assumption) (by omega) (hsv _ (by omega)) ?_) (by with_unfolding_all rfl)))
  (k_with "compareOp Is ref ref" => k_dflt (refine is_pick ((hin i9.toNat (by omega)).imp id fun hx9 => ⟨_, _, News.get (by k_asm) (List.mem_append_left own9 (List.mem_append_right _ hx9 : _ ∈ [(SL, PySem.W.listOf svs ns), (SN, PySem.W.listOf lvs nl), (PL, oP), (X, instObj 1047 D), (D, sdict w.params t z1 z2 B C hv), (B, instObj 322 BD), (BD, bdict w.params u Y p z3), (C, PySem.W.listOf cvs nc), (MD, oM)] ++ rest)), News.get (by k_asm) (by k_mem), by intro z; cases z⟩) (fun hx9 => ?_) (fun hx9 => ?_)))
  (k_with "call ref" => k_dflt (first
    | (refine' pos_use ?k1 ?k2 ?k3 ?k4 ?k5 ?kK ?m1 ?m2 ?m3 ?m4 ?kp ?kd ?ku ?_; (case k1 => k_asm); (case k2 => k_asm); (case k3 => k_in); (case k4 => k_asm); (case k5 => k_asm); (case kK => first | exact rfl | assumption); (case m1 => k_mem); (case m2 => k_mem); (case m3 => k_mem); (case m4 => k_mem); (case kp => exact hp); (case kd => k_room); (case ku => k_units); intro h7 tk7 tk8 F7 N7)
    | (refine' add_use ?k1 ?k2 ?k3 ?k4 ?k5 ?kK ?m1 ?m2 ?m3 ?kp ?kd ?ku ?_; (case k1 => k_asm); (case k2 => k_asm); (case k3 => k_in); (case k4 => k_asm); (case k5 => k_asm); (case kK => first | exact rfl | assumption); (case m1 => k_mem); (case m2 => k_mem); (case m3 => k_updF); (case kp => exact hcv); (case kd => k_room); (case ku => k_units); intro h7 n7 tk8 F7 N7; (try dsimp only at N7))))
  (k_with "pyIter ref" => k_dflt (refine iter_one (yv := S "parent") (n := svs.size) (fun c i => if gX i.toNat = X then i else c) (by with_unfolding_all rfl) (by assumption) (by assumption) (by k_asm) (by k_asm) rfl (by decide) ?kturn ?kdone; (case kturn => (intro i9 t9 a9 z9 h9 tk9 own9 h0 h1 F9 N9; k_steps; all_goals first | exact OneTurn.keep (by assumption) (by assumption) (if_neg (by assumption)) | (rename gX _ = X => hx9; rw [if_pos hx9]; exact OneTurn.set (by assumption) (by assumption) (by decide))))))
  k_steps
  all_goals first
    | exact ret (by assumption) (by assumption) _ _ _ _ _ _ _ (by assumption) (by assumption) (by assumption)
    | exact retm (by assumption) (by assumption) _ _ _ _ _ _ _ _ _ ⟨_, by assumption, by assumption⟩ (by assumption) (by assumption) (by assumption)
    | skip
  obtain ⟨vsM, a0M, c1, c2, c3, c4⟩ := hM (by assumption)
  rename Below (ktrTop _ _ _ _ _ _ _ _ _ _) _ _ _ => B9
  rename Fr _ _ _ _ => F9
  rename News _ _ _ _ => N9
  rename _ ∧ _ ∧ _ ∧ _ ∧ _ ∧ _ ∧ _ ∧ _ ∧ _ ∧ AllLt _ rest => l8
  refine ⟨MD, oM, vsM, _, _, _, excClass_LookupError, rfl, News.get N9 (by k_mem), c1, c2, c3, ?_⟩
  show wpAny _ _ (leaving _ _) _ _ _
  have l9 : AllLt _ ((SL, PySem.W.listOf svs ns) :: (SN, PySem.W.listOf lvs nl) :: (PL, oP) :: (X, instObj 1047 D) :: (D, sdict w.params t z1 z2 B C hv) :: (B, instObj 322 BD) :: (BD, bdict w.params u Y p z3) :: (C, PySem.W.listOf cvs nc) :: (MD, oM) :: rest) := l8
  refine fly_nine (base := base) (Around.frames_deeper B9.stack) rfl rfl B9.stays B9.frames F9 N9 c1 c2 c3 c4 ?s1 (Ne.symm v1) (Ne.symm v2) (Ne.symm v3) (Ne.symm v4) (Ne.symm v5) (Ne.symm v6) (Ne.symm v7) (Ne.symm v8) a4
    (fun h' hfl => exc (by assumption) h' _ _ _ _ _ _ _ ⟨_, by assumption, by assumption⟩ (hfl.up (by assumption)) l9)
  exact Ne.symm (Nat.ne_of_lt l8.2.2.2.2.2.2.2.2.1)
end
end
section
/-- the plain state: child lists, places, what is still to happen, who was called -/
structure St where
  kids : Nat → List Nat
  at_ : Nat → Int
  bomb : Int
  more : Int
  log : List (Int × Int × Int)
inductive Res where | done | bomb | none
deriving DecidableEq
def put {α : Type} (f : Nat → α) (k : Nat) (v : α) : Nat → α := fun j => if j = k then v else f j
theorem put_self {α : Type} (f : Nat → α) (k : Nat) (v : α) : put f k v k = v := if_pos rfl
theorem put_ne {α : Type} {f : Nat → α} {k j : Nat} {v : α} (h : j ≠ k) : put f k v j = f j := if_neg h
noncomputable def loopK (step : St → Nat → St × Res) : Nat → St → Nat → Nat → St × Res
  | 0, σ, _, _ => (σ, .done)
  | m + 1, σ, k, i => match (σ.kids k)[i]? with
    | none => (σ, .done)
    | some j => match step σ j with
      | (σ', .done) => loopK step m σ' k (i + 1)
      | (σ', r) => (σ', r)
/-- the handler's part: stream k is handed back to p at the place q -/
def hand (sp : Nat) (σ : St) (k p : Nat) (q : Int) : St × Res :=
  let σ1 : St := { σ with at_ := put σ.at_ p q, log := σ.log ++ [((k : Int), (p : Int), q)] }
  if σ.bomb = (k : Int) then ({ σ1 with bomb := -1 }, .bomb)
  else if σ.more = (k : Int) then ({ σ1 with more := -1, kids := put σ.kids p (σ.kids p ++ [sp]) }, .done)
  else (σ1, .done)
noncomputable def walk (pl : Nat → Option Int) (sp : Nat) : Nat → St → Nat → Option Nat → St × Res
  | 0, σ, _, _ => (σ, .done)
  | n + 1, σ, k, par =>
    match loopK (fun σ j => walk pl sp n σ j (some k)) 8 σ k 0 with
    | (σ1, .done) =>
      let σ2 : St := { σ1 with kids := put σ1.kids k [], at_ := put σ1.at_ k (σ.at_ k) }
      match par with
      | none => (σ2, .done)
      | some p => match pl k with
        | none => (σ2, .none)
        | some q => hand sp σ2 k p q
    | (σ1, r) => (σ1, r)

structure Inv (N : Nat) (σ : St) : Prop where
  up : ∀ k, ∀ j ∈ σ.kids k, k < j ∧ j < N
  few : ∀ k, (σ.kids k).length + (if 0 ≤ σ.more then 1 else 0) ≤ 7
  pos : ∀ k, 0 ≤ σ.at_ k ∧ σ.at_ k ≤ 5

theorem Inv.len {N : Nat} {σ : St} (h : Inv N σ) (k : Nat) : (σ.kids k).length ≤ 7 := by
  have := h.few k
  omega
theorem Inv.close {N : Nat} {σ : St} (h : Inv N σ) (k : Nat) {v : Int} (hv : 0 ≤ v ∧ v ≤ 5) : Inv N { σ with kids := put σ.kids k [], at_ := put σ.at_ k v } where
  up := fun i j hj => by
    replace hj : j ∈ put σ.kids k [] i := hj
    by_cases e : i = k
    · subst e; rw [put_self] at hj; cases hj
    · rw [put_ne e] at hj; exact h.up i j hj
  few := fun i => by
    have := h.few i
    by_cases e : i = k
    · subst e; show (put σ.kids i [] i).length + _ ≤ 7; rw [put_self]; simp only [List.length_nil]; split <;> omega
    · show (put σ.kids k [] i).length + _ ≤ 7; rw [put_ne e]; exact this
  pos := fun i => by
    by_cases e : i = k
    · subst e; show 0 ≤ put σ.at_ i v i ∧ put σ.at_ i v i ≤ 5; rw [put_self]; exact hv
    · show 0 ≤ put σ.at_ k v i ∧ put σ.at_ k v i ≤ 5; rw [put_ne e]; exact h.pos i
theorem Inv.hand {N : Nat} {σ : St} {sp k p : Nat} {q : Int} (h : Inv N σ) (hq : 0 ≤ q ∧ q ≤ 5) (hsp : sp + 1 = N) (hp : p < sp) : Inv N (hand sp σ k p q).1 := by
  have hpos : ∀ i, 0 ≤ put σ.at_ p q i ∧ put σ.at_ p q i ≤ 5 := fun i => by
    by_cases e : i = p
    · subst e; rw [put_self]; exact hq
    · rw [put_ne e]; exact h.pos i
  unfold Mine.hand
  dsimp only
  split
  · exact ⟨h.up, h.few, hpos⟩
  · split
    · rename_i hm
      have hm0 : 0 ≤ σ.more := by rw [hm]; exact Int.natCast_nonneg k
      refine ⟨fun i j hj => ?_, fun i => ?_, hpos⟩
      · replace hj : j ∈ put σ.kids p (σ.kids p ++ [sp]) i := hj
        by_cases e : i = p
        · subst e
          rw [put_self] at hj
          rcases List.mem_append.mp hj with hj | hj
          · exact h.up i j hj
          · rw [List.mem_singleton.mp hj]; omega
        · rw [put_ne e] at hj; exact h.up i j hj
      · have := h.few i
        rw [if_pos hm0] at this
        show (put σ.kids p (σ.kids p ++ [sp]) i).length + (if (0 : Int) ≤ -1 then 1 else 0) ≤ 7
        rw [if_neg (show ¬ (0 : Int) ≤ -1 by decide)]
        by_cases e : i = p
        · subst e; rw [put_self]; simp only [List.length_append, List.length_cons, List.length_nil]; omega
        · rw [put_ne e]; omega
    · exact ⟨h.up, h.few, hpos⟩

theorem loopK_inv {N : Nat} {step : St → Nat → St × Res} {k : Nat} (hs : ∀ σ j, Inv N σ → k < j → j < N → Inv N (step σ j).1) : ∀ m σ i, Inv N σ → Inv N (loopK step m σ k i).1
  | 0, σ, _, h => h
  | m + 1, σ, i, h => by
    unfold loopK
    split
    · exact h
    · rename_i j hj
      have hm := h.up k j (List.mem_of_getElem? hj)
      have hσ := hs σ j h hm.1 hm.2
      split
      · rename_i σ' e; rw [e] at hσ; exact loopK_inv hs m σ' (i + 1) hσ
      · rename_i σ' r _ e; rw [e] at hσ; exact hσ
theorem walk_inv {N sp : Nat} {pl : Nat → Option Int} (hpl : ∀ k q, pl k = some q → 0 ≤ q ∧ q ≤ 5) (hsp : sp + 1 = N) : ∀ n σ k par, Inv N σ → k < N → (∀ p, par = some p → p < k) → Inv N (walk pl sp n σ k par).1
  | 0, σ, _, _, h, _, _ => h
  | n + 1, σ, k, par, h, hk, hp => by
    have hl := loopK_inv (k := k) (step := fun σ j => walk pl sp n σ j (some k)) (fun σ j hσ h1 h2 => walk_inv hpl hsp n σ j (some k) hσ h2 fun p e => by cases e; exact h1) 8 σ 0 h
    unfold walk
    dsimp only
    split
    · rename_i σ1 e
      rw [e] at hl
      have h2 := hl.close k (h.pos k)
      split
      · exact h2
      · rename_i p
        split
        · exact h2
        · rename_i q hq
          exact h2.hand (hpl k q hq) hsp (by have := hp p rfl; omega)
    · rename_i σ1 r _ e
      rw [e] at hl; exact hl
theorem hand_log (sp : Nat) (σ : St) (k p : Nat) (q : Int) : (hand sp σ k p q).1.log = σ.log ++ [((k : Int), (p : Int), q)] := by
  unfold hand
  dsimp only
  split
  · rfl
  · split <;> rfl
theorem loopK_log {step : St → Nat → St × Res} {k c : Nat} (hs : ∀ σ j, ∃ l, (step σ j).1.log = σ.log ++ l ∧ l.length ≤ c) : ∀ m σ i, ∃ l, (loopK step m σ k i).1.log = σ.log ++ l ∧ l.length ≤ m * c
  | 0, σ, _ => ⟨[], by simp [loopK], by simp⟩
  | m + 1, σ, i => by
    unfold loopK
    split
    · exact ⟨[], by simp, by simp⟩
    · rename_i j hj
      obtain ⟨l, h1, h2⟩ := hs σ j
      split
      · rename_i σ' e
        rw [e] at h1
        obtain ⟨l', h3, h4⟩ := loopK_log hs m σ' (i + 1)
        refine ⟨l ++ l', by rw [h3]; dsimp only at h1; rw [h1, List.append_assoc], ?_⟩
        rw [List.length_append, Nat.succ_mul]; omega
      · rename_i σ' r _ e
        rw [e] at h1
        refine ⟨l, h1, ?_⟩
        rw [Nat.succ_mul]; omega
theorem walk_log {sp : Nat} {pl : Nat → Option Int} : ∀ n σ k par, ∃ l, (walk pl sp n σ k par).1.log = σ.log ++ l ∧ l.length ≤ 9 ^ n
  | 0, σ, _, _ => ⟨[], by simp [walk], by simp⟩
  | n + 1, σ, k, par => by
    obtain ⟨l, h1, h2⟩ := loopK_log (k := k) (step := fun σ j => walk pl sp n σ j (some k)) (fun σ j => walk_log n σ j (some k)) 8 σ 0
    have hpow : 9 ^ (n + 1) = 9 ^ n * 9 := Nat.pow_succ ..
    have hpos : 0 < 9 ^ n := Nat.pow_pos (by decide)
    unfold walk
    dsimp only
    split
    · rename_i σ1 e
      rw [e] at h1
      dsimp only at h1
      split
      · exact ⟨l, h1, by omega⟩
      · rename_i p
        split
        · exact ⟨l, h1, by omega⟩
        · rename_i q hq
          refine ⟨l ++ [((k : Int), (p : Int), q)], ?_, by rw [List.length_append]; simp only [List.length_cons, List.length_nil]; omega⟩
          rw [hand_log]; dsimp only; rw [h1, List.append_assoc]
    · rename_i σ1 r _ e
      rw [e] at h1
      exact ⟨l, h1, by omega⟩
/-- the same without the place -/
def fire (sp : Nat) (σ : St) (k p : Nat) : St × Res :=
  let σ1 : St := { σ with log := σ.log ++ [((k : Int), (p : Int), σ.at_ p)] }
  if σ.bomb = (k : Int) then ({ σ1 with bomb := -1 }, .bomb)
  else if σ.more = (k : Int) then ({ σ1 with more := -1, kids := put σ.kids p (σ.kids p ++ [sp]) }, .done)
  else (σ1, .done)
theorem hand_fire (sp : Nat) (σ : St) (k p : Nat) (q : Int) : hand sp σ k p q = fire sp { σ with at_ := put σ.at_ p q } k p := by
  unfold hand fire
  dsimp only
  rw [put_self]
theorem Inv.seek {N : Nat} {σ : St} (h : Inv N σ) (k : Nat) {v : Int} (hv : 0 ≤ v ∧ v ≤ 5) : Inv N { σ with at_ := put σ.at_ k v } where
  up := h.up
  few := h.few
  pos := fun i => by
    by_cases e : i = k
    · subst e; show 0 ≤ put σ.at_ i v i ∧ put σ.at_ i v i ≤ 5; rw [put_self]; exact hv
    · show 0 ≤ put σ.at_ k v i ∧ put σ.at_ k v i ≤ 5; rw [put_ne e]; exact h.pos i
end
section
local macro_rules | `(tactic| k_room) => `(tactic| ((try simp only [depth_mark, depth_under_make, depth_under_kw, depth_in1, depth_deeper, depth_caller]); (try dsimp only [ktrTop]); (simp only [recursionLimit] at *); omega))
local macro_rules | `(tactic| k_units) => `(tactic| ((simp only [units_in1, units_deeper, Around.mark_units, units_caller, cLine_is] at *); (try dsimp only [ktrTop] at *); omega))
local macro_rules | `(tactic| k_all) => `(tactic| assumption)
local macro_rules | `(tactic| k_ne) => `(tactic| ((try dsimp only); first | (refine neA ?_; with_reducible assumption) | (refine neA' ?_; with_reducible assumption)))
theorem fill_PW : PySem.Challenge.rw_br5015_01 = PySem.Challenge.rw_br5015_01 ∧ K = K := by
  k_with_none
  k_fill
  exact ⟨rfl, rfl⟩
def led (A : List Addr) (f : Addr → Obj) : List (Addr × Obj) := A.map fun a => (a, f a)
def upd (f : Addr → Obj) (a : Addr) (o : Obj) : Addr → Obj := fun b => if b = a then o else f b
theorem upd_self (f : Addr → Obj) (a : Addr) (o : Obj) : upd f a o a = o := if_pos rfl
theorem upd_ne {f : Addr → Obj} {a b : Addr} {o : Obj} (h : b ≠ a) : upd f a o b = f b := if_neg h
theorem mem_led {A : List Addr} {f : Addr → Obj} {a : Addr} {o : Obj} : (a, o) ∈ led A f ↔ a ∈ A ∧ f a = o := by
  unfold led
  rw [List.mem_map]
  constructor
  · rintro ⟨b, hb, e⟩
    cases e
    exact ⟨hb, rfl⟩
  · rintro ⟨h1, rfl⟩
    exact ⟨a, h1, rfl⟩
theorem in_led {A : List Addr} {f : Addr → Obj} {a : Addr} {o : Obj} (h : a ∈ A) (e : f a = o) : (a, o) ∈ led A f := mem_led.mpr ⟨h, e⟩
/-- what a ledger of written entries and the rest of a world says of the world turned -/
theorem led_back {h₀ h : Heap} {L : Addr} {A : List Addr} {f f' : Addr → Obj} {W ex : List (Addr × Obj)} (N : News h₀ L h W) (h1 : ∀ q ∈ ex, q ∈ W) (h2 : ∀ a ∈ A, (a, f' a) ∈ ex ∨ (a, f' a) ∈ W) : News h₀ L h (led A f') := fun q hq => by
  obtain ⟨a, o⟩ := q
  obtain ⟨ha, rfl⟩ := mem_led.mp hq
  rcases h2 a ha with h | h
  · exact N _ (h1 _ h)
  · exact N _ h
theorem upd_led {A : List Addr} {f : Addr → Obj} {a : Addr} {o o' : Obj} (hn : A.Nodup) (ha : a ∈ A) (e : f a = o) : Upd a o o' (led A f) (led A (upd f a o')) := by
  subst e
  induction A with
  | nil => cases ha
  | cons b A ih =>
    have hb := (List.nodup_cons.mp hn)
    by_cases hab : b = a
    · subst hab
      have e : led A (upd f b o') = led A f := by
        unfold led
        apply List.map_congr_left
        intro x hx
        rw [upd_ne (fun (e : x = b) => hb.1 (e ▸ hx))]
      show Upd b (f b) o' ((b, f b) :: led A f) ((b, upd f b o' b) :: led A (upd f b o'))
      rw [e, upd_self]
      refine .head fun p hp => ?_
      obtain ⟨x, o⟩ := p
      intro e
      have e' : x = b := e
      subst e'
      exact hb.1 (mem_led.mp hp).1
    · show Upd a (f a) o' ((b, f b) :: led A f) ((b, upd f a o' b) :: led A (upd f a o'))
      rw [upd_ne hab]
      exact .tail hab (ih hb.2 ((List.mem_cons.mp ha).resolve_left (Ne.symm hab)))

abbrev hdict (P : Params) (t : Nat → Tok) (p : Int) (z : Tok) (LM : Addr) : Obj := dictOf [
  ⟨PyData.keyHash P (Str.ofString "pos"), .str (Str.ofString "pos") (t 0), .int p z⟩,
  ⟨PyData.keyHash P (Str.ofString "handler"), .str (Str.ofString "handler") (t 1), .ref LM⟩] 2
structure Geo where
  N : Nat
  X : Nat → Addr
  D : Nat → Addr
  B : Nat → Addr
  BD : Nat → Addr
  C : Nat → Addr
  Y : Nat → Addr
  H : Nat → Addr
  SL : Addr
  SN : Addr
  PL : Addr
  MD : Addr
  pl : Nat → Option Int
  tag : Addr → Nat × Nat
def Geo.sp (g : Geo) : Nat := g.N - 1
def Geo.hv (g : Geo) (k : Nat) : Value := match g.pl k with | some _ => .ref (g.H k) | none => .none
structure GeoOk (g : Geo) : Prop where
  n2 : 2 ≤ g.N
  n7 : g.N ≤ 7
  pl5 : ∀ k q, g.pl k = some q → 0 ≤ q ∧ q ≤ 5
  tX : ∀ k < g.N, g.tag (g.X k) = (0, k)
  tD : ∀ k < g.N, g.tag (g.D k) = (1, k)
  tB : ∀ k < g.N, g.tag (g.B k) = (2, k)
  tE : ∀ k < g.N, g.tag (g.BD k) = (3, k)
  tC : ∀ k < g.N, g.tag (g.C k) = (4, k)
  tSL : g.tag g.SL = (5, 0)
  tSN : g.tag g.SN = (6, 0)
  tPL : g.tag g.PL = (7, 0)
  tMD : g.tag g.MD = (8, 0)
  full : ∀ a, (g.tag a).1 < 9 → (∃ k < g.N, a = g.X k ∨ a = g.D k ∨ a = g.B k ∨ a = g.BD k ∨ a = g.C k) ∨ a = g.SL ∨ a = g.SN ∨ a = g.PL ∨ a = g.MD
structure HanF (w : World) (nm : Value) (g : Geo) (ok : Addr → Prop) (f : Addr → Obj) (k : Nat) (q : Int) : Prop where
  all : ∃ HD LM c l oc vs tq ctv t z o1 o2 o3 o4 o5 o6 tk, ok (g.H k) ∧ ok HD ∧ ok LM ∧ ok c ∧ ok (l + 1 + 1 + 1 + 1 + 1 + 1) ∧ ok (l + 1 + 1 + 1 + 1 + 1) ∧ ok (l + 1 + 1 + 1 + 1) ∧ ok (l + 1 + 1 + 1) ∧ ok (l + 1 + 1) ∧ ok (l + 1) ∧
    f (g.H k) = instObj 1075 HD ∧ f HD = hdict w.params t q z LM ∧ f LM = lamObj nm l c ctv ∧ f c = oc ∧ oc.data = .fields vs ∧ vs[1]? = some (.str lamQ tq) ∧
    f (l + 1 + 1 + 1 + 1 + 1 + 1) = o1 ∧ f (l + 1 + 1 + 1 + 1 + 1) = o2 ∧ f (l + 1 + 1 + 1 + 1) = o3 ∧ f (l + 1 + 1 + 1) = o4 ∧ f (l + 1 + 1) = o5 ∧ f (l + 1) = o6 ∧
    o1.data = .cell (some (.ref (g.X g.sp))) ∧ o2.data = .cell (some (.ref g.MD)) ∧ o3.data = .cell (some (.ref g.PL)) ∧ o4.data = .cell (some (.ref g.SN)) ∧ o5.data = .cell (some (.ref g.SL)) ∧ o6.data = .cell (some (.int k tk))
structure Wd (w : World) (nm : Value) (g : Geo) (pre : List (Int × Int × Int)) (σ : St) (A : List Addr) (f : Addr → Obj) : Prop where
  nod : A.Nodup
  sX : ∀ k < g.N, g.X k ∈ A ∧ f (g.X k) = instObj 1047 (g.D k)
  sD : ∀ k < g.N, g.D k ∈ A ∧ ∃ t z1 z2, f (g.D k) = sdict w.params t z1 z2 (g.B k) (g.C k) (g.hv k)
  sB : ∀ k < g.N, g.B k ∈ A ∧ f (g.B k) = instObj 322 (g.BD k)
  sE : ∀ k < g.N, g.BD k ∈ A ∧ ∃ u z, f (g.BD k) = bdict w.params u (g.Y k) (σ.at_ k) z
  sC : ∀ k < g.N, g.C k ∈ A ∧ ∃ n, f (g.C k) = PySem.W.listOf ((σ.kids k).map fun j => Value.ref (g.X j)).toArray n
  sL : g.SL ∈ A ∧ ∃ n, f g.SL = PySem.W.listOf ((List.range g.N).map fun j => Value.ref (g.X j)).toArray n
  sN : g.SN ∈ A ∧ ∃ (n : Nat) (rs : List Addr), f g.SN = PySem.W.listOf (rs.map Value.ref).toArray n ∧ rs.length = (pre ++ σ.log).length ∧
    ∀ (i : Nat) (r : Addr) (e : Int × Int × Int), rs[i]? = some r → (pre ++ σ.log)[i]? = some e → r ∈ A ∧ 9 ≤ (g.tag r).1 ∧ ∃ t1 t2 t3, f r = rowOf e.1 e.2.1 e.2.2 t1 t2 t3
  sP : g.PL ∈ A ∧ (g.PL == sysModules) = false ∧ PlanAt w (f g.PL) σ.bomb σ.more
  sM : g.MD ∈ A ∧ (0 ≤ σ.bomb → ∃ vs a0, (f g.MD).cls = .type "LookupError" ∧ (f g.MD).data = .fields vs ∧ vs[1]? = some .none ∧ vs[0]? = some a0)
  han : ∀ k < g.N, ∀ q, g.pl k = some q → HanF w nm g (fun a => a ∈ A ∧ 9 ≤ (g.tag a).1) f k q

theorem HanF.mono {w : World} {nm : Value} {g : Geo} {ok ok' : Addr → Prop} {f f' : Addr → Obj} {k : Nat} {q : Int} (h : HanF w nm g ok f k q) (hm : ∀ a, ok a → ok' a ∧ f' a = f a) : HanF w nm g ok' f' k q := by
  obtain ⟨HD, LM, c, l, oc, vs, tq, ctv, t, z, o1, o2, o3, o4, o5, o6, tk, k1, k2, k3, k4, k5, k6, k7, k8, k9, k10, e1, e2, e3, e4, e5, e6, e7, e8, e9, e10, e11, e12, r⟩ := h
  exact ⟨HD, LM, c, l, oc, vs, tq, ctv, t, z, o1, o2, o3, o4, o5, o6, tk, (hm _ k1).1, (hm _ k2).1, (hm _ k3).1, (hm _ k4).1, (hm _ k5).1, (hm _ k6).1, (hm _ k7).1, (hm _ k8).1, (hm _ k9).1, (hm _ k10).1,
    (hm _ k1).2.trans e1, (hm _ k2).2.trans e2, (hm _ k3).2.trans e3, (hm _ k4).2.trans e4, e5, e6, (hm _ k5).2.trans e7, (hm _ k6).2.trans e8, (hm _ k7).2.trans e9, (hm _ k8).2.trans e10, (hm _ k9).2.trans e11, (hm _ k10).2.trans e12, r⟩
def Geo.stat (g : Geo) (a : Addr) : Prop := (g.tag a).1 = 0 ∨ (g.tag a).1 = 2 ∨ (g.tag a).1 = 5 ∨ 9 ≤ (g.tag a).1
section
variable {w : World} {nm : Value} {g : Geo} {pre pre' : List (Int × Int × Int)} {σ σ' : St} {A A' : List Addr} {f f' : Addr → Obj}
theorem Wd.of (G : GeoOk g) (W : Wd w nm g pre σ A f) (hA : ∀ a ∈ A, a ∈ A') (nod : A'.Nodup) (hst : ∀ a ∈ A, g.stat a → f' a = f a)
    (sD : ∀ k < g.N, ∃ t z1 z2, f' (g.D k) = sdict w.params t z1 z2 (g.B k) (g.C k) (g.hv k))
    (sE : ∀ k < g.N, ∃ u z, f' (g.BD k) = bdict w.params u (g.Y k) (σ'.at_ k) z)
    (sC : ∀ k < g.N, ∃ n, f' (g.C k) = PySem.W.listOf ((σ'.kids k).map fun j => Value.ref (g.X j)).toArray n)
    (sN : ∃ (n : Nat) (rs : List Addr), f' g.SN = PySem.W.listOf (rs.map Value.ref).toArray n ∧ rs.length = (pre' ++ σ'.log).length ∧
      ∀ (i : Nat) (r : Addr) (e : Int × Int × Int), rs[i]? = some r → (pre' ++ σ'.log)[i]? = some e → r ∈ A' ∧ 9 ≤ (g.tag r).1 ∧ ∃ t1 t2 t3, f' r = rowOf e.1 e.2.1 e.2.2 t1 t2 t3)
    (sP : PlanAt w (f' g.PL) σ'.bomb σ'.more)
    (sM : 0 ≤ σ'.bomb → ∃ vs a0, (f' g.MD).cls = .type "LookupError" ∧ (f' g.MD).data = .fields vs ∧ vs[1]? = some .none ∧ vs[0]? = some a0) : Wd w nm g pre' σ' A' f' where
  nod := nod
  sX := fun k hk => ⟨hA _ (W.sX k hk).1, (hst _ (W.sX k hk).1 (.inl (by rw [G.tX k hk]))).trans (W.sX k hk).2⟩
  sD := fun k hk => ⟨hA _ (W.sD k hk).1, sD k hk⟩
  sB := fun k hk => ⟨hA _ (W.sB k hk).1, (hst _ (W.sB k hk).1 (.inr (.inl (by rw [G.tB k hk])))).trans (W.sB k hk).2⟩
  sE := fun k hk => ⟨hA _ (W.sE k hk).1, sE k hk⟩
  sC := fun k hk => ⟨hA _ (W.sC k hk).1, sC k hk⟩
  sL := ⟨hA _ W.sL.1, W.sL.2.imp fun _ h => (hst _ W.sL.1 (.inr (.inr (.inl (by rw [G.tSL]))))).trans h⟩
  sN := ⟨hA _ W.sN.1, sN⟩
  sP := ⟨hA _ W.sP.1, W.sP.2.1, sP⟩
  sM := ⟨hA _ W.sM.1, sM⟩
  han := fun k hk q hq => (W.han k hk q hq).mono fun a ha => ⟨⟨hA _ ha.1, ha.2⟩, hst a ha.1 (.inr (.inr (.inr ha.2)))⟩
theorem Wd.rows' (W : Wd w nm g pre σ A f) (hA : ∀ a ∈ A, a ∈ A') (hst : ∀ a ∈ A, g.stat a → f' a = f a) (hSN : f' g.SN = f g.SN) :
    ∃ (n : Nat) (rs : List Addr), f' g.SN = PySem.W.listOf (rs.map Value.ref).toArray n ∧ rs.length = (pre ++ σ.log).length ∧
      ∀ (i : Nat) (r : Addr) (e : Int × Int × Int), rs[i]? = some r → (pre ++ σ.log)[i]? = some e → r ∈ A' ∧ 9 ≤ (g.tag r).1 ∧ ∃ t1 t2 t3, f' r = rowOf e.1 e.2.1 e.2.2 t1 t2 t3 := by
  obtain ⟨_, n, rs, h1, h2, h3⟩ := W.sN
  refine ⟨n, rs, hSN.trans h1, h2, fun i r e hr he => ?_⟩
  obtain ⟨a1, a2, t1, t2, t3, a3⟩ := h3 i r e hr he
  exact ⟨hA _ a1, a2, t1, t2, t3, (hst r a1 (.inr (.inr (.inr a2)))).trans a3⟩
theorem tagNe {g : Geo} {a b : Addr} {x y : Nat × Nat} (ha : g.tag a = x) (hb : g.tag b = y) (h : x ≠ y) : a ≠ b := fun e => h (by rw [← ha, ← hb, e])
theorem statNe {g : Geo} {a b : Addr} {y : Nat × Nat} (ha : g.stat a) (hb : g.tag b = y) (h : y.1 = 1 ∨ y.1 = 3 ∨ y.1 = 4 ∨ y.1 = 6 ∨ y.1 = 7 ∨ y.1 = 8) : a ≠ b := fun e => by
  unfold Geo.stat at ha
  rw [e, hb] at ha
  omega
/-- a place is set -/
theorem Wd.setpos (G : GeoOk g) (W : Wd w nm g pre σ A f) {k : Nat} {p : Int} (hk : k < g.N) (hf : ∀ b, b ≠ g.D k → b ≠ g.BD k → f' b = f b)
    (hD : ∃ t z1 z2, f' (g.D k) = sdict w.params t z1 z2 (g.B k) (g.C k) (g.hv k)) (hE : ∃ u z, f' (g.BD k) = bdict w.params u (g.Y k) p z) : Wd w nm g pre { σ with at_ := put σ.at_ k p } A f' := by
  have hst : ∀ a ∈ A, g.stat a → f' a = f a := fun a _ hs => hf a (statNe hs (G.tD k hk) (.inl rfl)) (statNe hs (G.tE k hk) (.inr (.inl rfl)))
  refine W.of G (fun _ h => h) W.nod hst (fun j hj => ?_) (fun j hj => ?_) (fun j hj => ?_) (W.rows' (fun _ h => h) hst (hf _ (tagNe G.tSN (G.tD k hk) (by simp)) (tagNe G.tSN (G.tE k hk) (by simp)))) ?_ ?_
  · by_cases e : j = k
    · subst e; exact hD
    · rw [hf _ (tagNe (G.tD j hj) (G.tD k hk) (by simp [e])) (tagNe (G.tD j hj) (G.tE k hk) (by simp))]; exact (W.sD j hj).2
  · by_cases e : j = k
    · subst e; obtain ⟨u, z, h⟩ := hE; exact ⟨u, z, h.trans (by dsimp only; rw [put_self])⟩
    · rw [hf _ (tagNe (G.tE j hj) (G.tD k hk) (by simp)) (tagNe (G.tE j hj) (G.tE k hk) (by simp [e]))]
      obtain ⟨u, z, h⟩ := (W.sE j hj).2
      exact ⟨u, z, h.trans (by dsimp only; rw [put_ne e])⟩
  · rw [hf _ (tagNe (G.tC j hj) (G.tD k hk) (by simp)) (tagNe (G.tC j hj) (G.tE k hk) (by simp))]; exact (W.sC j hj).2
  · rw [hf _ (tagNe G.tPL (G.tD k hk) (by simp)) (tagNe G.tPL (G.tE k hk) (by simp))]; exact W.sP.2.2
  · rw [hf _ (tagNe G.tMD (G.tD k hk) (by simp)) (tagNe G.tMD (G.tE k hk) (by simp))]; exact W.sM.2
/-- a list of children is set -/
theorem Wd.setkids (G : GeoOk g) (W : Wd w nm g pre σ A f) {k : Nat} {l : List Nat} (hk : k < g.N) (hf : ∀ b, b ≠ g.C k → f' b = f b)
    (hC : ∃ n, f' (g.C k) = PySem.W.listOf (l.map fun j => Value.ref (g.X j)).toArray n) : Wd w nm g pre { σ with kids := put σ.kids k l } A f' := by
  have hst : ∀ a ∈ A, g.stat a → f' a = f a := fun a _ hs => hf a (statNe hs (G.tC k hk) (.inr (.inr (.inl rfl))))
  refine W.of G (fun _ h => h) W.nod hst (fun j hj => ?_) (fun j hj => ?_) (fun j hj => ?_) (W.rows' (fun _ h => h) hst (hf _ (tagNe G.tSN (G.tC k hk) (by simp)))) ?_ ?_
  · rw [hf _ (tagNe (G.tD j hj) (G.tC k hk) (by simp))]; exact (W.sD j hj).2
  · rw [hf _ (tagNe (G.tE j hj) (G.tC k hk) (by simp))]; exact (W.sE j hj).2
  · by_cases e : j = k
    · subst e; obtain ⟨n, h⟩ := hC; exact ⟨n, h.trans (by dsimp only; rw [put_self])⟩
    · rw [hf _ (tagNe (G.tC j hj) (G.tC k hk) (by simp [e]))]
      obtain ⟨n, h⟩ := (W.sC j hj).2
      exact ⟨n, h.trans (by dsimp only; rw [put_ne e])⟩
  · rw [hf _ (tagNe G.tPL (G.tC k hk) (by simp))]; exact W.sP.2.2
  · rw [hf _ (tagNe G.tMD (G.tC k hk) (by simp))]; exact W.sM.2
/-- a row is added -/
theorem Wd.addrow (G : GeoOk g) (W : Wd w nm g pre σ A f) {r : Addr} {e : Int × Int × Int} (hr : r ∉ A) (hf : ∀ b, b ≠ g.SN → b ≠ r → f' b = f b) (ht : ∃ t1 t2 t3, f' r = rowOf e.1 e.2.1 e.2.2 t1 t2 t3)
    (hS : ∀ n (rs : List Addr), f g.SN = PySem.W.listOf (rs.map Value.ref).toArray n → ∃ n', f' g.SN = PySem.W.listOf ((rs ++ [r]).map Value.ref).toArray n') : Wd w nm g pre { σ with log := σ.log ++ [e] } (r :: A) f' := by
  have hst : ∀ a ∈ A, g.stat a → f' a = f a := fun a ha hs => hf a (statNe hs G.tSN (.inr (.inr (.inr (.inl rfl))))) (fun e => hr (e ▸ ha))
  have htag : 9 ≤ (g.tag r).1 := by
    by_cases h : 9 ≤ (g.tag r).1
    · exact h
    · rcases G.full r (by omega) with ⟨k, hk, h | h | h | h | h⟩ | h | h | h | h <;> subst h
      · exact absurd (W.sX k hk).1 hr
      · exact absurd (W.sD k hk).1 hr
      · exact absurd (W.sB k hk).1 hr
      · exact absurd (W.sE k hk).1 hr
      · exact absurd (W.sC k hk).1 hr
      · exact absurd W.sL.1 hr
      · exact absurd W.sN.1 hr
      · exact absurd W.sP.1 hr
      · exact absurd W.sM.1 hr
  refine W.of G (fun _ h => .tail _ h) (List.nodup_cons.mpr ⟨hr, W.nod⟩) hst (fun j hj => ?_) (fun j hj => ?_) (fun j hj => ?_) ?_ ?_ ?_
  · rw [hf _ (tagNe (G.tD j hj) G.tSN (by simp)) (fun e => hr (e ▸ (W.sD j hj).1))]; exact (W.sD j hj).2
  · rw [hf _ (tagNe (G.tE j hj) G.tSN (by simp)) (fun e => hr (e ▸ (W.sE j hj).1))]; exact (W.sE j hj).2
  · rw [hf _ (tagNe (G.tC j hj) G.tSN (by simp)) (fun e => hr (e ▸ (W.sC j hj).1))]; exact (W.sC j hj).2
  · obtain ⟨_, n, rs, h1, h2, h3⟩ := W.sN
    obtain ⟨n', h4⟩ := hS n rs h1
    refine ⟨n', rs ++ [r], h4, by simp only [List.length_append, List.length_cons, List.length_nil] at h2 ⊢; omega, fun i r' e' hr' he' => ?_⟩
    have he' : (pre ++ σ.log ++ [e])[i]? = some e' := by rw [List.append_assoc]; exact he'
    by_cases hi : i < rs.length
    · rw [List.getElem?_append_left hi] at hr'
      rw [List.getElem?_append_left (by omega)] at he'
      obtain ⟨a1, a2, t1, t2, t3, a3⟩ := h3 i r' e' hr' he'
      exact ⟨.tail _ a1, a2, t1, t2, t3, (hst r' a1 (.inr (.inr (.inr a2)))).trans a3⟩
    · rw [List.getElem?_append_right (by omega)] at hr'
      rw [List.getElem?_append_right (by omega), ← h2] at he'
      have hz : i - rs.length = 0 := by
        have := (List.getElem?_eq_some_iff.mp hr').1
        simp only [List.length_cons, List.length_nil] at this
        omega
      rw [hz] at hr' he'
      cases hr'
      cases he'
      exact ⟨.head _, htag, ht⟩
  · rw [hf _ (tagNe G.tPL G.tSN (by simp)) (fun e => hr (e ▸ W.sP.1))]; exact W.sP.2.2
  · rw [hf _ (tagNe G.tMD G.tSN (by simp)) (fun e => hr (e ▸ W.sM.1))]; exact W.sM.2
/-- the plan is set -/
theorem Wd.setplan (G : GeoOk g) (W : Wd w nm g pre σ A f) {b e : Int} (hf : ∀ a, a ≠ g.PL → f' a = f a) (hP : PlanAt w (f' g.PL) b e) (hb : 0 ≤ b → 0 ≤ σ.bomb) : Wd w nm g pre { σ with bomb := b, more := e } A f' := by
  have hst : ∀ a ∈ A, g.stat a → f' a = f a := fun a _ hs => hf a (statNe hs G.tPL (.inr (.inr (.inr (.inr (.inl rfl))))))
  refine W.of G (fun _ h => h) W.nod hst (fun j hj => ?_) (fun j hj => ?_) (fun j hj => ?_) (W.rows' (fun _ h => h) hst (hf _ (tagNe G.tSN G.tPL (by simp)))) hP ?_
  · rw [hf _ (tagNe (G.tD j hj) G.tPL (by simp))]; exact (W.sD j hj).2
  · rw [hf _ (tagNe (G.tE j hj) G.tPL (by simp))]; exact (W.sE j hj).2
  · rw [hf _ (tagNe (G.tC j hj) G.tPL (by simp))]; exact (W.sC j hj).2
  · rw [hf _ (tagNe G.tMD G.tPL (by simp))]; exact fun h => W.sM.2 (hb h)
/-- the made error has been raised -/
theorem Wd.setmade (G : GeoOk g) (W : Wd w nm g pre σ A f) (hb : ¬ 0 ≤ σ.bomb) (hf : ∀ a, a ≠ g.MD → f' a = f a) : Wd w nm g pre σ A f' := by
  have hst : ∀ a ∈ A, g.stat a → f' a = f a := fun a _ hs => hf a (statNe hs G.tMD (.inr (.inr (.inr (.inr (.inr rfl))))))
  refine W.of G (fun _ h => h) W.nod hst (fun j hj => ?_) (fun j hj => ?_) (fun j hj => ?_) (W.rows' (fun _ h => h) hst (hf _ (tagNe G.tSN G.tMD (by simp)))) ?_ (fun h => absurd h hb)
  · rw [hf _ (tagNe (G.tD j hj) G.tMD (by simp))]; exact (W.sD j hj).2
  · rw [hf _ (tagNe (G.tE j hj) G.tMD (by simp))]; exact (W.sE j hj).2
  · rw [hf _ (tagNe (G.tC j hj) G.tMD (by simp))]; exact (W.sC j hj).2
  · rw [hf _ (tagNe G.tPL G.tMD (by simp))]; exact W.sP.2.2
/-- one more object -/
theorem Wd.grow (G : GeoOk g) (W : Wd w nm g pre σ A f) {x : Addr} {o : Obj} (hx : x ∉ A) : Wd w nm g pre σ (x :: A) (upd f x o) := by
  have h : ∀ a ∈ A, upd f x o a = f a := fun a ha => upd_ne fun e => hx (e ▸ ha)
  have hst : ∀ a ∈ A, g.stat a → upd f x o a = f a := fun a ha _ => h a ha
  refine W.of G (fun _ h => .tail _ h) (List.nodup_cons.mpr ⟨hx, W.nod⟩) hst (fun j hj => ?_) (fun j hj => ?_) (fun j hj => ?_) (W.rows' (fun _ h => .tail _ h) hst (h _ W.sN.1)) ?_ ?_
  · rw [h _ (W.sD j hj).1]; exact (W.sD j hj).2
  · rw [h _ (W.sE j hj).1]; exact (W.sE j hj).2
  · rw [h _ (W.sC j hj).1]; exact (W.sC j hj).2
  · rw [h _ W.sP.1]; exact W.sP.2.2
  · rw [h _ W.sM.1]; exact W.sM.2
end
end
section
local macro_rules | `(tactic| k_room) => `(tactic| ((try simp only [depth_mark, depth_under_make, depth_under_kw, depth_in1, depth_deeper, depth_caller]); (try dsimp only [ktrTop]); (simp only [recursionLimit] at *); omega))
local macro_rules | `(tactic| k_units) => `(tactic| ((simp only [units_in1, units_deeper, Around.mark_units, units_caller, cLine_is] at *); (try dsimp only [ktrTop] at *); omega))
local macro_rules | `(tactic| k_all) => `(tactic| assumption)
local macro_rules | `(tactic| k_ne) => `(tactic| ((try dsimp only); first | (refine neA ?_; with_reducible assumption) | (refine neA' ?_; with_reducible assumption)))
theorem fill_PX : PySem.Challenge.rw_br5015_01 = PySem.Challenge.rw_br5015_01 ∧ K = K := by
  k_with_none
  k_fill
  exact ⟨rfl, rfl⟩
theorem updF_led {A : List Addr} {f : Addr → Obj} {a : Addr} {o : Obj} (hn : A.Nodup) (ha : a ∈ A) (e : f a = o) : ∃ g, UpdF a o (led A f) g ∧ ∀ o', g o' = led A (upd f a o') := by
  subst e
  induction A with
  | nil => cases ha
  | cons b A ih =>
    have hb := (List.nodup_cons.mp hn)
    by_cases hab : b = a
    · subst hab
      refine ⟨_, .head (r := led A f) fun p hp => ?_, fun o' => ?_⟩
      · obtain ⟨x, o⟩ := p
        intro e
        have e' : x = b := e
        subst e'
        exact hb.1 (mem_led.mp hp).1
      · show (b, o') :: led A f = (b, upd f b o' b) :: led A (upd f b o')
        rw [upd_self]
        congr 1
        unfold led
        apply List.map_congr_left
        intro x hx
        rw [upd_ne (fun (e : x = b) => hb.1 (e ▸ hx))]
    · obtain ⟨g, U, hg⟩ := ih hb.2 ((List.mem_cons.mp ha).resolve_left (Ne.symm hab))
      refine ⟨_, .tail (p := (b, f b)) hab U, fun o' => ?_⟩
      show (b, f b) :: g o' = (b, upd f a o' b) :: led A (upd f a o')
      rw [upd_ne hab, hg]
def Ext (g : Geo) (A : List Addr) (f : Addr → Obj) (A' : List Addr) (f' : Addr → Obj) : Prop := ∀ a ∈ A, a ∈ A' ∧ (g.stat a → f' a = f a)
theorem Ext.refl (g : Geo) (A : List Addr) (f : Addr → Obj) : Ext g A f A f := fun _ h => ⟨h, fun _ => rfl⟩
theorem Ext.trans {g : Geo} {A A' A'' : List Addr} {f f' f'' : Addr → Obj} (x : Ext g A f A' f') (y : Ext g A' f' A'' f'') : Ext g A f A'' f'' := fun a h =>
  ⟨(y a (x a h).1).1, fun hs => ((y a (x a h).1).2 hs).trans ((x a h).2 hs)⟩
def After (w : World) (nm : Value) (g : Geo) (pre : List (Int × Int × Int)) (σ : St) (A : List Addr) (f : Addr → Obj) (h₀ : Heap) (L : Addr) (m : Str → Option Value) (h' : Heap) : Prop :=
  ∃ A' f', Ext g A f A' f' ∧ Fr h₀ L h' m ∧ News h₀ L h' (led A' f') ∧ Wd w nm g pre σ A' f'
def Thrown (w : World) (nm : Value) (g : Geo) (pre : List (Int × Int × Int)) (σ : St) (A : List Addr) (f : Addr → Obj) (h₀ : Heap) (L : Addr) (m : Str → Option Value) (base : Heap) (l : List Env) (e : Addr) (cls : Value) (h' : Heap) : Prop :=
  ∃ A' f', Ext g A f A' f' ∧ Flies h₀ L m base l e cls (led (A'.filter (· ≠ e)) f') h' ∧ Wd w nm g pre σ A' f' ∧ ((e = g.MD ∧ cls = .type "LookupError") ∨ e ∉ A')

section
variable {w : World} {mean : ExcName → Option Value} {mg mb : Str → Option Value} {nm : Value}
  {dp un : Nat} {gd : Option (List Code)} {cn : Str} {cs : Scope} {a : Addr} {ccd : Value} {cl : List (Str × Addr)} {outer : List Env} {A₀ : Around} {base h₀ : Heap} {L : Addr} {m : Str → Option Value} {s : Shared}
  {Q E : Value → Shared → Prop} {g : Geo} {pre : List (Int × Int × Int)} {σ : St} {A : List Addr} {f : Addr → Obj} {k : Nat}
theorem pos_W (hB : Below A₀ base outer h₀) (F : Fr h₀ L s.heap m) (X₀ : (K w.params).In h₀) (N : News h₀ L s.heap (led A f))
  (T : Top topProg lo mean mg mb h₀) (hk : cs.kind = .function) (W : Wd w nm g pre σ A f) (I : Inv g.N σ) (hkN : k < g.N) (hd : dp + 10 < recursionLimit) (hu : un + 100 < cLine)
  (ret : ∀ h' tk tk', Fr h₀ L h' m → News h₀ L h' (led A f) → Q (.int (σ.at_ k) tk) { s with heap := h', toks := tk' }) :
  wpAny (model prg w) (ktrTop dp un gd cn cs L a ccd cl outer) (call (.ref 661) [.ref (g.X k)]) Q E s := by
  obtain ⟨a1, t, z1, z2, e1⟩ := W.sD k hkN
  obtain ⟨a2, u, z3, e2⟩ := W.sE k hkN
  exact pos_use hB F X₀ N T hk (in_led (W.sX k hkN).1 (W.sX k hkN).2) (in_led a1 e1) (in_led (W.sB k hkN).1 (W.sB k hkN).2) (in_led a2 e2) (I.pos k) hd hu ret

theorem seek_W (n : Int) (tn : Tok) (G : GeoOk g) (hB : Below A₀ base outer h₀) (F : Fr h₀ L s.heap m) (X₀ : (K w.params).In h₀) (N : News h₀ L s.heap (led A f))
  (T : Top topProg lo mean mg mb h₀) (hk : cs.kind = .function) (W : Wd w nm g pre σ A f) (I : Inv g.N σ) (hkN : k < g.N) (hn : 0 ≤ n ∧ n ≤ 5) (hd : dp + 10 < recursionLimit) (hu : un + 100 < cLine)
  (ret : ∀ h' tk', After w nm g pre { σ with at_ := put σ.at_ k n } A f h₀ L m h' → Q .none { s with heap := h', toks := tk' }) :
  wpAny (model prg w) (ktrTop dp un gd cn cs L a ccd cl outer) (call (.ref 654) [.ref (g.X k), .int n tn]) Q E s := by
  obtain ⟨a1, t, z1, z2, e1⟩ := W.sD k hkN
  obtain ⟨a2, u, z3, e2⟩ := W.sE k hkN
  have a3 := W.sX k hkN
  have a4 := W.sB k hkN
  refine seek_spec (X := g.X k) (D := g.D k) (B := g.B k) (BD := g.BD k) (C := g.C k) (Y := g.Y k) (hv := g.hv k) (t := t) (u := u) (z1 := z1) (z2 := z2) (z3 := z3) (p := σ.at_ k)
    (rest := (led A f).filter fun q => q.1 ≠ g.D k ∧ q.1 ≠ g.BD k) w mean mg mb dp un gd cn cs a ccd cl outer A₀ base h₀ L m s Q E n tn hB F X₀ (newsSub N fun q hq => ?_) T hk (I.pos k) hn hd hu
    (tagNe (G.tX k hkN) (G.tD k hkN) (by simp)) (tagNe (G.tX k hkN) (G.tE k hkN) (by simp)) (tagNe (G.tD k hkN) (G.tB k hkN) (by simp)) (tagNe (G.tD k hkN) (G.tE k hkN) (by simp)) (tagNe (G.tB k hkN) (G.tE k hkN) (by simp))
    (fun q hq => (of_decide_eq_true (List.mem_filter.mp hq).2).1) (fun q hq => (of_decide_eq_true (List.mem_filter.mp hq).2).2) (fun h' y1 y2 y3 tk' F' N' => ?_)
  · simp only [L4, List.mem_cons] at hq
    rcases hq with rfl | rfl | rfl | rfl | hq
    · exact in_led a3.1 a3.2
    · exact in_led a1 e1
    · exact in_led a4.1 a4.2
    · exact in_led a2 e2
    · exact (List.mem_filter.mp hq).1
  · have hne : g.D k ≠ g.BD k := tagNe (G.tD k hkN) (G.tE k hkN) (by simp)
    refine ret h' tk' ⟨A, upd (upd f (g.D k) (sdict w.params t y1 y2 (g.B k) (g.C k) (g.hv k))) (g.BD k) (bdict w.params u (g.Y k) n y3), fun b hb => ⟨hb, fun hs => ?_⟩, F', newsSub N' fun q hq => ?_, W.setpos G hkN (fun b h1 h2 => ?_) ⟨t, y1, y2, ?_⟩ ⟨u, y3, ?_⟩⟩
    · rw [upd_ne (statNe hs (G.tE k hkN) (.inr (.inl rfl))), upd_ne (statNe hs (G.tD k hkN) (.inl rfl))]
    · obtain ⟨b, o⟩ := q
      obtain ⟨hb, rfl⟩ := mem_led.mp hq
      simp only [L4, List.mem_cons]
      by_cases h1 : b = g.BD k
      · subst h1; rw [upd_self]; exact .inr (.inr (.inr (.inl rfl)))
      · rw [upd_ne h1]
        by_cases h2 : b = g.D k
        · subst h2; rw [upd_self]; exact .inr (.inl rfl)
        · rw [upd_ne h2]
          exact .inr (.inr (.inr (.inr (List.mem_filter.mpr ⟨in_led hb rfl, decide_eq_true ⟨h2, h1⟩⟩))))
    · rw [upd_ne h2, upd_ne h1]
    · rw [upd_ne hne, upd_self]
    · rw [upd_self]
end
end
section
local macro_rules | `(tactic| k_room) => `(tactic| ((try simp only [depth_mark, depth_under_make, depth_under_kw, depth_in1, depth_deeper, depth_caller]); (try dsimp only [ktrTop]); (simp only [recursionLimit] at *); omega))
local macro_rules | `(tactic| k_units) => `(tactic| ((simp only [units_in1, units_deeper, Around.mark_units, units_caller, cLine_is] at *); (try dsimp only [ktrTop] at *); omega))
local macro_rules | `(tactic| k_all) => `(tactic| assumption)
local macro_rules | `(tactic| k_ne) => `(tactic| ((try dsimp only); first | (refine neA ?_; with_reducible assumption) | (refine neA' ?_; with_reducible assumption)))
theorem fill_PY : PySem.Challenge.rw_br5015_01 = PySem.Challenge.rw_br5015_01 ∧ K = K := by
  k_with_none
  k_fill
  exact ⟨rfl, rfl⟩
theorem rangeKs_succ (n : Nat) : rangeKs 0 (n + 1) = rangeKs 0 n ++ [(n : Int)] := by
  unfold rangeKs
  rw [List.range_succ, List.map_append]
  simp
theorem parOf_eq {gX : Nat → Addr} {N p : Nat} (hp : p < N) (inj : ∀ i < N, ∀ j < N, gX i = gX j → i = j) : parOf gX (gX p) N = (p : Int) := by
  have h : ∀ n, n ≤ N → (rangeKs 0 n).foldl (fun c i => if gX i.toNat = gX p then i else c) (-1) = if p < n then (p : Int) else -1 := by
    intro n
    induction n with
    | zero => intro _; rfl
    | succ n ih =>
      intro hn
      rw [rangeKs_succ, List.foldl_append, ih (by omega)]
      simp only [List.foldl_cons, List.foldl_nil, Int.toNat_natCast]
      by_cases e : gX n = gX p
      · have := inj n (by omega) p hp e
        subst this
        rw [if_pos e, if_pos (Nat.lt_succ_self n)]
      · rw [if_neg e]
        have : p ≠ n := fun q => e (by rw [q])
        by_cases h1 : p < n
        · rw [if_pos h1, if_pos (by omega)]
        · rw [if_neg h1, if_neg (by omega)]
  unfold parOf
  rw [h N (Nat.le_refl N), if_pos hp]
section
variable {w : World} {mean : ExcName → Option Value} {mg mb : Str → Option Value} {nm : Value}
  {dp un : Nat} {gd : Option (List Code)} {cn : Str} {cs : Scope} {a : Addr} {ccd : Value} {cl : List (Str × Addr)} {outer : List Env} {A₀ : Around} {base h₀ : Heap} {L : Addr} {m : Str → Option Value} {s : Shared}
  {Q E : Value → Shared → Prop} {g : Geo} {pre : List (Int × Int × Int)} {σ : St} {A : List Addr} {f : Addr → Obj}

theorem called_W (G : GeoOk g) (k p : Nat) (tk : Tok) (hB : Below A₀ base outer h₀) (F : Fr h₀ L s.heap m) (X₀ : (K w.params).In h₀) (N : News h₀ L s.heap (led A f))
  (T : Top topProg lo mean mg mb h₀) (hk : cs.kind = .function) (W : Wd w nm g pre σ A f) (I : Inv g.N σ) (hkN : k < g.N) (hpN : p < g.N) (hrows : (pre ++ σ.log).length ≤ 16000000) (hd : dp + 30 < recursionLimit) (hu : un + 200 < cLine)
  (ret : (fire g.sp σ k p).2 = .done → ∀ h' tk', After w nm g pre (fire g.sp σ k p).1 A f h₀ L m h' → Q .none { s with heap := h', toks := tk' })
  (exc : (fire g.sp σ k p).2 = .bomb → ∀ h' tk', Thrown w nm g pre (fire g.sp σ k p).1 A f h₀ L m base (envX cn cs L a ccd cl :: outer) g.MD (.type "LookupError") h' → E (.ref g.MD) { s with heap := h', toks := tk' }) :
  wpAny (model prg w) (ktrTop dp un gd cn cs L a ccd cl outer) (call (.ref 1164) [.int (k : Int) tk, .ref g.SL, .ref g.SN, .ref g.PL, .ref g.MD, .ref (g.X g.sp), .ref (g.X p)]) Q E s := by
  obtain ⟨b1, t, z1, z2, e1⟩ := W.sD p hpN
  obtain ⟨b2, u, z3, e2⟩ := W.sE p hpN
  have b3 := W.sX p hpN
  have b4 := W.sB p hpN
  obtain ⟨b5, nc, e5⟩ := W.sC p hpN
  obtain ⟨b6, ns, e6⟩ := W.sL
  obtain ⟨b7, nl, rs, e7, e8, e9⟩ := W.sN
  obtain ⟨b8, b9, e10⟩ := W.sP
  have inj : ∀ i < g.N, ∀ j < g.N, g.X i = g.X j → i = j := fun i hi j hj e => by
    have := G.tX i hi
    rw [e, G.tX j hj] at this
    exact (congrArg Prod.snd this).symm
  let S9 : List Addr := [g.SL, g.SN, g.PL, g.X p, g.D p, g.B p, g.BD p, g.C p, g.MD]
  let rest := (led A f).filter fun q => q.1 ∉ S9
  have hrest : ∀ q ∈ rest, q ∈ led A f ∧ q.1 ∉ S9 := fun q hq => ⟨(List.mem_filter.mp hq).1, of_decide_eq_true (List.mem_filter.mp hq).2⟩
  have mrest : ∀ b ∈ A, b ∉ S9 → (b, f b) ∈ rest := fun b hb hn => List.mem_filter.mpr ⟨in_led hb rfl, decide_eq_true hn⟩
  have hS : ∀ b ∈ S9, b ∈ A := by
    intro b hb
    simp only [S9, List.mem_cons, List.not_mem_nil, or_false] at hb
    rcases hb with rfl | rfl | rfl | rfl | rfl | rfl | rfl | rfl | rfl
    · exact b6
    · exact b7
    · exact b8
    · exact b3.1
    · exact b1
    · exact b4.1
    · exact b2
    · exact b5
    · exact W.sM.1
  have N9 : News h₀ L s.heap ((g.SL, f g.SL) :: (g.SN, f g.SN) :: (g.PL, f g.PL) :: (g.X p, f (g.X p)) :: (g.D p, f (g.D p)) :: (g.B p, f (g.B p)) :: (g.BD p, f (g.BD p)) :: (g.C p, f (g.C p)) :: (g.MD, f g.MD) :: rest) := by
    refine newsSub N fun q hq => ?_
    simp only [List.mem_cons] at hq
    rcases hq with rfl | rfl | rfl | rfl | rfl | rfl | rfl | rfl | rfl | hq
    · exact in_led b6 rfl
    · exact in_led b7 rfl
    · exact in_led b8 rfl
    · exact in_led b3.1 rfl
    · exact in_led b1 rfl
    · exact in_led b4.1 rfl
    · exact in_led b2 rfl
    · exact in_led b5 rfl
    · exact in_led W.sM.1 rfl
    · exact (hrest q hq).1
  have allIn : ∀ b ∈ A, (b, f b) ∈ (g.SL, f g.SL) :: (g.SN, f g.SN) :: (g.PL, f g.PL) :: (g.X p, f (g.X p)) :: (g.D p, f (g.D p)) :: (g.B p, f (g.B p)) :: (g.BD p, f (g.BD p)) :: (g.C p, f (g.C p)) :: (g.MD, f g.MD) :: rest := by
    intro b hb
    by_cases h : b ∈ S9
    · simp only [S9, List.mem_cons, List.not_mem_nil, or_false] at h
      rcases h with rfl | rfl | rfl | rfl | rfl | rfl | rfl | rfl | rfl <;> simp only [List.mem_cons, true_or, or_true]
    · simp only [List.mem_cons]
      exact .inr (.inr (.inr (.inr (.inr (.inr (.inr (.inr (.inr (mrest b hb h)))))))))
  rw [e6, e7, b3.2, e1, b4.2, e2, e5] at N9
  rw [e6, e7, b3.2, e1, b4.2, e2, e5] at allIn
  have par := parOf_eq hpN inj
  have hsz : ((List.range g.N).map fun j => Value.ref (g.X j)).toArray.size = g.N := by simp
  have nin : ∀ q ∈ rest, ∀ b ∈ S9, q.1 ≠ b := fun q hq b hb e => (hrest q hq).2 (e ▸ hb)
  have lows : ∀ r, AllLt r ((g.SL, PySem.W.listOf ((List.range g.N).map fun j => Value.ref (g.X j)).toArray ns) :: (g.SN, PySem.W.listOf (rs.map Value.ref).toArray nl) :: (g.PL, f g.PL) :: (g.X p, instObj 1047 (g.D p)) :: (g.D p, sdict w.params t z1 z2 (g.B p) (g.C p) (g.hv p)) :: (g.B p, instObj 322 (g.BD p)) :: (g.BD p, bdict w.params u (g.Y p) (σ.at_ p) z3) :: (g.C p, PySem.W.listOf ((σ.kids p).map fun j => Value.ref (g.X j)).toArray nc) :: (g.MD, f g.MD) :: rest) → r ∉ A := fun r h hr => Nat.lt_irrefl _ (of_allLt h _ (allIn r hr))
  refine called_spec (gX := g.X) (gD := g.D) hB F X₀ N9 T hk (I.pos p) hd hu
    (tagNe G.tSL G.tSN (by simp)) (tagNe G.tSL G.tPL (by simp)) (tagNe G.tSL (G.tC p hpN) (by simp)) (tagNe G.tSN G.tPL (by simp)) (tagNe G.tSN (G.tX p hpN) (by simp)) (tagNe G.tSN (G.tD p hpN) (by simp)) (tagNe G.tSN (G.tB p hpN) (by simp)) (tagNe G.tSN (G.tE p hpN) (by simp)) (tagNe G.tSN (G.tC p hpN) (by simp))
    (tagNe G.tPL (G.tX p hpN) (by simp)) (tagNe G.tPL (G.tD p hpN) (by simp)) (tagNe G.tPL (G.tB p hpN) (by simp)) (tagNe G.tPL (G.tE p hpN) (by simp)) (tagNe G.tPL (G.tC p hpN) (by simp)) (tagNe (G.tX p hpN) (G.tC p hpN) (by simp)) (tagNe (G.tD p hpN) (G.tC p hpN) (by simp)) (tagNe (G.tB p hpN) (G.tC p hpN) (by simp)) (tagNe (G.tE p hpN) (G.tC p hpN) (by simp))
    (tagNe G.tMD G.tSL (by simp)) (tagNe G.tMD G.tSN (by simp)) (tagNe G.tMD G.tPL (by simp)) (tagNe G.tMD (G.tX p hpN) (by simp)) (tagNe G.tMD (G.tD p hpN) (by simp)) (tagNe G.tMD (G.tB p hpN) (by simp)) (tagNe G.tMD (G.tE p hpN) (by simp)) (tagNe G.tMD (G.tC p hpN) (by simp))
    (fun q hq => nin q hq _ (by simp [S9])) (fun q hq => nin q hq _ (by simp [S9])) (fun q hq => nin q hq _ (by simp [S9])) (fun q hq => nin q hq _ (by simp [S9]))
    b9 e10 (fun hb => W.sM.2 (by rw [hb]; exact Int.natCast_nonneg k)) (by simp only [List.size_toArray, List.length_map]; omega) (by simp only [List.size_toArray, List.length_map]; have := I.len p; omega)
    (by rw [hsz]; have := G.n7; omega) (by rw [hsz]; exact G.n7) (fun i hi => ?_) (fun i hi => ?_) ?_ ?_ ?_
  · rw [hsz] at hi; simp [hi]
  · rw [hsz] at hi
    by_cases h : i = p
    · exact .inl (by rw [h])
    · refine .inr ?_
      have := mrest (g.X i) (W.sX i hi).1 ?_
      · rw [(W.sX i hi).2] at this; exact this
      · simp only [S9, List.mem_cons, List.not_mem_nil, or_false, not_or]
        exact ⟨tagNe (G.tX i hi) G.tSL (by simp), tagNe (G.tX i hi) G.tSN (by simp), tagNe (G.tX i hi) G.tPL (by simp), tagNe (G.tX i hi) (G.tX p hpN) (by simp [h]), tagNe (G.tX i hi) (G.tD p hpN) (by simp), tagNe (G.tX i hi) (G.tB p hpN) (by simp), tagNe (G.tX i hi) (G.tE p hpN) (by simp), tagNe (G.tX i hi) (G.tC p hpN) (by simp), tagNe (G.tX i hi) G.tMD (by simp)⟩
  · intro hb he h' tk' r t1 t2 t3 nl' F' N' l
    rw [hsz, par] at N'
    have hr := lows r l
    have hrS : r ≠ g.SN := fun e => hr (e ▸ b7)
    have hfire : fire g.sp σ k p = ({ σ with log := σ.log ++ [((k : Int), (p : Int), σ.at_ p)] }, .done) := by
      unfold fire; dsimp only; rw [if_neg hb, if_neg he]
    refine ret (by rw [hfire]) h' tk' ?_
    rw [hfire]
    refine ⟨r :: A, upd (upd f g.SN (PySem.W.listOf ((rs.map Value.ref).toArray.push (.ref r)) nl')) r (rowOf k p (σ.at_ p) t1 t2 t3), fun b hb => ⟨.tail _ hb, fun hs => ?_⟩, F', newsSub N' fun q hq => ?_, W.addrow G hr (fun b h1 h2 => ?_) ⟨t1, t2, t3, upd_self _ _ _⟩ fun n rs' h => ⟨nl', ?_⟩⟩
    · rw [upd_ne (fun (e : b = r) => hr (e ▸ hb)), upd_ne (statNe hs G.tSN (.inr (.inr (.inr (.inl rfl)))))]
    · obtain ⟨b, o⟩ := q
      obtain ⟨hb, rfl⟩ := mem_led.mp hq
      by_cases h1 : b = r
      · subst h1; rw [upd_self]; exact .head _
      · rw [upd_ne h1]
        by_cases h2 : b = g.SN
        · subst h2; rw [upd_self]; exact .tail _ (.tail _ (.head _))
        · rw [upd_ne h2]
          have := allIn b ((List.mem_cons.mp hb).resolve_left h1)
          simp only [List.mem_cons, Prod.mk.injEq] at this ⊢
          rcases this with h | h | h | h | h | h | h | h | h | h
          · exact .inr (.inl h)
          · exact absurd h.1 h2
          · exact .inr (.inr (.inr (.inl h)))
          · exact .inr (.inr (.inr (.inr (.inl h))))
          · exact .inr (.inr (.inr (.inr (.inr (.inl h)))))
          · exact .inr (.inr (.inr (.inr (.inr (.inr (.inl h))))))
          · exact .inr (.inr (.inr (.inr (.inr (.inr (.inr (.inl h)))))))
          · exact .inr (.inr (.inr (.inr (.inr (.inr (.inr (.inr (.inl h))))))))
          · exact .inr (.inr (.inr (.inr (.inr (.inr (.inr (.inr (.inr (.inl h)))))))))
          · exact .inr (.inr (.inr (.inr (.inr (.inr (.inr (.inr (.inr (.inr (h))))))))))
    · rw [upd_ne h2, upd_ne h1]
    · rw [upd_ne (Ne.symm hrS), upd_self]
      rw [e7] at h
      have := congrArg Obj.data h
      simp only [PySem.W.listOf, Data.seq.injEq] at this
      rw [this.1]
      simp
  · intro hb he h' tk' r t1 t2 t3 nl' nc' oP' hP F' N' l
    rw [hsz, par] at N'
    have hr := lows r l
    have hrS : r ≠ g.SN := fun e => hr (e ▸ b7)
    have hrP : r ≠ g.PL := fun e => hr (e ▸ b8)
    have hrC : r ≠ g.C p := fun e => hr (e ▸ b5)
    have hSP : g.SN ≠ g.PL := tagNe G.tSN G.tPL (by simp)
    have hSC : g.SN ≠ g.C p := tagNe G.tSN (G.tC p hpN) (by simp)
    have hPC : g.PL ≠ g.C p := tagNe G.tPL (G.tC p hpN) (by simp)
    have hfire : fire g.sp σ k p = ({ σ with log := σ.log ++ [((k : Int), (p : Int), σ.at_ p)], more := -1, kids := put σ.kids p (σ.kids p ++ [g.sp]) }, .done) := by
      unfold fire; dsimp only; rw [if_neg hb, if_pos he]
    refine ret (by rw [hfire]) h' tk' ?_
    rw [hfire]
    have W1 := W.addrow (e := ((k : Int), (p : Int), σ.at_ p)) (f' := upd (upd f g.SN (PySem.W.listOf ((rs.map Value.ref).toArray.push (.ref r)) nl')) r (rowOf k p (σ.at_ p) t1 t2 t3)) G hr (fun b h1 h2 => by rw [upd_ne h2, upd_ne h1]) ⟨t1, t2, t3, upd_self _ _ _⟩ (fun n rs' h => ⟨nl', by
      rw [upd_ne (Ne.symm hrS), upd_self]
      rw [e7] at h
      have := congrArg Obj.data h
      simp only [PySem.W.listOf, Data.seq.injEq] at this
      rw [this.1]
      simp⟩)
    have W2 := W1.setplan (f' := upd (upd (upd f g.SN (PySem.W.listOf ((rs.map Value.ref).toArray.push (.ref r)) nl')) r (rowOf k p (σ.at_ p) t1 t2 t3)) g.PL oP') G (fun a h => upd_ne h) (by rw [upd_self]; exact hP) (fun h => h)
    have W3 := W2.setkids (k := p) (l := σ.kids p ++ [g.sp]) (f' := upd (upd (upd (upd f g.SN (PySem.W.listOf ((rs.map Value.ref).toArray.push (.ref r)) nl')) r (rowOf k p (σ.at_ p) t1 t2 t3)) g.PL oP') (g.C p) (PySem.W.listOf (((σ.kids p).map fun j => Value.ref (g.X j)).toArray.push (.ref (g.X g.sp))) nc')) G hpN (fun b h => upd_ne h) ⟨nc', by rw [upd_self]; simp⟩
    refine ⟨r :: A, _, fun b hb => ⟨.tail _ hb, fun hs => ?_⟩, F', newsSub N' fun q hq => ?_, W3⟩
    · rw [upd_ne (statNe hs (G.tC p hpN) (.inr (.inr (.inl rfl)))), upd_ne (statNe hs G.tPL (.inr (.inr (.inr (.inr (.inl rfl)))))), upd_ne (fun (e : b = r) => hr (e ▸ hb)), upd_ne (statNe hs G.tSN (.inr (.inr (.inr (.inl rfl)))))]
    · obtain ⟨b, o⟩ := q
      obtain ⟨hb, rfl⟩ := mem_led.mp hq
      by_cases h3 : b = g.C p
      · subst h3; rw [upd_self]; simp only [List.mem_cons, true_or, or_true]
      · rw [upd_ne h3]
        by_cases h4 : b = g.PL
        · subst h4; rw [upd_self]; simp only [List.mem_cons, true_or, or_true]
        · rw [upd_ne h4]
          by_cases h1 : b = r
          · subst h1; rw [upd_self]; exact .head _
          · rw [upd_ne h1]
            by_cases h2 : b = g.SN
            · subst h2; rw [upd_self]; exact .tail _ (.tail _ (.head _))
            · rw [upd_ne h2]
              have := allIn b ((List.mem_cons.mp hb).resolve_left h1)
              simp only [List.mem_cons, Prod.mk.injEq] at this ⊢
              rcases this with h | h | h | h | h | h | h | h | h | h
              · exact .inr (.inl h)
              · exact absurd h.1 h2
              · exact absurd h.1 h4
              · exact .inr (.inr (.inr (.inr (.inl h))))
              · exact .inr (.inr (.inr (.inr (.inr (.inl h)))))
              · exact .inr (.inr (.inr (.inr (.inr (.inr (.inl h))))))
              · exact .inr (.inr (.inr (.inr (.inr (.inr (.inr (.inl h)))))))
              · exact absurd h.1 h3
              · exact .inr (.inr (.inr (.inr (.inr (.inr (.inr (.inr (.inr (.inl h)))))))))
              · exact .inr (.inr (.inr (.inr (.inr (.inr (.inr (.inr (.inr (.inr (h))))))))))
  · intro hb h' tk' r t1 t2 t3 nl' oP' hP hfl l
    rw [hsz, par] at hfl
    have hr := lows r l
    have hrS : r ≠ g.SN := fun e => hr (e ▸ b7)
    have hfire : fire g.sp σ k p = ({ σ with log := σ.log ++ [((k : Int), (p : Int), σ.at_ p)], bomb := -1 }, .bomb) := by
      unfold fire; dsimp only; rw [if_pos hb]
    refine exc (by rw [hfire]) h' tk' ?_
    rw [hfire]
    have W1 := W.addrow (e := ((k : Int), (p : Int), σ.at_ p)) (f' := upd (upd f g.SN (PySem.W.listOf ((rs.map Value.ref).toArray.push (.ref r)) nl')) r (rowOf k p (σ.at_ p) t1 t2 t3)) G hr (fun b h1 h2 => by rw [upd_ne h2, upd_ne h1]) ⟨t1, t2, t3, upd_self _ _ _⟩ (fun n rs' h => ⟨nl', by
      rw [upd_ne (Ne.symm hrS), upd_self]
      rw [e7] at h
      have := congrArg Obj.data h
      simp only [PySem.W.listOf, Data.seq.injEq] at this
      rw [this.1]
      simp⟩)
    have W2 := W1.setplan (b := -1) (e := σ.more) (f' := upd (upd (upd f g.SN (PySem.W.listOf ((rs.map Value.ref).toArray.push (.ref r)) nl')) r (rowOf k p (σ.at_ p) t1 t2 t3)) g.PL oP') G (fun a h => upd_ne h) (by rw [upd_self]; exact hP) (fun h => absurd h (by decide))
    refine ⟨r :: A, _, fun b hb => ⟨.tail _ hb, fun hs => ?_⟩, hfl.sub fun q hq => ?_, W2, .inl ⟨rfl, rfl⟩⟩
    · rw [upd_ne (statNe hs G.tPL (.inr (.inr (.inr (.inr (.inl rfl)))))), upd_ne (fun (e : b = r) => hr (e ▸ hb)), upd_ne (statNe hs G.tSN (.inr (.inr (.inr (.inl rfl)))))]
    · obtain ⟨b, o⟩ := q
      obtain ⟨hb', rfl⟩ := mem_led.mp hq
      obtain ⟨hb, hm⟩ := List.mem_filter.mp hb'
      have hm : b ≠ g.MD := of_decide_eq_true hm
      by_cases h4 : b = g.PL
      · subst h4; rw [upd_self]; simp only [List.mem_cons, true_or, or_true]
      · rw [upd_ne h4]
        by_cases h1 : b = r
        · subst h1; rw [upd_self]; exact .head _
        · rw [upd_ne h1]
          by_cases h2 : b = g.SN
          · subst h2; rw [upd_self]; exact .tail _ (.tail _ (.head _))
          · rw [upd_ne h2]
            have := allIn b ((List.mem_cons.mp hb).resolve_left h1)
            simp only [List.mem_cons, Prod.mk.injEq] at this ⊢
            rcases this with h | h | h | h | h | h | h | h | h | h
            · exact .inr (.inl h)
            · exact absurd h.1 h2
            · exact absurd h.1 h4
            · exact .inr (.inr (.inr (.inr (.inl h))))
            · exact .inr (.inr (.inr (.inr (.inr (.inl h)))))
            · exact .inr (.inr (.inr (.inr (.inr (.inr (.inl h))))))
            · exact .inr (.inr (.inr (.inr (.inr (.inr (.inr (.inl h)))))))
            · exact .inr (.inr (.inr (.inr (.inr (.inr (.inr (.inr (.inl h))))))))
            · exact absurd h.1 hm
            · exact .inr (.inr (.inr (.inr (.inr (.inr (.inr (.inr (.inr (h)))))))))
end
end
section
local macro_rules | `(tactic| k_room) => `(tactic| ((try simp only [depth_mark, depth_under_make, depth_under_kw, depth_in1, depth_deeper, depth_caller]); (try dsimp only [ktrTop]); (simp only [recursionLimit] at *); omega))
local macro_rules | `(tactic| k_units) => `(tactic| ((simp only [units_in1, units_deeper, Around.mark_units, units_caller, cLine_is] at *); (try dsimp only [ktrTop] at *); omega))
local macro_rules | `(tactic| k_all) => `(tactic| assumption)
local macro_rules | `(tactic| k_ne) => `(tactic| ((try dsimp only); first | (refine neA ?_; with_reducible assumption) | (refine neA' ?_; with_reducible assumption)))
theorem fill_PZ : PySem.Challenge.rw_br5015_01 = PySem.Challenge.rw_br5015_01 ∧ K = K := by
  k_with_none
  k_fill
  exact ⟨rfl, rfl⟩
theorem Ext.mem {g : Geo} {A A' : List Addr} {f f' : Addr → Obj} (x : Ext g A f A' f') {b : Addr} {o : Obj} (h : (b, o) ∈ led A f) (hs : g.stat b) : (b, o) ∈ led A' f' := by
  obtain ⟨h1, h2⟩ := mem_led.mp h
  exact in_led (x b h1).1 (((x b h1).2 hs).trans h2)
section
variable {w : World} {mean : ExcName → Option Value} {mg mb : Str → Option Value}
  {dp un : Nat} {gd : Option (List Code)} {cn : Str} {cs : Scope} {a : Addr} {ccd : Value} {cl : List (Str × Addr)} {outer : List Env} {A₀ : Around} {base h₀ : Heap} {L : Addr} {m : Str → Option Value} {s : Shared}
  {Q E : Value → Shared → Prop} {g : Geo} {pre : List (Int × Int × Int)} {σ : St} {A : List Addr} {f : Addr → Obj}
theorem lam_W (G : GeoOk g) (k p : Nat) {fa c l : Addr} {oc : Obj} {vs : Array Value} {tq : Tok} {ctv : Value} {tk : Tok} {o1 o2 o3 o4 o5 o6 : Obj} (hB : Below A₀ base outer h₀) (F : Fr h₀ L s.heap m) (X₀ : (K w.params).In h₀) (N : News h₀ L s.heap (led A f))
  (hT9 : CodeHd base 1156 1152)
  (n0 : (fa, lamObj ((mg "__name__").getD .none) l c ctv) ∈ led A f) (n1 : (c, oc) ∈ led A f) (n2 : oc.data = .fields vs) (n3 : vs[1]? = some (.str lamQ tq))
  (m1 : (l + 1 + 1 + 1 + 1 + 1 + 1, o1) ∈ led A f) (m2 : (l + 1 + 1 + 1 + 1 + 1, o2) ∈ led A f) (m3 : (l + 1 + 1 + 1 + 1, o3) ∈ led A f) (m4 : (l + 1 + 1 + 1, o4) ∈ led A f) (m5 : (l + 1 + 1, o5) ∈ led A f) (m6 : (l + 1, o6) ∈ led A f)
  (d1 : o1.data = .cell (some (.ref (g.X g.sp)))) (d2 : o2.data = .cell (some (.ref g.MD))) (d3 : o3.data = .cell (some (.ref g.PL)))
  (d4 : o4.data = .cell (some (.ref g.SN))) (d5 : o5.data = .cell (some (.ref g.SL))) (d6 : o6.data = .cell (some (.int (k : Int) tk)))
  (T : Top topProg lo mean mg mb h₀) (hk : cs.kind = .function) (W : Wd w ((mg "__name__").getD .none) g pre σ A f) (I : Inv g.N σ) (hkN : k < g.N) (hpN : p < g.N) (hrows : (pre ++ σ.log).length ≤ 16000000) (hd : dp + 40 < recursionLimit) (hu : un + 300 < cLine)
  (ret : (fire g.sp σ k p).2 = .done → ∀ h' tk', After w ((mg "__name__").getD .none) g pre (fire g.sp σ k p).1 A f h₀ L m h' → Q .none { s with heap := h', toks := tk' })
  (exc : (fire g.sp σ k p).2 = .bomb → ∀ h' tk', Thrown w ((mg "__name__").getD .none) g pre (fire g.sp σ k p).1 A f h₀ L m base (envX cn cs L a ccd cl :: outer) g.MD (.type "LookupError") h' → E (.ref g.MD) { s with heap := h', toks := tk' }) :
  wpAny (model prg w) (ktrTop dp un gd cn cs L a ccd cl outer) (call (.ref fa) [.ref (g.X p)]) Q E s := by
  refine wpAny_call ?_
  k_dflt (refine' kla_code ?k1 ?k2 ?k3 ?k4 ?k5 ?kA ?kF ?kK ?k6 ?k7 ?k8 ?k9 ?kB ?_ ?c2 ?c3 ?c4 ?c5; (case kA => exact rfl); (case kF => exact rfl); (case kK => assumption); (case k1 => k_asm); (case k2 => k_asm); (case k3 => k_asm); (case k4 => k_asm); (case k5 => k_asm); (case k6 => k_mem); (case k7 => exact codeRec_news (by k_asm) (by k_mem) (by assumption) (by assumption)); (case k8 => k_room); (case k9 => exact rfl); (case c5 => decide); (case kB => exact locs rfl); (case c2 => exact rfl); (case c3 => exact rfl); (case c4 => exact rfl); k_whole; intro g' L' h' FG' F' N' B' X' T'; (try dsimp only); (try k_lift B'); (try k_fold))
  (k_with "call ref" => k_dflt (refine' called_W G k p _ ?k1 ?k2 ?k3 ?k4 ?k5 ?kK W I hkN hpN hrows ?kd ?ku ?_ ?_; (case k1 => k_asm); (case k2 => k_asm); (case k3 => k_in); (case k4 => k_asm); (case k5 => k_asm); (case kK => first | exact rfl | assumption); (case kd => k_room); (case ku => k_units)))
  k_steps
  · rename After _ _ _ _ _ _ _ _ _ _ _ => aft
    obtain ⟨A', f', x, F9, N9, W9⟩ := aft
    exact leaveK_ F9 N9 fun F8 N8 => ret (by assumption) _ _ ⟨A', f', x, F8, N8, W9⟩
  · rename Thrown _ _ _ _ _ _ _ _ _ _ _ _ _ _ _ => thr
    rename Below (ktrTop _ _ _ _ _ _ _ _ _ _) _ _ _ => B9
    obtain ⟨A', f', x, fl, W9⟩ := thr
    exact fly_next (Around.frames_deeper B9.stack) rfl fl fun h9 fl9 => exc (by assumption) _ _ ⟨A', f', x, fl9.up (by assumption), W9⟩
end
end
section
local macro_rules | `(tactic| k_room) => `(tactic| ((try simp only [depth_mark, depth_under_make, depth_under_kw, depth_in1, depth_deeper, depth_caller]); (try dsimp only [ktrTop]); (simp only [recursionLimit] at *); omega))
local macro_rules | `(tactic| k_units) => `(tactic| ((simp only [units_in1, units_deeper, Around.mark_units, units_caller, cLine_is] at *); (try dsimp only [ktrTop] at *); omega))
local macro_rules | `(tactic| k_all) => `(tactic| assumption)
local macro_rules | `(tactic| k_ne) => `(tactic| ((try dsimp only); first | (refine neA ?_; with_reducible assumption) | (refine neA' ?_; with_reducible assumption)))
theorem fill_QA : PySem.Challenge.rw_br5015_01 = PySem.Challenge.rw_br5015_01 ∧ K = K := by
  k_with_none
  k_fill
  exact ⟨rfl, rfl⟩
/-- a fact that the walk's own rules shall not see -/
def Hid (p : Prop) : Prop := p
section
variable {w : World} {mean : ExcName → Option Value} {mg mb : Str → Option Value}
  {dp un : Nat} {gd : Option (List Code)} {cn : Str} {cs : Scope} {a : Addr} {ccd : Value} {cl : List (Str × Addr)} {outer : List Env} {A₀ : Around} {base h₀ : Heap} {L : Addr} {m : Str → Option Value} {s : Shared}
  {Q E : Value → Shared → Prop} {g : Geo} {pre : List (Int × Int × Int)} {σ : St} {A : List Addr} {f : Addr → Obj}
theorem wbh_W (G : GeoOk g) (k p : Nat) (q : Int) (hq : g.pl k = some q) (hB : Below A₀ base outer h₀) (F : Fr h₀ L s.heap m) (X₀ : (K w.params).In h₀) (N : News h₀ L s.heap (led A f))
  (hT9 : Hid (CodeHd base 1156 1152)) (T : Top topProg lo mean mg mb h₀) (hk : cs.kind = .function) (W : Wd w ((mg "__name__").getD .none) g pre σ A f) (I : Inv g.N σ) (hkN : k < g.N) (hpN : p < g.N) (hrows : (pre ++ σ.log).length ≤ 16000000) (hd : dp + 60 < recursionLimit) (hu : un + 400 < cLine)
  (ret : (hand g.sp σ k p q).2 = .done → ∀ h' tk', After w ((mg "__name__").getD .none) g pre (hand g.sp σ k p q).1 A f h₀ L m h' → Q .none { s with heap := h', toks := tk' })
  (exc : (hand g.sp σ k p q).2 = .bomb → ∀ h' tk', Thrown w ((mg "__name__").getD .none) g pre (hand g.sp σ k p q).1 A f h₀ L m base (envX cn cs L a ccd cl :: outer) g.MD (.type "LookupError") h' → E (.ref g.MD) { s with heap := h', toks := tk' }) :
  wpAny (model prg w) (ktrTop dp un gd cn cs L a ccd cl outer) (call (.ref 1072) [.ref (g.H k), .ref (g.X p)]) Q E s := by
  rw [hand_fire] at ret exc
  obtain ⟨HD, LM, c, l, oc, vs, tq, ctv, t, z, o1, o2, o3, o4, o5, o6, tk, k1, k2, k3, k4, k5, k6, k7, k8, k9, k10, e1, e2, e3, e4, e5, e6, e7, e8, e9, e10, e11, e12, d1, d2, d3, d4, d5, d6⟩ := W.han k hkN q hq
  have mH := in_led k1.1 e1
  have mHD := in_led k2.1 e2
  have mX := in_led (W.sX p hpN).1 (W.sX p hpN).2
  obtain ⟨b1, tD, z1, z2, eD⟩ := W.sD p hpN
  have mD := in_led b1 eD
  have I7 := I.seek p (G.pl5 k q hq)
  refine wpAny_call ?_
  k_dflt ktr_enter
  (k_with "call ref" => k_dflt (first
    | (refine' seek_W q _ G ?k1 ?k2 ?k3 ?k4 ?k5 ?kK W I hpN (G.pl5 k q hq) ?kd ?ku ?_; (case k1 => k_asm); (case k2 => k_asm); (case k3 => k_in); (case k4 => k_asm); (case k5 => k_asm); (case kK => first | exact rfl | assumption); (case kd => k_room); (case ku => k_units);
       intro h7 tk7 aft7; obtain ⟨A7, f7, x7, F7, N7, W7⟩ := aft7; (have mH7 := x7.mem mH (.inr (.inr (.inr k1.2)))); (have mHD7 := x7.mem mHD (.inr (.inr (.inr k2.2)))); (have mX7 := x7.mem mX (.inl (by rw [G.tX p hpN]))); (have mLM7 := x7.mem (in_led k3.1 e3) (.inr (.inr (.inr k3.2)))); (have mc7 := x7.mem (in_led k4.1 e4) (.inr (.inr (.inr k4.2)))))
    | (refine' lam_W G k p ?k1 ?k2 ?k3 ?k4 ?kT (x7.mem (in_led k3.1 e3) (.inr (.inr (.inr k3.2)))) (x7.mem (in_led k4.1 e4) (.inr (.inr (.inr k4.2)))) e5 e6 (x7.mem (in_led k5.1 e7) (.inr (.inr (.inr k5.2)))) (x7.mem (in_led k6.1 e8) (.inr (.inr (.inr k6.2)))) (x7.mem (in_led k7.1 e9) (.inr (.inr (.inr k7.2)))) (x7.mem (in_led k8.1 e10) (.inr (.inr (.inr k8.2)))) (x7.mem (in_led k9.1 e11) (.inr (.inr (.inr k9.2)))) (x7.mem (in_led k10.1 e12) (.inr (.inr (.inr k10.2)))) d1 d2 d3 d4 d5 d6 ?k5 ?kK W7 I7 hkN hpN hrows ?kd ?ku ?_ ?_; (case k1 => k_asm); (case k2 => k_asm); (case k3 => k_in); (case k4 => k_asm); (case kT => exact hT9); (case k5 => k_asm); (case kK => first | exact rfl | assumption); (case kd => k_room); (case ku => k_units))))
  (k_with "callWith ref" => k_dflt (refine' callWith_F ?k1 ?_; (case k1 => exact FnAt.of N7 mLM7); k_whole))
  k_steps
  · rename After _ _ _ _ _ _ _ _ _ _ _ => aft
    obtain ⟨A', f', x, F9, N9, W9⟩ := aft
    exact leaveK_ F9 N9 fun F8 N8 => ret (by assumption) _ _ ⟨A', f', x7.trans x, F8, N8, W9⟩
  · rename Thrown _ _ _ _ _ _ _ _ _ _ _ _ _ _ _ => thr
    rename Below (ktrTop _ _ _ _ _ _ _ _ _ _) _ _ _ => B9
    obtain ⟨A', f', x, fl, W9⟩ := thr
    exact fly_next (Around.frames_deeper B9.stack) rfl fl fun h9 fl9 => exc (by assumption) _ _ ⟨A', f', x7.trans x, fl9.up (by assumption), W9⟩
end
end
section
local macro_rules | `(tactic| k_room) => `(tactic| ((try simp only [depth_mark, depth_under_make, depth_under_kw, depth_in1, depth_deeper, depth_caller]); (try dsimp only [ktrTop]); (simp only [recursionLimit] at *); omega))
local macro_rules | `(tactic| k_units) => `(tactic| ((simp only [units_in1, units_deeper, Around.mark_units, units_caller, cLine_is] at *); (try dsimp only [ktrTop] at *); omega))
local macro_rules | `(tactic| k_all) => `(tactic| assumption)
local macro_rules | `(tactic| k_ne) => `(tactic| ((try dsimp only); first | (refine neA ?_; with_reducible assumption) | (refine neA' ?_; with_reducible assumption)))
theorem fill_QN : PySem.Challenge.rw_br5015_01 = PySem.Challenge.rw_br5015_01 ∧ K = K := by
  k_with_none
  k_fill
  exact ⟨rfl, rfl⟩
theorem wb_miss : typeLookup (.type "NoneType") (Str.ofString "write_back") = pure none := am_miss_of_fast (by kernel_rfl)
theorem getAttr_none {prog : Program} {w : World} {A : Around} {E : Value → Shared → Prop} {s : Shared} {Q : Value → Shared → Prop} (hA : A.handled = none)
    (h : ∀ h' tk e, Heap.NewExcOf s.heap h' e "AttributeError" → E (.ref e) { s with heap := h', toks := tk }) :
    wpAny (model prog w) A (getAttr (.none) (Str.ofString "write_back") false) Q E s := by
  obtain ⟨hp, g, d, tk, os⟩ := s
  have hT : ∀ s' : Shared, s'.TypeIs (.none) "NoneType" := fun _ => rfl
  have f1 := sub_AttributeError
  have f3 := F.slot_NoneType_getattribute.lookup
  have f4 := F.slot_NoneType_getattribute.bind (.none)
  have f5 := am_none_getattr_none
  have hmiss := wb_miss
  have hsz : (Str.ofString "write_back").length + 100 ≤ sizeLine := by size_fits
  unfold getAttr getAttrBy
  repeat (any_goals (first | assumption | ((with_reducible show wpAny _ _ (call (Value.builtin "object.__getattribute__") _ _) _ _ _); refine call_meets F.slot_NoneType_getattribute (hT _) F.entry_object_getattribute (F.args_object_getattribute_2 _ _) (meets_getattribute_miss_none _ _ hmiss hsz) ⟨hA, fun h' tk' e hx => ?_⟩) | wp_step))
  obtain ⟨t', u', he⟩ := hx.there
  show wpAny _ _ (getattributeRaised _ _ _ _ _ _ _) _ _ _
  unfold getattributeRaised
  repeat (any_goals (first | assumption | wp_step))
  exact h _ _ _ hx.of
theorem getMethod_none {prog : Program} {w : World} {A : Around} {E : Value → Shared → Prop} {s : Shared} {Q : Value × List Value → Shared → Prop} {pl : Sem Bool} (hA : A.handled = none)
    (h : ∀ h' tk e, Heap.NewExcOf s.heap h' e "AttributeError" → E (.ref e) { s with heap := h', toks := tk }) :
    wpAny (model prog w) A (getMethod (.none) (Str.ofString "write_back") pl) Q E s := by
  have hT : s.TypeIs (.none) "NoneType" := rfl
  unfold getMethod
  refine wpAny_bind (wpAny_specialOf hT F.slot_NoneType_getattribute.lookup ?_)
  have hc : (Manifest.canonical "object.__getattribute__" != "object.__getattribute__") = false := by decide +kernel
  show wpAny _ A (if (Manifest.canonical "object.__getattribute__" != "object.__getattribute__") = true then _ else _) Q E s
  rw [hc, if_neg Bool.false_ne_true]
  refine wpAny_bind (wpAny_specialOf hT am_none_getattr_none ?_)
  refine wpAny_bind (wpAny_specialOf hT wb_miss ?_)
  exact wpAny_bind (getAttr_none hA h)

section
variable {M : Model} {A : Around} {E : Value → Shared → Prop} {s' : Shared} {base g h : Heap} {outer : List Env} {L e : Addr} {env : Env} {m : Str → Option Value} {Q : Unit → Shared → Prop} {W : List (Addr × Obj)}
/-- an exception just made leaves its first frame -/
theorem fly_new {cls : String} (hfr : A.frames = some (env :: outer)) (hf : env.frame = some L) (hk : env.scope.kind = .function) (hst : base.StaysIn g) (hff : g.FunFrames base outer) (F : Fr g L h m) (N : News g L h W)
    (hx : Heap.NewExcOf h s'.heap e cls) (hQ : ∀ h', (∀ q ∈ W, q.1 ≠ e) → Flies g L m base outer e (.type cls) W h' → Q () { s' with heap := h' }) : wpAny M A (leaving env (.ref e)) Q E s' := by
  obtain ⟨ob, vs, h1, h2, h3, h4⟩ := hx.there
  have h0 : ∃ a0, vs[0]? = some a0 := by
    have := (Array.getElem?_eq_some_iff.mp h4).1
    exact ⟨vs[0], by simp⟩
  obtain ⟨a0, h0⟩ := h0
  have F' : Fr g L s'.heap m := ⟨F.ns.keeps hx.keeps, fun b o q => hx.keeps b o (F.keep b o q), F.above⟩
  have N' : News g L s'.heap W := fun q hq => ⟨hx.keeps _ _ (N q hq).1, (N q hq).2⟩
  have hne : ∀ q ∈ W, q.1 ≠ e := fun q hq z => by
    have := (N q hq).1
    rw [z, hx.new] at this; cases this
  have heg : g.get? e = none := by
    cases hq : g.get? e with
    | none => rfl
    | some o => have := F.keep e o hq; rw [hx.new] at this; cases this
  have heL : e ≠ L := fun z => by
    obtain ⟨o, _, _, ho, _⟩ := F.ns
    rw [← z, hx.new] at ho; cases ho
  exact fly_first hfr hf hk hst hff F' N' h1 heg heL hne h3 h4 h0 fun h' hfl => hQ h' hne (h2 ▸ hfl)
end
end
section
local macro_rules | `(tactic| k_room) => `(tactic| ((try simp only [depth_mark, depth_under_make, depth_under_kw, depth_in1, depth_deeper, depth_caller]); (try dsimp only [ktrTop]); (simp only [recursionLimit] at *); omega))
local macro_rules | `(tactic| k_units) => `(tactic| ((simp only [units_in1, units_deeper, Around.mark_units, units_caller, cLine_is] at *); (try dsimp only [ktrTop] at *); omega))
local macro_rules | `(tactic| k_all) => `(tactic| assumption)
local macro_rules | `(tactic| k_ne) => `(tactic| ((try dsimp only); first | (refine neA ?_; with_reducible assumption) | (refine neA' ?_; with_reducible assumption)))
theorem fill_QB : PySem.Challenge.rw_br5015_01 = PySem.Challenge.rw_br5015_01 ∧ K = K := by
  k_with_none
  k_fill
  exact ⟨rfl, rfl⟩
section
variable {w : World} {mean : ExcName → Option Value} {mg mb : Str → Option Value}
  {dp un : Nat} {gd : Option (List Code)} {cn : Str} {cs : Scope} {a : Addr} {ccd : Value} {cl : List (Str × Addr)} {outer : List Env} {A₀ : Around} {base h₀ : Heap} {L : Addr} {m : Str → Option Value} {s : Shared}
  {Q E : Value → Shared → Prop} {g : Geo} {pre : List (Int × Int × Int)} {σ : St} {A : List Addr} {f : Addr → Obj}
theorem wbS_W (G : GeoOk g) (k p : Nat) (q : Int) (hq : g.pl k = some q) (hB : Below A₀ base outer h₀) (F : Fr h₀ L s.heap m) (X₀ : (K w.params).In h₀) (N : News h₀ L s.heap (led A f))
  (hT9 : Hid (CodeHd base 1156 1152)) (T : Top topProg lo mean mg mb h₀) (hk : cs.kind = .function) (W : Wd w ((mg "__name__").getD .none) g pre σ A f) (I : Inv g.N σ) (hkN : k < g.N) (hpN : p < g.N) (hrows : (pre ++ σ.log).length ≤ 16000000) (hd : dp + 70 < recursionLimit) (hu : un + 500 < cLine)
  (ret : (hand g.sp σ k p q).2 = .done → ∀ h' tk', After w ((mg "__name__").getD .none) g pre (hand g.sp σ k p q).1 A f h₀ L m h' → Q .none { s with heap := h', toks := tk' })
  (exc : (hand g.sp σ k p q).2 = .bomb → ∀ h' tk', Thrown w ((mg "__name__").getD .none) g pre (hand g.sp σ k p q).1 A f h₀ L m base (envX cn cs L a ccd cl :: outer) g.MD (.type "LookupError") h' → E (.ref g.MD) { s with heap := h', toks := tk' }) :
  wpAny (model prg w) (ktrTop dp un gd cn cs L a ccd cl outer) (call (.ref 1044) [.ref (g.X k), .ref (g.X p)]) Q E s := by
  obtain ⟨HD, LM, c, l, oc, vs, tq, ctv, t, z, o1, o2, o3, o4, o5, o6, tk, k1, k2, k3, k4, k5, k6, k7, k8, k9, k10, e1, e2, r⟩ := id (W.han k hkN q hq)
  have mH := in_led k1.1 e1
  have mHD := in_led k2.1 e2
  have mX := in_led (W.sX k hkN).1 (W.sX k hkN).2
  obtain ⟨b1, tD, z1, z2, eD⟩ := W.sD k hkN
  have hhv : g.hv k = .ref (g.H k) := by unfold Geo.hv; rw [hq]
  rw [hhv] at eD
  have mD := in_led b1 eD
  refine wpAny_call ?_
  k_dflt ktr_enter
  (k_with "call ref" => k_dflt (refine' wbh_W G k p q hq ?k1 ?k2 ?k3 ?k4 ?kT ?k5 ?kK W I hkN hpN hrows ?kd ?ku ?_ ?_; (case k1 => k_asm); (case k2 => k_asm); (case k3 => k_in); (case k4 => k_asm); (case kT => exact hT9); (case k5 => k_asm); (case kK => first | exact rfl | assumption); (case kd => k_room); (case ku => k_units)))
  k_steps
  · rename After _ _ _ _ _ _ _ _ _ _ _ => aft
    obtain ⟨A', f', x, F9, N9, W9⟩ := aft
    exact leaveK_ F9 N9 fun F8 N8 => ret (by assumption) _ _ ⟨A', f', x, F8, N8, W9⟩
  · rename Thrown _ _ _ _ _ _ _ _ _ _ _ _ _ _ _ => thr
    rename Below (ktrTop _ _ _ _ _ _ _ _ _ _) _ _ _ => B9
    obtain ⟨A', f', x, fl, W9⟩ := thr
    exact fly_next (Around.frames_deeper B9.stack) rfl fl fun h9 fl9 => exc (by assumption) _ _ ⟨A', f', x, fl9.up (by assumption), W9⟩
theorem wbN_W (G : GeoOk g) (k p : Nat) (hq : g.pl k = none) (hB : Below A₀ base outer h₀) (F : Fr h₀ L s.heap m) (X₀ : (K w.params).In h₀) (N : News h₀ L s.heap (led A f))
  (T : Top topProg lo mean mg mb h₀) (hk : cs.kind = .function) (W : Wd w ((mg "__name__").getD .none) g pre σ A f) (hkN : k < g.N) (hd : dp + 70 < recursionLimit) (hu : un + 500 < cLine)
  (exc : ∀ e h' tk', e ∉ A → Thrown w ((mg "__name__").getD .none) g pre σ A f h₀ L m base (envX cn cs L a ccd cl :: outer) e (.type "AttributeError") h' → E (.ref e) { s with heap := h', toks := tk' }) :
  wpAny (model prg w) (ktrTop dp un gd cn cs L a ccd cl outer) (call (.ref 1044) [.ref (g.X k), .ref (g.X p)]) Q E s := by
  have mX := in_led (W.sX k hkN).1 (W.sX k hkN).2
  obtain ⟨b1, tD, z1, z2, eD⟩ := W.sD k hkN
  have hhv : g.hv k = .none := by unfold Geo.hv; rw [hq]
  rw [hhv] at eD
  have mD := in_led b1 eD
  refine wpAny_call ?_
  k_dflt ktr_enter
  (k_with "getMethod none" => k_dflt (refine getMethod_none (by with_unfolding_all rfl) ?_))
  k_steps
  rename Below (ktrTop _ _ _ _ _ _ _ _ _ _) _ _ _ => B9
  rename Fr _ _ _ _ => F9
  rename News _ _ _ _ => N9
  rename Heap.NewExcOf _ _ _ _ => hx9
  refine fly_new (Around.frames_deeper B9.stack) rfl rfl B9.stays B9.frames F9 N9 hx9 fun h9 hne hfl => ?_
  refine exc _ _ _ (fun hm => hne _ (in_led hm rfl) rfl) ⟨A, f, Ext.refl _ _ _, (hfl.up (by assumption)).sub fun q hq => ?_, W, .inr fun hm => hne _ (in_led hm rfl) rfl⟩
  obtain ⟨b, o⟩ := q
  obtain ⟨h1, rfl⟩ := mem_led.mp hq
  exact in_led (List.mem_filter.mp h1).1 rfl
end
end
section
local macro_rules | `(tactic| k_room) => `(tactic| ((try simp only [depth_mark, depth_under_make, depth_under_kw, depth_in1, depth_deeper, depth_caller]); (try dsimp only [ktrTop]); (simp only [recursionLimit] at *); omega))
local macro_rules | `(tactic| k_units) => `(tactic| ((simp only [units_in1, units_deeper, Around.mark_units, units_caller, cLine_is] at *); (try dsimp only [ktrTop] at *); omega))
local macro_rules | `(tactic| k_all) => `(tactic| assumption)
local macro_rules | `(tactic| k_ne) => `(tactic| ((try dsimp only); first | (refine neA ?_; with_reducible assumption) | (refine neA' ?_; with_reducible assumption)))
theorem fill_QD : PySem.Challenge.rw_br5015_01 = PySem.Challenge.rw_br5015_01 ∧ K = K := by
  k_with_none
  k_fill
  exact ⟨rfl, rfl⟩
def Helds (R : Heap) (L₀ : Addr) (m₀ : Str → Option Value) (base : Heap) (l : List Env) (e : Addr) (cls : Value) (W : List (Addr × Obj)) (L : Addr) (h : Heap) : Prop :=
  ∃ B a0, base.StaysIn B ∧ (∀ q ∈ W, B.get? q.1 = some q.2 ∧ base.get? q.1 = none) ∧ Heap.HeldW B l e cls a0 L h ∧ R.UpToSlots h ∧ h.Ns L₀ m₀ ∧ R.objs.size ≤ L₀
section
variable {M : Model} {A : Around} {E : Value → Shared → Prop} {s : Shared} {base : Heap} {outer : List Env} {L e : Addr} {env : Env} {Q : Unit → Shared → Prop} {W : List (Addr × Obj)} {cls : Value}
theorem fly_looks (hfr : A.frames = some (env :: outer)) (hf : env.frame = some L) {G : Heap} {L₀ : Addr} {m₀ : Str → Option Value} (R : Flies G L₀ m₀ base (env :: outer) e cls W s.heap)
    (hQ : ∀ h', Helds G L₀ m₀ base (env :: outer) e cls W L h' → Q () { s with heap := h' }) : wpAny M A (noteFrame (.ref e) env) Q E s := by
  obtain ⟨B, a0, h1, h2, h3, h4, h5, h6⟩ := R
  exact wpAny_looks_onW hfr hf h3 fun h' x1 x2 => hQ h' ⟨B, a0, h1, h2, x1, h4.trans x2, x2.ns h5, h6⟩
theorem held_leaves (hf : env.frame = some L) {G : Heap} {L₀ : Addr} {m₀ : Str → Option Value} (R : Helds G L₀ m₀ base (env :: outer) e cls W L s.heap)
    (hQ : ∀ h', Flies G L₀ m₀ base outer e cls W h' → Q () { s with heap := h' }) : wpAny M A (leaving env (.ref e)) Q E s := by
  obtain ⟨B, a0, h1, h2, h3, h4, h5, h6⟩ := R
  unfold leaving
  refine wpAny_bind (wpAny_noteFrame_againW hf h3.2.2.2 ?_)
  refine wpAny_landsW h3 fun h' hfl x2 => ?_
  obtain ⟨k1, k2, ⟨_, _, k3⟩, k4⟩ := hfl
  exact hQ h' ⟨B, a0, h1, h2, ⟨k1, k2, k3, k4⟩, h4.trans x2, x2.ns h5, h6⟩
end
section
variable {M : Model} {A : Around} {E : Value → Shared → Prop} {s : Shared} {base : Heap} {l : List Env} {L e : Addr} {env : Env} {W : List (Addr × Obj)} {cls : Value}
theorem setFlight_held {a0 fl : Value} {Q : Unit → Shared → Prop} (hkb : base.StaysIn s.heap) (hl : s.heap.FunFrames base l) (ht : s.heap.TracedAtW base e cls a0 fl)
    (h : ∀ h', base.StaysIn h' → h'.FunFrames base l → h'.TracedAtW base e cls a0 (rawInt L) → s.heap.UpToSlots h' → Q () { s with heap := h' }) : wpAny M A (setFlight (.ref e) (some L)) Q E s := by
  obtain ⟨oe, vs, T, oT, ts, he, hcls, hd, h1, hnT, hTe, hT, hdT, h3⟩ := ht
  have hsz3 : 3 < ts.size := (Array.getElem?_eq_some_iff.mp h3).1
  have other : ∀ b, b ≠ T → (s.heap.update T (Obj.mapFields (·.setIfInBounds 3 ((some L : Option Addr).elim Value.none fun f => rawInt f)))).get? b = s.heap.get? b :=
    fun b hb => Heap.get?_update_other _ _ (Ne.symm hb)
  have noRecord : ∀ b o, s.heap.get? b = some o → (∀ vs, o.data ≠ .fields vs) → b ≠ T := fun b o hb hnf q => by
    rw [q, hT] at hb; injection hb with hb; subst hb; exact hnf ts hdT
  unfold setFlight
  refine wpAny_bind (wpAny_field he hd h1 ?_)
  rw [if_pos (show (Value.ref T != Value.none) = true from by simp)]
  refine wpAny_setField hT hdT hsz3 (h _ (fun b o hbo => (other b fun q => by rw [q, hnT] at hbo; cases hbo).trans (hkb b o hbo))
    (hl.of_keeps fun b o hb hnf => ⟨o, (other b (noRecord b o hb hnf)).trans hb, rfl⟩) ?_ fun b o hb hnf => ⟨o.slots, (other b (noRecord b o hb hnf)).trans hb⟩)
  exact ⟨oe, vs, T, _, _, (other e (Ne.symm hTe)).trans he, hcls, hd, h1, hnT, hTe, Heap.get?_update_self _ hT (Obj.isFreed_of_fields (Obj.data_mapFields hdT _)), Obj.data_mapFields hdT _, by simp [hsz3]⟩
/-- the loop's own turn back into its frame -/
theorem held_back (hf : env.frame = some L) {G : Heap} {L₀ : Addr} {m₀ : Str → Option Value} (R : Helds G L₀ m₀ base l e cls W L s.heap) (hE : ∀ h', Helds G L₀ m₀ base l e cls W L h' → E (.ref e) { s with heap := h' }) : cameBackBy M A env E (.ref e) s := by
  obtain ⟨B, a0, h1, h2, ⟨f1, f2, f3, f4⟩, hup, h5, h6⟩ := R
  have f4' := f4
  obtain ⟨oe, vs, T, oT, ts, he, hcls, hd, h1', hnT, hTe, hT, hdT, h3⟩ := f4'
  unfold cameBackBy
  refine wpAny_bind (wpAny_field he hd h1' ?_)
  rw [if_neg (show ¬ ((Value.ref T == Value.none) = true) from by simp)]
  rw [hf]
  exact setFlight_held f1 f3 f4 fun h' k1 k2 k3 k4 => hE h' ⟨B, a0, h1, h2, ⟨k1, f2, k2, k3⟩, hup.trans k4, k4.ns h5, h6⟩
end
end
section
local macro_rules | `(tactic| k_room) => `(tactic| ((try simp only [depth_mark, depth_under_make, depth_under_kw, depth_in1, depth_deeper, depth_caller]); (try dsimp only [ktrTop]); (simp only [recursionLimit] at *); omega))
local macro_rules | `(tactic| k_units) => `(tactic| ((simp only [units_in1, units_deeper, Around.mark_units, units_caller, cLine_is] at *); (try dsimp only [ktrTop] at *); omega))
local macro_rules | `(tactic| k_all) => `(tactic| assumption)
local macro_rules | `(tactic| k_ne) => `(tactic| ((try dsimp only); first | (refine neA ?_; with_reducible assumption) | (refine neA' ?_; with_reducible assumption)))
theorem fill_QE : PySem.Challenge.rw_br5015_01 = PySem.Challenge.rw_br5015_01 ∧ K = K := by
  k_with_none
  k_fill
  exact ⟨rfl, rfl⟩
theorem Wd.tag9 {w : World} {nm : Value} {g : Geo} {pre : List (Int × Int × Int)} {σ : St} {A : List Addr} {f : Addr → Obj} (G : GeoOk g) (W : Wd w nm g pre σ A f) {r : Addr} (hr : r ∉ A) : 9 ≤ (g.tag r).1 := by
  by_cases h : 9 ≤ (g.tag r).1
  · exact h
  · rcases G.full r (by omega) with ⟨k, hk, h | h | h | h | h⟩ | h | h | h | h <;> subst h
    · exact absurd (W.sX k hk).1 hr
    · exact absurd (W.sD k hk).1 hr
    · exact absurd (W.sB k hk).1 hr
    · exact absurd (W.sE k hk).1 hr
    · exact absurd (W.sC k hk).1 hr
    · exact absurd W.sL.1 hr
    · exact absurd W.sN.1 hr
    · exact absurd W.sP.1 hr
    · exact absurd W.sM.1 hr
abbrev iterData (l : Addr) (i : Nat) : Data := .fields #[.ref l, .int i 0]
structure IsIter (o : Obj) (l : Addr) (i : Nat) : Prop where
  cls : o.cls = .type "list_iterator"
  data : o.data = iterData l i
theorem HanF.apart {w : World} {nm : Value} {g : Geo} {ok : Addr → Prop} {f : Addr → Obj} {k : Nat} {q : Int} {x l₀ : Addr} {i : Nat} (h : HanF w nm g ok f k q) (hx : IsIter (f x) l₀ i) : HanF w nm g (fun b => ok b ∧ b ≠ x) f k q := by
  obtain ⟨HD, LM, c, l, oc, vs, tq, ctv, t, z, o1, o2, o3, o4, o5, o6, tk, k1, k2, k3, k4, k5, k6, k7, k8, k9, k10, e1, e2, e3, e4, e5, e6, e7, e8, e9, e10, e11, e12, d1, d2, d3, d4, d5, d6⟩ := h
  have hc := hx.cls
  have hd := hx.data
  have cell : ∀ b (ob : Obj) v, f b = ob → ob.data = .cell v → b ≠ x := fun b ob v e d z => by
    rw [← z, e, d] at hd; cases hd
  refine ⟨HD, LM, c, l, oc, vs, tq, ctv, t, z, o1, o2, o3, o4, o5, o6, tk, ⟨k1, fun z => ?_⟩, ⟨k2, fun z => ?_⟩, ⟨k3, fun z => ?_⟩, ⟨k4, fun z => ?_⟩, ⟨k5, cell _ _ _ e7 d1⟩, ⟨k6, cell _ _ _ e8 d2⟩, ⟨k7, cell _ _ _ e9 d3⟩, ⟨k8, cell _ _ _ e10 d4⟩, ⟨k9, cell _ _ _ e11 d5⟩, ⟨k10, cell _ _ _ e12 d6⟩, e1, e2, e3, e4, e5, e6, e7, e8, e9, e10, e11, e12, d1, d2, d3, d4, d5, d6⟩
  · rw [← z, e1] at hc; cases hc
  · rw [← z, e2] at hc; simp at hc
  · rw [← z, e3] at hc; simp at hc
  · rw [← z, e4, e5] at hd
    have hv : vs = #[.ref l₀, .int i 0] := by injection hd
    rw [hv] at e6
    simp at e6
theorem HanF.turn {w : World} {nm : Value} {g : Geo} {ok : Addr → Prop} {f : Addr → Obj} {k : Nat} {q : Int} {x l₀ : Addr} {i : Nat} {o : Obj} (h : HanF w nm g ok f k q) (hx : IsIter (f x) l₀ i) : HanF w nm g ok (upd f x o) k q :=
  (h.apart hx).mono fun _ ha => ⟨ha.1, upd_ne ha.2⟩
/-- an iterator of the world is turned -/
theorem Wd.setiter {w : World} {nm : Value} {g : Geo} {pre : List (Int × Int × Int)} {σ : St} {A : List Addr} {f : Addr → Obj} (G : GeoOk g) (W : Wd w nm g pre σ A f) {x l₀ : Addr} {i : Nat} {o : Obj} (hx : 9 ≤ (g.tag x).1) (hit : IsIter (f x) l₀ i) : Wd w nm g pre σ A (upd f x o) where
  nod := W.nod
  sX := fun k hk => ⟨(W.sX k hk).1, by rw [upd_ne (fun e => by rw [← e, G.tX k hk] at hx; exact absurd hx (by simp))]; exact (W.sX k hk).2⟩
  sD := fun k hk => ⟨(W.sD k hk).1, by rw [upd_ne (fun e => by rw [← e, G.tD k hk] at hx; exact absurd hx (by simp))]; exact (W.sD k hk).2⟩
  sB := fun k hk => ⟨(W.sB k hk).1, by rw [upd_ne (fun e => by rw [← e, G.tB k hk] at hx; exact absurd hx (by simp))]; exact (W.sB k hk).2⟩
  sE := fun k hk => ⟨(W.sE k hk).1, by rw [upd_ne (fun e => by rw [← e, G.tE k hk] at hx; exact absurd hx (by simp))]; exact (W.sE k hk).2⟩
  sC := fun k hk => ⟨(W.sC k hk).1, by rw [upd_ne (fun e => by rw [← e, G.tC k hk] at hx; exact absurd hx (by simp))]; exact (W.sC k hk).2⟩
  sL := ⟨W.sL.1, by rw [upd_ne (fun e => by rw [← e, G.tSL] at hx; exact absurd hx (by simp))]; exact W.sL.2⟩
  sN := ⟨W.sN.1, by
    obtain ⟨_, n, rs, h1, h2, h3⟩ := W.sN
    refine ⟨n, rs, by rw [upd_ne (fun e => by rw [← e, G.tSN] at hx; exact absurd hx (by simp))]; exact h1, h2, fun i r e hr he => ?_⟩
    obtain ⟨a1, a2, t1, t2, t3, a3⟩ := h3 i r e hr he
    exact ⟨a1, a2, t1, t2, t3, by
      rw [upd_ne (fun z => by have := hit.cls; rw [← z, a3] at this; simp at this)]; exact a3⟩⟩
  sP := ⟨W.sP.1, W.sP.2.1, by rw [upd_ne (fun e => by rw [← e, G.tPL] at hx; exact absurd hx (by simp))]; exact W.sP.2.2⟩
  sM := ⟨W.sM.1, by rw [upd_ne (fun e => by rw [← e, G.tMD] at hx; exact absurd hx (by simp))]; exact W.sM.2⟩
  han := fun k hk q hq => (W.han k hk q hq).turn hit

/-- an iterator of the world is dropped -/
theorem Wd.dropiter {w : World} {nm : Value} {g : Geo} {pre : List (Int × Int × Int)} {σ : St} {A : List Addr} {f : Addr → Obj} (G : GeoOk g) (W : Wd w nm g pre σ A f) {x l₀ : Addr} {i : Nat} (hx : 9 ≤ (g.tag x).1) (hit : IsIter (f x) l₀ i) : Wd w nm g pre σ (A.filter (· ≠ x)) f where
  nod := W.nod.filter _
  sX := fun k hk => ⟨List.mem_filter.mpr ⟨(W.sX k hk).1, decide_eq_true fun e => by rw [← e, G.tX k hk] at hx; exact absurd hx (by simp)⟩, (W.sX k hk).2⟩
  sD := fun k hk => ⟨List.mem_filter.mpr ⟨(W.sD k hk).1, decide_eq_true fun e => by rw [← e, G.tD k hk] at hx; exact absurd hx (by simp)⟩, (W.sD k hk).2⟩
  sB := fun k hk => ⟨List.mem_filter.mpr ⟨(W.sB k hk).1, decide_eq_true fun e => by rw [← e, G.tB k hk] at hx; exact absurd hx (by simp)⟩, (W.sB k hk).2⟩
  sE := fun k hk => ⟨List.mem_filter.mpr ⟨(W.sE k hk).1, decide_eq_true fun e => by rw [← e, G.tE k hk] at hx; exact absurd hx (by simp)⟩, (W.sE k hk).2⟩
  sC := fun k hk => ⟨List.mem_filter.mpr ⟨(W.sC k hk).1, decide_eq_true fun e => by rw [← e, G.tC k hk] at hx; exact absurd hx (by simp)⟩, (W.sC k hk).2⟩
  sL := ⟨List.mem_filter.mpr ⟨W.sL.1, decide_eq_true fun e => by rw [← e, G.tSL] at hx; exact absurd hx (by simp)⟩, W.sL.2⟩
  sN := ⟨List.mem_filter.mpr ⟨W.sN.1, decide_eq_true fun e => by rw [← e, G.tSN] at hx; exact absurd hx (by simp)⟩, by
    obtain ⟨_, n, rs, h1, h2, h3⟩ := W.sN
    refine ⟨n, rs, h1, h2, fun i r e hr he => ?_⟩
    obtain ⟨a1, a2, t1, t2, t3, a3⟩ := h3 i r e hr he
    exact ⟨List.mem_filter.mpr ⟨a1, decide_eq_true fun z => by have := hit.cls; rw [← z, a3] at this; simp at this⟩, a2, t1, t2, t3, a3⟩⟩
  sP := ⟨List.mem_filter.mpr ⟨W.sP.1, decide_eq_true fun e => by rw [← e, G.tPL] at hx; exact absurd hx (by simp)⟩, W.sP.2⟩
  sM := ⟨List.mem_filter.mpr ⟨W.sM.1, decide_eq_true fun e => by rw [← e, G.tMD] at hx; exact absurd hx (by simp)⟩, W.sM.2⟩
  han := fun k hk q hq => ((W.han k hk q hq).apart hit).mono fun _ ha => ⟨⟨List.mem_filter.mpr ⟨ha.1.1, decide_eq_true ha.2⟩, ha.1.2⟩, rfl⟩
end
section
local macro_rules | `(tactic| k_room) => `(tactic| ((try simp only [depth_mark, depth_under_make, depth_under_kw, depth_in1, depth_deeper, depth_caller]); (try dsimp only [ktrTop]); (simp only [recursionLimit] at *); omega))
local macro_rules | `(tactic| k_units) => `(tactic| ((simp only [units_in1, units_deeper, Around.mark_units, units_caller, cLine_is] at *); (try dsimp only [ktrTop] at *); omega))
local macro_rules | `(tactic| k_all) => `(tactic| assumption)
local macro_rules | `(tactic| k_ne) => `(tactic| ((try dsimp only); first | (refine neA ?_; with_reducible assumption) | (refine neA' ?_; with_reducible assumption)))
theorem fill_QL : PySem.Challenge.rw_br5015_01 = PySem.Challenge.rw_br5015_01 ∧ K = K := by
  k_with_none
  k_fill
  exact ⟨rfl, rfl⟩
/-- which exception a result means -/
def Says (g : Geo) (r : Res) (e : Addr) (cls : Value) : Prop := (r = .bomb → e = g.MD ∧ cls = .type "LookupError") ∧ (r = .none → cls = .type "AttributeError")
def HeldAt (w : World) (nm : Value) (g : Geo) (pre : List (Int × Int × Int)) (σ : St) (A : List Addr) (f : Addr → Obj) (h₀ base : Heap) (l : List Env) (e : Addr) (cls : Value) (L : Addr) (h' : Heap) : Prop :=
  ∃ A' f' m', Ext g A f A' f' ∧ Helds h₀ L m' base l e cls (led (A'.filter (· ≠ e)) f') L h' ∧ Wd w nm g pre σ A' f' ∧ ((e = g.MD ∧ cls = .type "LookupError") ∨ e ∉ A')
section
variable {w : World} {nm : Value} {g : Geo} {pre : List (Int × Int × Int)} {σ : St} {A : List Addr} {f : Addr → Obj} {AA : Around} {name : Str} {scope : Scope} {a : Addr} {cd : Value} {outer : List Env} {base g₀ : Heap} {L : Addr} {m : Str → Option Value} {s : Shared}
  {Q : Flow → Shared → Prop} {E : Value → Shared → Prop}
/-- the loop over a stream's children, a list that may grow while it is walked -/
theorem loop_W (G : GeoOk g) {k : Nat} (hkN : k < g.N) {x : Str} {px : Pos} {body : List Stmt} (step : St → Nat → St × Res) {c : Nat}
    (hsk : scope.kind = .function) (hl : (envOf name scope L a cd).kindOf x = some .local) (hh : AA.handled = none) (hfr : AA.frames = some (envOf name scope L a cd :: outer))
    (F : Fr g₀ L s.heap m) (N : News g₀ L s.heap (led A f)) (W : Wd w nm g pre σ A f) (I : Inv g.N σ)
    (hI : ∀ σ j, Inv g.N σ → k < j → j < g.N → Inv g.N (step σ j).1) (hlog : ∀ σ j, ∃ l, (step σ j).1.log = σ.log ++ l ∧ l.length ≤ c) {lim : Nat} (hrows : (pre ++ σ.log).length + 8 * c ≤ lim)
    (hbody : ∀ σ' A' f' h tk j, k < j → j < g.N → (pre ++ σ'.log).length + c ≤ lim → Fr g₀ L h (fun y => if y = x then some (.ref (g.X j)) else m y) → News g₀ L h (led A' f') → Wd w nm g pre σ' A' f' → Inv g.N σ' →
      wpAny (model prg w) AA (execs body (envOf name scope L a cd)) (fun fl s₂ => fl = .next ∧ (step σ' j).2 = .done ∧ ∃ h2 tk2, s₂ = { s with heap := h2, toks := tk2 } ∧ After w nm g pre (step σ' j).1 A' f' g₀ L (fun y => if y = x then some (.ref (g.X j)) else m y) h2)
        (fun ev s₂ => (step σ' j).2 ≠ .done ∧ ∃ e cls h2 tk2, ev = .ref e ∧ s₂ = { s with heap := h2, toks := tk2 } ∧ Says g (step σ' j).2 e cls ∧ Thrown w nm g pre (step σ' j).1 A' f' g₀ L (fun y => if y = x then some (.ref (g.X j)) else m y) base (envOf name scope L a cd :: outer) e cls h2) { s with heap := h, toks := tk })
    (hdone : (loopK step 8 σ k 0).2 = .done → ∀ h tk m', (∀ y, y ≠ x → m' y = m y) → After w nm g pre (loopK step 8 σ k 0).1 A f g₀ L m' h → Q .next { s with heap := h, toks := tk })
    (hfail : (loopK step 8 σ k 0).2 ≠ .done → ∀ e cls h tk, Says g (loopK step 8 σ k 0).2 e cls → HeldAt w nm g pre (loopK step 8 σ k 0).1 A f g₀ base (envOf name scope L a cd :: outer) e cls L h → E (.ref e) { s with heap := h, toks := tk }) :
    wpAny (model prg w) AA (pyIter (.ref (g.C k))) (fun it s₂ => codeAny (model prg w) AA (.forLoop (.Name x px) it body [] (envOf name scope L a cd)) (fun r s' => match r with | .ok fl => Q fl s' | .error e => cameBackBy (model prg w) AA (envOf name scope L a cd) E e s') s₂) E s := by
  obtain ⟨bC, nC, eC⟩ := W.sC k hkN
  have hlist : s.heap.IsList (g.C k) ((σ.kids k).map fun j => Value.ref (g.X j)).toArray := ⟨_, (N _ (in_led bC eC)).1, rfl, nC, rfl⟩
  refine wpAny_pyIter_list hlist ?_
  have hitA : s.heap.objs.size ∉ A := fun h => absurd (Heap.lt_size (N _ (in_led h rfl)).1) (Nat.lt_irrefl _)
  have htag := W.tag9 G hitA
  have N1 := News.push (o := { cls := .type "list_iterator", data := .fields #[.ref (g.C k), .int 0 0] }) F N rfl
  have F1 := F.push { cls := .type "list_iterator", data := .fields #[.ref (g.C k), .int 0 0] }
  have W1 := W.grow (o := { cls := .type "list_iterator", data := .fields #[.ref (g.C k), .int 0 0] }) G hitA
  generalize s.heap.objs.size = it at hitA htag N1 W1 ⊢
  refine codeAny_forLoop (fun n s' => ∃ i σi Ai fi h tk mi, n + i = 9 ∧ s' = { s with heap := h, toks := tk } ∧ it ∈ Ai ∧ IsIter (fi it) (g.C k) i ∧ Ext g A f Ai fi ∧ Fr g₀ L h mi ∧ (∀ y, y ≠ x → mi y = m y) ∧ News g₀ L h (led Ai fi) ∧ Wd w nm g pre σi Ai fi ∧ Inv g.N σi ∧
    loopK step (8 - i) σi k i = loopK step 8 σ k 0 ∧ (pre ++ σi.log).length + (8 - i) * c ≤ lim) ?_ 9 ⟨0, σ, it :: A, _, _, _, m, rfl, rfl, List.Mem.head _, ?_, ?_, F1, fun _ _ => rfl, ?_, W1, I, rfl, hrows⟩
  · rintro n s' ⟨i, σi, Ai, fi, h, tk, mi, hn, rfl, hit, hIt, hx, Fi, hm, Ni, Wi, Ii, hloop, hr⟩
    obtain ⟨bCi, nCi, eCi⟩ := Wi.sC k hkN
    have hl1 : h.IsList (g.C k) ((σi.kids k).map fun j => Value.ref (g.X j)).toArray := ⟨_, (Ni _ (in_led bCi eCi)).1, rfl, nCi, rfl⟩
    have hi1 : h.IsListIter it (g.C k) i := ⟨_, (Ni _ (in_led hit rfl)).1, hIt.cls, hIt.data⟩
    have hitL : it ≠ L := (Ni _ (in_led hit rfl)).2.1
    have hitg : g₀.get? it = none := (Ni _ (in_led hit rfl)).2.2
    cases hj : (σi.kids k)[i]? with
    | none =>
      refine wpAny_pyNext_list_end hh hi1 hl1 (by simp [hj]) fun h' hs => wpAny_execs_nil ?_
      have hfin : loopK step (8 - i) σi k i = (σi, .done) := by
        cases 8 - i with
        | zero => rfl
        | succ q => simp only [loopK, hj]
      rw [hfin] at hloop
      refine hdone (by rw [← hloop]) h' tk mi hm ?_
      rw [← hloop]
      refine ⟨Ai.filter (· ≠ it), fi, fun b hb => ⟨List.mem_filter.mpr ⟨(hx b hb).1, decide_eq_true fun z => hitA (z ▸ hb)⟩, (hx b hb).2⟩, ⟨Fi.ns.extBut hs (Ne.symm hitL), fun b o e => hs b o (fun z => by rw [z, hitg] at e; cases e) (Fi.keep b o e), Fi.above⟩, fun q hq => ?_, Wi.dropiter G htag hIt⟩
      obtain ⟨b, o⟩ := q
      obtain ⟨hb, rfl⟩ := mem_led.mp hq
      obtain ⟨hb1, hb2⟩ := List.mem_filter.mp hb
      have := Ni _ (in_led hb1 rfl)
      exact ⟨hs b _ (of_decide_eq_true hb2) this.1, this.2⟩
    | some j =>
      have hmem := Ii.up k j (List.mem_of_getElem? hj)
      have hi8 : i < (σi.kids k).length := (List.getElem?_eq_some_iff.mp hj).1
      have hlen := Ii.len k
      obtain ⟨q, hq⟩ : ∃ q, 8 - i = q + 1 := ⟨7 - i, by omega⟩
      refine wpAny_pyNext_list_item hi1 hl1 (x := .ref (g.X j)) (by simp [hj]) fun h' hit' hs => ?_
      obtain ⟨o', ho', hc', hd'⟩ := hit'
      have F2 : Fr g₀ L h' mi := ⟨Fi.ns.sameBut hs (Ne.symm hitL), fun b o e => (hs.2 b (fun z => by rw [z, hitg] at e; cases e)).trans (Fi.keep b o e), Fi.above⟩
      have N2 : News g₀ L h' (led Ai (upd fi it o')) := fun p hp => by
        obtain ⟨b, o⟩ := p
        obtain ⟨hb, rfl⟩ := mem_led.mp hp
        have hb1 := Ni _ (in_led hb rfl)
        by_cases z : b = it
        · subst z; rw [upd_self]; exact ⟨ho', hb1.2⟩
        · rw [upd_ne z]; exact ⟨(hs.2 b z).trans hb1.1, hb1.2⟩
      have W2 := Wi.setiter (o := o') G htag hIt
      have hx2 : ∀ b ∈ A, b ∈ Ai ∧ (g.stat b → upd fi it o' b = f b) := fun b hb => ⟨(hx b hb).1, fun hst => (upd_ne fun (z : b = it) => hitA (z ▸ hb)).trans ((hx b hb).2 hst)⟩
      have hstep : loopK step (8 - i) σi k i = match step σi j with | (σ', .done) => loopK step q σ' k (i + 1) | (σ', r) => (σ', r) := by
        rw [hq]
        conv => lhs; unfold loopK
        rw [hj]
        all_goals rfl
      refine wpAny_assign_Name (stN F2 N2 (fun h3 F3 N3 => ?_) hsk hl)
      have em : (fun y => if y = x then some (Value.ref (g.X j)) else mi y) = (fun y => if y = x then some (Value.ref (g.X j)) else m y) := by
        funext y
        by_cases hy : y = x
        · rw [if_pos hy, if_pos hy]
        · rw [if_neg hy, if_neg hy, hm y hy]
      rw [em] at F3
      refine wpAny_mono (hbody σi Ai (upd fi it o') h3 _ j hmem.1 hmem.2 (by rw [hq] at hr; rw [Nat.succ_mul] at hr; omega) F3 N3 W2 Ii) (fun fl s₂ hp => ?_) (fun ev s₂ hp => ?_)
      · obtain ⟨rfl, hdn, h2, tk2, rfl, A2, f2, x2, F4, N4, W4⟩ := hp
        obtain ⟨l, hl1, hl2⟩ := hlog σi j
        have hf2 : f2 it = o' := ((x2 it hit).2 (.inr (.inr (.inr htag)))).trans (upd_self _ _ _)
        refine ⟨n - 1, by omega, i + 1, (step σi j).1, A2, f2, h2, tk2, _, by omega, rfl, (x2 it hit).1, hf2 ▸ ⟨hc', hd'⟩, fun b hb => ⟨(x2 b (hx2 b hb).1).1, fun hst => ((x2 b (hx2 b hb).1).2 hst).trans ((hx2 b hb).2 hst)⟩, F4, fun y hy => if_neg hy, N4, W4, hI σi j Ii hmem.1 hmem.2, ?_, ?_⟩
        · rw [← hloop, hstep]
          have e8 : 8 - (i + 1) = q := by omega
          rw [e8]
          generalize step σi j = r at hdn ⊢
          obtain ⟨r1, r2⟩ := r
          dsimp only at hdn ⊢
          subst hdn
          rfl
        · have e8 : 8 - (i + 1) = q := by omega
          rw [e8, hl1]
          rw [hq, Nat.succ_mul] at hr
          simp only [List.length_append] at hr ⊢
          omega
      · obtain ⟨hnd, e, cls, h2, tk2, rfl, rfl, hsay, A2, f2, x2, hfl, W4⟩ := hp
        refine fly_looks hfr rfl hfl fun h5 held => ?_
        refine held_back rfl held fun h6 held6 => ?_
        have hfin : loopK step 8 σ k 0 = ((step σi j).1, (step σi j).2) := by
          rw [← hloop, hstep]
          generalize step σi j = r at hnd ⊢
          obtain ⟨r1, r2⟩ := r
          dsimp only at hnd ⊢
          cases r2
          · exact absurd rfl hnd
          · rfl
          · rfl
        refine hfail (by rw [hfin]; exact hnd) e cls h6 _ (by rw [hfin]; exact hsay) ?_
        rw [hfin]
        exact ⟨A2, f2, _, fun b hb => ⟨(x2 b (hx2 b hb).1).1, fun hst => ((x2 b (hx2 b hb).1).2 hst).trans ((hx2 b hb).2 hst)⟩, held6, W4⟩
  · rw [upd_self]; exact ⟨rfl, rfl⟩
  · exact fun b hb => ⟨.tail _ hb, fun _ => upd_ne fun z => hitA (z ▸ hb)⟩
  · refine newsSub N1 fun q hq => ?_
    obtain ⟨b, o⟩ := q
    obtain ⟨hb, rfl⟩ := mem_led.mp hq
    by_cases z : b = it
    · subst z; rw [upd_self]; exact .head _
    · rw [upd_ne z]; exact .tail _ (in_led ((List.mem_cons.mp hb).resolve_left z) rfl)
end
end
section
local macro_rules | `(tactic| k_room) => `(tactic| ((try simp only [depth_mark, depth_under_make, depth_under_kw, depth_in1, depth_deeper, depth_caller]); (try dsimp only [ktrTop]); (simp only [recursionLimit] at *); omega))
local macro_rules | `(tactic| k_units) => `(tactic| ((simp only [units_in1, units_deeper, Around.mark_units, units_caller, cLine_is] at *); (try dsimp only [ktrTop] at *); omega))
local macro_rules | `(tactic| k_all) => `(tactic| assumption)
local macro_rules | `(tactic| k_ne) => `(tactic| ((try dsimp only); first | (refine neA ?_; with_reducible assumption) | (refine neA' ?_; with_reducible assumption)))
theorem fill_QS : PySem.Challenge.rw_br5015_01 = PySem.Challenge.rw_br5015_01 ∧ K = K := by
  k_with_none
  k_fill
  exact ⟨rfl, rfl⟩
section
variable {prog : Program} {w : World} {A : Around} {E : Value → Shared → Prop} {s : Shared}
theorem cut_all (xs : Array Value) : (xs.toList.zipIdx.filterMap fun (p : Value × Nat) => if ((0 : Int) ≤ (p.2 : Int) && (p.2 : Int) < (xs.size : Int) && ((p.2 : Int) - 0) % 1 == 0) = true then none else some p.1).toArray = #[] := by
  rw [List.filterMap_eq_nil_iff.mpr]
  intro p hp
  obtain ⟨x, k⟩ := p
  have hk := List.mem_zipIdx hp
  have h1 : k < xs.size := by have := hk.2.1; simpa using this
  have h2 : ((0 : Int) ≤ (k : Int)) := Int.natCast_nonneg k
  have h3 : ((k : Int) < (xs.size : Int)) := by omega
  simp [h3]
/-- del xs[:] -/
theorem del_all {l sl : Addr} {items : Array Value} {n : Nat} {Q : Unit → Shared → Prop} (hl : s.heap.get? l = some (PySem.W.listOf items n)) (hs : s.heap.IsSliceOf sl .none .none .none) (hsz : items.size ≤ sizeLine)
    (h : ∀ h' n', Heap.SameBut l s.heap h' → h'.get? l = some (PySem.W.listOf #[] n') → Q () { s with heap := h' }) : wpAny (model prog w) A (delItem (.ref l) (.ref sl)) Q E s := by
  obtain ⟨os, hos, hcs, hds⟩ := id hs
  have hTs : s.TypeIs (.ref sl) "slice" := ⟨os, hos, hcs⟩
  have hTl : s.TypeIs (.ref l) "list" := ⟨_, hl, rfl⟩
  refine wpAny_delItem_slot hTl (by decide) F.slot_list_delitem (wpAny_call_entry F.slot_list_delitem hTl F.entry_list_delitem ?_ (F.args_list_delitem_2 _ _))
  show wpAny _ _ (Builtin.List.listSubscript? (.ref sl) >>= _) _ _ s
  refine wpAny_bind ?_
  unfold Builtin.List.listSubscript?
  refine wpAny_bind (wpAny_specialOf hTs slice_no_index ?_)
  simp only [Option.isNone_none, if_true]
  refine wpAny_pure ?_
  show wpAny _ _ (typeOf (.ref sl) >>= _) _ _ s
  refine wpAny_bind (wpAny_typeOf hTs ?_)
  rw [if_neg (by decide)]
  rw [listSliceParts_eq]
  have hstep : ¬ ((rawPart none == rawInt 0) = true) := Bool.false_ne_true
  refine wpAny_bind (wpAny_bind (wpAny_field hos hds (x := .none) rfl (wpAny_bind (wpAny_listPart .none ?_))))
  rw [if_neg hstep]
  refine wpAny_bind (wpAny_field hos hds (x := .none) rfl (wpAny_bind (wpAny_listPart .none ?_)))
  refine wpAny_bind (wpAny_field hos hds (x := .none) rfl (wpAny_bind (wpAny_listPart .none (wpAny_pure ?_))))
  refine wpAny_bind (m := Builtin.List.listItems (.ref l)) ?_
  unfold Builtin.List.listItems
  refine wpAny_bind (wpAny_seqItems hl rfl (wpAny_pure ?_))
  refine wpAny_bind (wpAny_of_eq (sliceIndices_raw none none none items.size (by simp)) ?_)
  have e : sliceBounds none none none items.size = ((0 : Int), (items.size : Int), 1) := by simp [sliceBounds]
  rw [e]
  refine wpAny_bind (wpAny_rule ?_)
  refine wpAny_bind (m := Builtin.List.listUpdate (.ref l) _) ?_
  unfold Builtin.List.listUpdate
  refine wpAny_updateSeq hl rfl ?_ hsz ?_
  · refine wpAny_bind (wpAny_letGo (wpAny_pure ⟨_, rfl, ?_⟩))
    have q := PySem.IsL.update hl (fun xs : Array Value => (xs.toList.zipIdx.filterMap fun (p : Value × Nat) => if ((0 : Int) ≤ (p.2 : Int) && (p.2 : Int) < (items.size : Int) && ((p.2 : Int) - 0) % 1 == 0) = true then none else some p.1).toArray)
    rw [cut_all] at q
    exact h _ _ (Heap.SameBut.update ..) q
  · refine Nat.le_trans ?_ (Nat.le_succ_of_le hsz)
    rw [List.size_toArray]
    refine Nat.le_trans (List.length_filterMap_le _ _) ?_
    simp
end
end
section
local macro_rules | `(tactic| k_room) => `(tactic| ((try simp only [depth_mark, depth_under_make, depth_under_kw, depth_in1, depth_deeper, depth_caller]); (try dsimp only [ktrTop]); (simp only [recursionLimit] at *); omega))
local macro_rules | `(tactic| k_units) => `(tactic| ((simp only [units_in1, units_deeper, Around.mark_units, units_caller, cLine_is] at *); (try dsimp only [ktrTop] at *); omega))
local macro_rules | `(tactic| k_all) => `(tactic| assumption)
local macro_rules | `(tactic| k_ne) => `(tactic| ((try dsimp only); first | (refine neA ?_; with_reducible assumption) | (refine neA' ?_; with_reducible assumption)))
theorem fill_QT : PySem.Challenge.rw_br5015_01 = PySem.Challenge.rw_br5015_01 ∧ K = K := by
  k_with_none
  k_fill
  exact ⟨rfl, rfl⟩
def back (g : Geo) (σ : St) (k p : Nat) : St × Res := match g.pl k with | none => (σ, .none) | some q => hand g.sp σ k p q
theorem Inv.drop {N : Nat} {σ : St} (h : Inv N σ) (k : Nat) : Inv N { σ with kids := put σ.kids k [] } := by
  have := h.close k (h.pos k)
  refine ⟨this.up, this.few, h.pos⟩
theorem frK {h₀ h : Heap} {L : Addr} {m m' : Str → Option Value} {x : Str} (hm : ∀ y, y ≠ x → m' y = m y) (F : Fr h₀ L h m') : Fr h₀ L h (fun y => if y = x then m' x else m y) := by
  have e : (fun y => if y = x then m' x else m y) = m' := by
    funext y
    by_cases h : y = x
    · rw [if_pos h, h]
    · rw [if_neg h, hm y h]
  rw [e]; exact F
theorem walk_succ {pl : Nat → Option Int} {sp n : Nat} {σ : St} {k p : Nat} : walk pl sp (n + 1) σ k (some p) =
    match loopK (fun σ j => walk pl sp n σ j (some k)) 8 σ k 0 with
    | (σ1, .done) => (match pl k with | none => ({ σ1 with kids := put σ1.kids k [], at_ := put σ1.at_ k (σ.at_ k) }, .none) | some q => hand sp { σ1 with kids := put σ1.kids k [], at_ := put σ1.at_ k (σ.at_ k) } k p q)
    | (σ1, r) => (σ1, r) := by
  conv => lhs; unfold walk
  all_goals rfl
theorem walk_done {g : Geo} {n : Nat} {σ : St} {k p : Nat} (h : (loopK (fun σ j => walk g.pl g.sp n σ j (some k)) 8 σ k 0).2 = .done) :
    walk g.pl g.sp (n + 1) σ k (some p) = back g { (loopK (fun σ j => walk g.pl g.sp n σ j (some k)) 8 σ k 0).1 with kids := put (loopK (fun σ j => walk g.pl g.sp n σ j (some k)) 8 σ k 0).1.kids k [], at_ := put (loopK (fun σ j => walk g.pl g.sp n σ j (some k)) 8 σ k 0).1.at_ k (σ.at_ k) } k p := by
  rw [walk_succ]
  generalize loopK (fun σ j => walk g.pl g.sp n σ j (some k)) 8 σ k 0 = r at h
  obtain ⟨σ1, r⟩ := r
  dsimp only at h
  subst h
  rfl
theorem walk_fail {pl : Nat → Option Int} {sp n : Nat} {σ : St} {k : Nat} {par : Option Nat} (h : (loopK (fun σ j => walk pl sp n σ j (some k)) 8 σ k 0).2 ≠ .done) :
    walk pl sp (n + 1) σ k par = loopK (fun σ j => walk pl sp n σ j (some k)) 8 σ k 0 := by
  conv => lhs; unfold walk
  generalize loopK (fun σ j => walk pl sp n σ j (some k)) 8 σ k 0 = r at h
  obtain ⟨σ1, r⟩ := r
  dsimp only at h ⊢
  cases r
  · exact absurd rfl h
  · rfl
  · rfl
section
variable {w : World} {nm : Value} {g : Geo} {pre : List (Int × Int × Int)} {σ : St} {A : List Addr} {f : Addr → Obj} {AA : Around} {E : Value → Shared → Prop} {s : Shared} {h₀ : Heap} {L : Addr} {m : Str → Option Value} {k : Nat}
theorem del_W {Q : Unit → Shared → Prop} (G : GeoOk g) {h : Heap} (hsl : s.heap = h.push { cls := .type "slice", data := .fields #[.none, .none, .none] }) (F : Fr h₀ L h m) (N : News h₀ L h (led A f)) (W : Wd w nm g pre σ A f) (I : Inv g.N σ) (hkN : k < g.N)
    (ret : ∀ h', After w nm g pre { σ with kids := put σ.kids k [] } A f h₀ L m h' → Q () { s with heap := h' }) : wpAny (model prg w) AA (delItem (.ref (g.C k)) (.ref h.objs.size)) Q E s := by
  obtain ⟨b5, nc, e5⟩ := W.sC k hkN
  have N1 := News.push (o := { cls := .type "slice", data := .fields #[.none, .none, .none] }) F N rfl
  have F1 := F.push { cls := .type "slice", data := .fields #[.none, .none, .none] }
  have zC := N1 _ (List.mem_cons_of_mem _ (in_led b5 e5))
  rw [← hsl] at zC N1 F1
  refine del_all zC.1 ⟨_, by rw [hsl]; exact Heap.get?_push_size _ rfl, rfl, rfl⟩ (by
    have := I.len k
    have h9 : (7 : Nat) ≤ sizeLine := by decide
    simp only [List.size_toArray, List.length_map]; omega) fun h' n' hs hn => ret h' ?_
  refine ⟨A, upd f (g.C k) (PySem.W.listOf #[] n'), fun b hb => ⟨hb, fun hst => upd_ne (statNe hst (G.tC k hkN) (.inr (.inr (.inl rfl))))⟩,
    ⟨F1.ns.sameBut hs (Ne.symm zC.2.1), fun b o e => (hs.2 b (fun z => by rw [z, zC.2.2] at e; cases e)).trans (F1.keep b o e), F1.above⟩, fun q hq => ?_, W.setkids G hkN (fun b hb => upd_ne hb) ⟨n', by rw [upd_self]; rfl⟩⟩
  obtain ⟨b, o⟩ := q
  obtain ⟨hb, rfl⟩ := mem_led.mp hq
  by_cases z : b = g.C k
  · subst z; rw [upd_self]; exact ⟨hn, zC.2⟩
  · rw [upd_ne z]
    have := N1 _ (List.mem_cons_of_mem _ (in_led hb rfl))
    exact ⟨(hs.2 b z).trans this.1, this.2⟩
end
section
variable {w : World} {mean : ExcName → Option Value} {mg mb : Str → Option Value}
  {dp un : Nat} {gd : Option (List Code)} {cn : Str} {cs : Scope} {a : Addr} {ccd : Value} {cl : List (Str × Addr)} {outer : List Env} {A₀ : Around} {base h₀ : Heap} {L : Addr} {m : Str → Option Value} {s : Shared}
  {Q E : Value → Shared → Prop} {g : Geo} {pre : List (Int × Int × Int)} {σ : St} {A : List Addr} {f : Addr → Obj}
theorem hand_res (sp : Nat) (σ : St) (k p : Nat) (q : Int) : (hand sp σ k p q).2 = .done ∨ (hand sp σ k p q).2 = .bomb := by
  unfold hand
  dsimp only
  split
  · exact .inr rfl
  · split <;> exact .inl rfl
theorem wb_W (G : GeoOk g) (k p : Nat) (hB : Below A₀ base outer h₀) (F : Fr h₀ L s.heap m) (X₀ : (K w.params).In h₀) (N : News h₀ L s.heap (led A f))
  (hT9 : Hid (CodeHd base 1156 1152)) (T : Top topProg lo mean mg mb h₀) (hk : cs.kind = .function) (W : Wd w ((mg "__name__").getD .none) g pre σ A f) (I : Inv g.N σ) (hkN : k < g.N) (hpN : p < g.N) (hrows : (pre ++ σ.log).length ≤ 16000000) (hd : dp + 70 < recursionLimit) (hu : un + 500 < cLine)
  (ret : (back g σ k p).2 = .done → ∀ h' tk', After w ((mg "__name__").getD .none) g pre (back g σ k p).1 A f h₀ L m h' → Q .none { s with heap := h', toks := tk' })
  (exc : (back g σ k p).2 ≠ .done → ∀ e cls h' tk', Says g (back g σ k p).2 e cls → Thrown w ((mg "__name__").getD .none) g pre (back g σ k p).1 A f h₀ L m base (envX cn cs L a ccd cl :: outer) e cls h' → E (.ref e) { s with heap := h', toks := tk' }) :
  wpAny (model prg w) (ktrTop dp un gd cn cs L a ccd cl outer) (call (.ref 1044) [.ref (g.X k), .ref (g.X p)]) Q E s := by
  unfold back at ret exc
  cases hq : g.pl k with
  | none =>
    rw [hq] at ret exc
    dsimp only at ret exc
    exact wbN_W G k p hq hB F X₀ N T hk W hkN hd hu fun e h' tk' _ ht => exc (by decide) e _ h' tk' ⟨fun h => (by cases h), fun _ => rfl⟩ ht
  | some q =>
    rw [hq] at ret exc
    dsimp only at ret exc
    refine wbS_W G k p q hq hB F X₀ N hT9 T hk W I hkN hpN hrows hd hu ret fun hb h' tk' ht => exc (by rw [hb]; decide) _ _ h' tk' ⟨fun _ => ⟨rfl, rfl⟩, fun h => by rw [hb] at h; cases h⟩ ht
end
end
section
local macro_rules | `(tactic| k_room) => `(tactic| ((try simp only [depth_mark, depth_under_make, depth_under_kw, depth_in1, depth_deeper, depth_caller]); (try dsimp only [ktrTop]); (simp only [recursionLimit] at *); omega))
local macro_rules | `(tactic| k_units) => `(tactic| ((simp only [units_in1, units_deeper, Around.mark_units, units_caller, cLine_is] at *); (try dsimp only [ktrTop] at *); omega))
local macro_rules | `(tactic| k_all) => `(tactic| assumption)
local macro_rules | `(tactic| k_ne) => `(tactic| ((try dsimp only); first | (refine neA ?_; with_reducible assumption) | (refine neA' ?_; with_reducible assumption)))
theorem fill_QR : PySem.Challenge.rw_br5015_01 = PySem.Challenge.rw_br5015_01 ∧ K = K := by
  k_with_none
  k_fill
  exact ⟨rfl, rfl⟩
section
local macro_rules | `(tactic| walk_at "exec For Name Attribute cons nil") => `(tactic| (k_here; (with_unfolding_all refine wpAny_For ?_)))
variable {w : World} {mean : ExcName → Option Value} {mg mb : Str → Option Value} {g : Geo} {pre : List (Int × Int × Int)}
theorem rec_W (G : GeoOk g) : ∀ (n : Nat) (dp un : Nat) (gd : Option (List Code)) (cn : Str) (cs : Scope) (a : Addr) (ccd : Value) (cl : List (Str × Addr)) (outer : List Env) (A₀ : Around) (base h₀ : Heap) (L : Addr) (m : Str → Option Value) (s : Shared)
  (Q E : Value → Shared → Prop) (σ : St) (A : List Addr) (f : Addr → Obj) (k p : Nat) (hB : Below A₀ base outer h₀) (F : Fr h₀ L s.heap m) (X₀ : (K w.params).In h₀) (N : News h₀ L s.heap (led A f))
  (hT9 : Hid (CodeHd base 1156 1152)) (T : Top topProg lo mean mg mb h₀) (hk : cs.kind = .function) (W : Wd w ((mg "__name__").getD .none) g pre σ A f) (I : Inv g.N σ) (hkN : k < g.N) (hpN : p < k) (hn : g.N ≤ k + n) (hrows : (pre ++ σ.log).length + 9 ^ n ≤ 16000000) (hd : dp + 100 + 10 * n < recursionLimit) (hu : un + 700 + 20 * n < cLine)
  (ret : (walk g.pl g.sp n σ k (some p)).2 = .done → ∀ h' tk', After w ((mg "__name__").getD .none) g pre (walk g.pl g.sp n σ k (some p)).1 A f h₀ L m h' → Q .none { s with heap := h', toks := tk' })
  (exc : (walk g.pl g.sp n σ k (some p)).2 ≠ .done → ∀ e cls h' tk', Says g (walk g.pl g.sp n σ k (some p)).2 e cls → Thrown w ((mg "__name__").getD .none) g pre (walk g.pl g.sp n σ k (some p)).1 A f h₀ L m base (envX cn cs L a ccd cl :: outer) e cls h' → E (.ref e) { s with heap := h', toks := tk' }),
  wpAny (model prg w) (ktrTop dp un gd cn cs L a ccd cl outer) (call (.ref 1037) [.ref (g.X k), .ref (g.X p)]) Q E s := by
  intro n
  induction n with
  | zero => intros; omega
  | succ n ih =>
  intro dp un gd cn cs a ccd cl outer A₀ base h₀ L m s Q E σ A f k p hB F X₀ N hT9 T hk W I hkN hpN hn hrows hd hu ret exc
  have mX := in_led (W.sX k hkN).1 (W.sX k hkN).2
  have mXp := in_led (W.sX p (by omega)).1 (W.sX p (by omega)).2
  obtain ⟨b1, tD, z1, z2, eD⟩ := W.sD k hkN
  have mD := in_led b1 eD
  have hI : ∀ σ j, Inv g.N σ → k < j → j < g.N → Inv g.N (walk g.pl g.sp n σ j (some k)).1 := fun σ j h1 h2 h3 => walk_inv G.pl5 (by have := G.n2; unfold Geo.sp; omega) n σ j (some k) h1 h3 fun p e => by cases e; exact h2
  have hlog : ∀ σ j, ∃ l, (walk g.pl g.sp n σ j (some k)).1.log = σ.log ++ l ∧ l.length ≤ 9 ^ n := fun σ j => walk_log n σ j (some k)
  have hIL : Inv g.N (loopK (fun σ j => walk g.pl g.sp n σ j (some k)) 8 σ k 0).1 := loopK_inv hI 8 σ 0 I
  have hLL := loopK_log (k := k) hlog 8 σ 0
  have hwd := walk_done (g := g) (n := n) (σ := σ) (k := k) (p := p)
  have hwf := walk_fail (pl := g.pl) (sp := g.sp) (n := n) (σ := σ) (k := k) (par := some p)
  have hpow : 9 ^ (n + 1) = 9 ^ n * 9 := Nat.pow_succ ..
  generalize hR : loopK (fun σ j => walk g.pl g.sp n σ j (some k)) 8 σ k 0 = R at hIL hLL hwd hwf
  generalize hP : 9 ^ n = P at ih hlog hLL hpow
  rw [hpow] at hrows
  clear hpow
  have hrowsL : (pre ++ R.1.log).length ≤ 16000000 := by
    obtain ⟨l, h1, h2⟩ := hLL
    rw [h1]
    simp only [List.length_append] at hrows ⊢
    omega
  clear hLL
  refine wpAny_call ?_
  k_dflt (refine' code_def ?k1 ?k2 ?k3 ?k4 ?k5 ?kA ?kF ?kK ?k6 ?k7 ?k8 ?k9 ?kB ?_ ?c2 ?c3 ?c4 ?c5; (case kA => exact rfl); (case kF => exact rfl); (case kK => assumption); (case k1 => k_asm); (case k2 => k_asm); (case k3 => k_asm); (case k4 => k_asm); (case k5 => k_asm); (case k6 => k_is); (case k7 => k_is); (case k8 => k_room); (case k9 => first | exact BindsTo.of_eq rfl | exact binds_K (by k_in) rfl (by k_is) rfl rfl rfl | fail "kp_enter: no rule for these arguments"); (case c5 => decide); (case kB => exact locs rfl); (case c2 => exact rfl); (case c3 => exact rfl); (case c4 => exact rfl); k_whole; intro g' L' h' FG' F' N' B' X' T'; (try dsimp only); (try k_lift B'); (try k_fold))
  (k_with "call ref" => k_dflt (first
    | (refine' pos_W ?k1 ?k2 ?k3 ?k4 ?k5 ?kK W I hkN ?kd ?ku ?_; (case k1 => k_asm); (case k2 => k_asm); (case k3 => k_in); (case k4 => k_asm); (case k5 => k_asm); (case kK => first | exact rfl | assumption); (case kd => k_room); (case ku => k_units); intro h7 tk7 tk8 F7 N7)
    | (refine' ih _ _ _ _ _ _ _ _ _ _ base _ _ _ _ _ _ _ _ _ _ _ ?k1 ?k2 ?k3 ?k4 ?kT ?k5 ?kK W9 I9 hj2 hj1 ?kn ?kr ?kd ?ku ?kret ?kexc; (case k1 => k_asm); (case k2 => k_asm); (case k3 => k_in); (case k4 => k_asm); (case kT => exact hT9); (case k5 => k_asm); (case kK => first | exact rfl | assumption); (case kn => omega); (case kr => omega); (case kd => k_room); (case ku => k_units);
       (case kexc => (intro hnd e9 c9 h9 t9 s9 th9; exact ⟨hnd, e9, c9, h9, t9, rfl, rfl, s9, th9⟩)); intro hdn9 h10 tk10 aft10)
    | (refine' seek_W (σ.at_ k) _ G ?k1 ?k2 ?k3 ?k4 ?k5 ?kK W12 I12 hkN (I.pos k) ?kd ?ku ?_; (case k1 => k_asm); (case k2 => k_asm); (case k3 => k_in); (case k4 => k_asm); (case k5 => k_asm); (case kK => first | exact rfl | assumption); (case kd => k_room); (case ku => k_units);
       intro h13 tk13 aft13; obtain ⟨A13, f13, x13, F13, N13, W13⟩ := aft13; (have mX13 := in_led (W13.sX k hkN).1 (W13.sX k hkN).2); (obtain ⟨b13, t13, y13, v13, e13⟩ := W13.sD k hkN); (have mD13 := in_led b13 e13); (have I13 := I12.seek k (I.pos k)))
    | (refine' wb_W G k p ?k1 ?k2 ?k3 ?k4 ?kT ?k5 ?kK W13 I13 hkN ?kp hrowsL ?kd ?ku ?_ ?_; (case k1 => k_asm); (case k2 => k_asm); (case k3 => k_in); (case k4 => k_asm); (case kT => exact hT9); (case k5 => k_asm); (case kK => first | exact rfl | assumption); (case kp => omega); (case kd => k_room); (case ku => k_units))))
  (k_with "delItem ref ref" => k_dflt (refine' del_W G ?ks ?k1 ?k2 W11 hIL hkN ?_; (case ks => exact rfl); (case k1 => k_asm); (case k2 => k_asm); intro h12 aft12; obtain ⟨A12, f12, x12, F12, N12, W12⟩ := aft12; (have mX12 := in_led (W12.sX k hkN).1 (W12.sX k hkN).2); (obtain ⟨b12, t12, y12, v12, e12⟩ := W12.sD k hkN); (have mD12 := in_led b12 e12); (have I12 := hIL.drop k)))
  (k_with "pyIter ref" => ((with_reducible rename Below (ktrTop _ _ _ _ _ _ _ _ _ _) _ _ _ => B9); (with_reducible rename Fr _ _ _ _ => F8); k_dflt (refine' loop_W (base := base) (lim := 16000000 - P) G hkN (fun σ j => walk g.pl g.sp n σ j (some k)) ?ksk ?kl ?kh ?kfr F8 ?kN W I hI hlog ?krows ?kbody ?kdone ?kfail; (case ksk => exact rfl); (case kl => exact rfl); (case kh => exact rfl); (case kfr => exact Around.frames_deeper B9.stack); (case kN => k_asm); (case krows => omega); (case kbody => (clear F8; intro σ9 A9 f9 h9 tk9 j hj1 hj2 hr9 F9 N9 W9 I9; (have mX9 := in_led (W9.sX j hj2).1 (W9.sX j hj2).2); (have mXk9 := in_led (W9.sX k hkN).1 (W9.sX k hkN).2); (obtain ⟨b9, t9, y9, v9, e9⟩ := W9.sD j hj2); (have mD9 := in_led b9 e9); k_steps; exact aft10)); (case' kdone => (clear F8; rw [hR]; intro hdn11 h11 tk11 m11 hm11 aft11; obtain ⟨A11, f11, x11, F11, N11, W11⟩ := aft11; (replace F11 := frK hm11 F11); (have mX11 := in_led (W11.sX k hkN).1 (W11.sX k hkN).2); (obtain ⟨b11, t11, y11, v11, e11⟩ := W11.sD k hkN); (have mD11 := in_led b11 e11))); (case' kfail => (rw [hR]; intro hnd11 e11 cls11 h11 tk11 say11 held11)))))
  k_steps
  all_goals first
    | (obtain ⟨A12, f12, m12, x12, hd12, W12⟩ := held11
       rw [hwf hnd11] at exc
       exact held_leaves rfl hd12 fun h9 fl9 => exc hnd11 e11 _ h9 _ say11 ⟨A12, f12, x12, fl9.up (by assumption), W12⟩)
    | (rename After _ _ _ _ _ _ _ _ _ _ _ => aft
       obtain ⟨A', f', x, F9, N9, W9⟩ := aft
       rw [hwd hdn11] at ret
       exact leaveK_ F9 N9 fun F8 N8 => ret (by assumption) _ _ ⟨A', f', ((x11.trans x12).trans x13).trans x, F8, N8, W9⟩)
    | (rename Thrown _ _ _ _ _ _ _ _ _ _ _ _ _ _ _ => thr
       rename Below (ktrTop _ _ _ _ _ _ _ _ _ _) _ _ _ => B9
       obtain ⟨A', f', x, fl, W9⟩ := thr
       rw [hwd hdn11] at exc
       exact fly_next (Around.frames_deeper B9.stack) rfl fl fun h9 fl9 => exc (by assumption) _ _ _ _ (by assumption) ⟨A', f', ((x11.trans x12).trans x13).trans x, fl9.up (by assumption), W9⟩)
end
end
section
local macro_rules | `(tactic| k_room) => `(tactic| ((try simp only [depth_mark, depth_under_make, depth_under_kw, depth_in1, depth_deeper, depth_caller]); (try dsimp only [ktrTop]); (simp only [recursionLimit] at *); omega))
local macro_rules | `(tactic| k_units) => `(tactic| ((simp only [units_in1, units_deeper, Around.mark_units, units_caller, cLine_is] at *); (try dsimp only [ktrTop] at *); omega))
local macro_rules | `(tactic| k_all) => `(tactic| assumption)
local macro_rules | `(tactic| k_ne) => `(tactic| ((try dsimp only); first | (refine neA ?_; with_reducible assumption) | (refine neA' ?_; with_reducible assumption)))
theorem fill_QU : PySem.Challenge.rw_br5015_01 = PySem.Challenge.rw_br5015_01 ∧ K = K := by
  k_with_none
  k_fill
  exact ⟨rfl, rfl⟩
section
local macro_rules | `(tactic| walk_at "exec For Name Attribute cons nil") => `(tactic| (k_here; (with_unfolding_all refine wpAny_For ?_)))
variable {w : World} {mean : ExcName → Option Value} {mg mb : Str → Option Value} {g : Geo} {pre : List (Int × Int × Int)}
theorem walkN_done {g : Geo} {n : Nat} {σ : St} {k : Nat} (h : (loopK (fun σ j => walk g.pl g.sp n σ j (some k)) 8 σ k 0).2 = .done) :
    walk g.pl g.sp (n + 1) σ k none = ({ (loopK (fun σ j => walk g.pl g.sp n σ j (some k)) 8 σ k 0).1 with kids := put (loopK (fun σ j => walk g.pl g.sp n σ j (some k)) 8 σ k 0).1.kids k [], at_ := put (loopK (fun σ j => walk g.pl g.sp n σ j (some k)) 8 σ k 0).1.at_ k (σ.at_ k) }, .done) := by
  conv => lhs; unfold walk
  generalize loopK (fun σ j => walk g.pl g.sp n σ j (some k)) 8 σ k 0 = r at h
  obtain ⟨σ1, r⟩ := r
  dsimp only at h
  subst h
  rfl
theorem root_W (G : GeoOk g) (n : Nat) (dp un : Nat) (gd : Option (List Code)) (cn : Str) (cs : Scope) (a : Addr) (ccd : Value) (cl : List (Str × Addr)) (outer : List Env) (A₀ : Around) (base h₀ : Heap) (L : Addr) (m : Str → Option Value) (s : Shared)
  (Q E : Value → Shared → Prop) (σ : St) (A : List Addr) (f : Addr → Obj) (k : Nat) (hB : Below A₀ base outer h₀) (F : Fr h₀ L s.heap m) (X₀ : (K w.params).In h₀) (N : News h₀ L s.heap (led A f))
  (hT9 : Hid (CodeHd base 1156 1152)) (T : Top topProg lo mean mg mb h₀) (hk : cs.kind = .function) (W : Wd w ((mg "__name__").getD .none) g pre σ A f) (I : Inv g.N σ) (hkN : k < g.N) (hn : g.N ≤ k + (n + 1)) (hrows : (pre ++ σ.log).length + 9 ^ (n + 1) ≤ 16000000) (hd : dp + 100 + 10 * (n + 1) < recursionLimit) (hu : un + 700 + 20 * (n + 1) < cLine)
  (ret : (walk g.pl g.sp (n + 1) σ k none).2 = .done → ∀ h' tk', After w ((mg "__name__").getD .none) g pre (walk g.pl g.sp (n + 1) σ k none).1 A f h₀ L m h' → Q .none { s with heap := h', toks := tk' })
  (exc : (walk g.pl g.sp (n + 1) σ k none).2 ≠ .done → ∀ e cls h' tk', Says g (walk g.pl g.sp (n + 1) σ k none).2 e cls → Thrown w ((mg "__name__").getD .none) g pre (walk g.pl g.sp (n + 1) σ k none).1 A f h₀ L m base (envX cn cs L a ccd cl :: outer) e cls h' → E (.ref e) { s with heap := h', toks := tk' }) :
  wpAny (model prg w) (ktrTop dp un gd cn cs L a ccd cl outer) (call (.ref 1037) [.ref (g.X k)]) Q E s := by
  have ih := rec_W (w := w) (mean := mean) (mg := mg) (mb := mb) (pre := pre) G n
  have mX := in_led (W.sX k hkN).1 (W.sX k hkN).2
  obtain ⟨b1, tD, z1, z2, eD⟩ := W.sD k hkN
  have mD := in_led b1 eD
  have hI : ∀ σ j, Inv g.N σ → k < j → j < g.N → Inv g.N (walk g.pl g.sp n σ j (some k)).1 := fun σ j h1 h2 h3 => walk_inv G.pl5 (by have := G.n2; unfold Geo.sp; omega) n σ j (some k) h1 h3 fun p e => by cases e; exact h2
  have hlog : ∀ σ j, ∃ l, (walk g.pl g.sp n σ j (some k)).1.log = σ.log ++ l ∧ l.length ≤ 9 ^ n := fun σ j => walk_log n σ j (some k)
  have hIL : Inv g.N (loopK (fun σ j => walk g.pl g.sp n σ j (some k)) 8 σ k 0).1 := loopK_inv hI 8 σ 0 I
  have hLL := loopK_log (k := k) hlog 8 σ 0
  have hwd := walkN_done (g := g) (n := n) (σ := σ) (k := k)
  have hwf := walk_fail (pl := g.pl) (sp := g.sp) (n := n) (σ := σ) (k := k) (par := none)
  have hpow : 9 ^ (n + 1) = 9 ^ n * 9 := Nat.pow_succ ..
  generalize hR : loopK (fun σ j => walk g.pl g.sp n σ j (some k)) 8 σ k 0 = R at hIL hLL hwd hwf
  generalize hP : 9 ^ n = P at ih hlog hLL hpow
  rw [hpow] at hrows
  clear hpow
  have hrowsL : (pre ++ R.1.log).length ≤ 16000000 := by
    obtain ⟨l, h1, h2⟩ := hLL
    rw [h1]
    simp only [List.length_append] at hrows ⊢
    omega
  clear hLL
  refine wpAny_call ?_
  k_dflt (refine' code_def ?k1 ?k2 ?k3 ?k4 ?k5 ?kA ?kF ?kK ?k6 ?k7 ?k8 ?k9 ?kB ?_ ?c2 ?c3 ?c4 ?c5; (case kA => exact rfl); (case kF => exact rfl); (case kK => assumption); (case k1 => k_asm); (case k2 => k_asm); (case k3 => k_asm); (case k4 => k_asm); (case k5 => k_asm); (case k6 => k_is); (case k7 => k_is); (case k8 => k_room); (case k9 => first | exact BindsTo.of_eq rfl | exact binds_K (by k_in) rfl (by k_is) rfl rfl rfl | fail "kp_enter: no rule for these arguments"); (case c5 => decide); (case kB => exact locs rfl); (case c2 => exact rfl); (case c3 => exact rfl); (case c4 => exact rfl); k_whole; intro g' L' h' FG' F' N' B' X' T'; (try dsimp only); (try k_lift B'); (try k_fold))
  (k_with "call ref" => k_dflt (first
    | (refine' pos_W ?k1 ?k2 ?k3 ?k4 ?k5 ?kK W I hkN ?kd ?ku ?_; (case k1 => k_asm); (case k2 => k_asm); (case k3 => k_in); (case k4 => k_asm); (case k5 => k_asm); (case kK => first | exact rfl | assumption); (case kd => k_room); (case ku => k_units); intro h7 tk7 tk8 F7 N7)
    | (refine' ih _ _ _ _ _ _ _ _ _ _ base _ _ _ _ _ _ _ _ _ _ _ ?k1 ?k2 ?k3 ?k4 ?kT ?k5 ?kK W9 I9 hj2 hj1 ?kn ?kr ?kd ?ku ?kret ?kexc; (case k1 => k_asm); (case k2 => k_asm); (case k3 => k_in); (case k4 => k_asm); (case kT => exact hT9); (case k5 => k_asm); (case kK => first | exact rfl | assumption); (case kn => omega); (case kr => omega); (case kd => k_room); (case ku => k_units);
       (case kexc => (intro hnd e9 c9 h9 t9 s9 th9; exact ⟨hnd, e9, c9, h9, t9, rfl, rfl, s9, th9⟩)); intro hdn9 h10 tk10 aft10)
    | (refine' seek_W (σ.at_ k) _ G ?k1 ?k2 ?k3 ?k4 ?k5 ?kK W12 I12 hkN (I.pos k) ?kd ?ku ?_; (case k1 => k_asm); (case k2 => k_asm); (case k3 => k_in); (case k4 => k_asm); (case k5 => k_asm); (case kK => first | exact rfl | assumption); (case kd => k_room); (case ku => k_units);
       intro h13 tk13 aft13; obtain ⟨A13, f13, x13, F13, N13, W13⟩ := aft13; (have mX13 := in_led (W13.sX k hkN).1 (W13.sX k hkN).2); (obtain ⟨b13, t13, y13, v13, e13⟩ := W13.sD k hkN); (have mD13 := in_led b13 e13); (have I13 := I12.seek k (I.pos k)))))
  (k_with "delItem ref ref" => k_dflt (refine' del_W G ?ks ?k1 ?k2 W11 hIL hkN ?_; (case ks => exact rfl); (case k1 => k_asm); (case k2 => k_asm); intro h12 aft12; obtain ⟨A12, f12, x12, F12, N12, W12⟩ := aft12; (have mX12 := in_led (W12.sX k hkN).1 (W12.sX k hkN).2); (obtain ⟨b12, t12, y12, v12, e12⟩ := W12.sD k hkN); (have mD12 := in_led b12 e12); (have I12 := hIL.drop k)))
  (k_with "pyIter ref" => ((with_reducible rename Below (ktrTop _ _ _ _ _ _ _ _ _ _) _ _ _ => B9); (with_reducible rename Fr _ _ _ _ => F8); k_dflt (refine' loop_W (base := base) (lim := 16000000 - P) G hkN (fun σ j => walk g.pl g.sp n σ j (some k)) ?ksk ?kl ?kh ?kfr F8 ?kN W I hI hlog ?krows ?kbody ?kdone ?kfail; (case ksk => exact rfl); (case kl => exact rfl); (case kh => exact rfl); (case kfr => exact Around.frames_deeper B9.stack); (case kN => k_asm); (case krows => omega); (case kbody => (clear F8; intro σ9 A9 f9 h9 tk9 j hj1 hj2 hr9 F9 N9 W9 I9; (have mX9 := in_led (W9.sX j hj2).1 (W9.sX j hj2).2); (have mXk9 := in_led (W9.sX k hkN).1 (W9.sX k hkN).2); (obtain ⟨b9, t9, y9, v9, e9⟩ := W9.sD j hj2); (have mD9 := in_led b9 e9); k_steps; exact aft10)); (case' kdone => (clear F8; rw [hR]; intro hdn11 h11 tk11 m11 hm11 aft11; obtain ⟨A11, f11, x11, F11, N11, W11⟩ := aft11; (replace F11 := frK hm11 F11); (have mX11 := in_led (W11.sX k hkN).1 (W11.sX k hkN).2); (obtain ⟨b11, t11, y11, v11, e11⟩ := W11.sD k hkN); (have mD11 := in_led b11 e11))); (case' kfail => (rw [hR]; intro hnd11 e11 cls11 h11 tk11 say11 held11)))))
  k_steps
  all_goals first
    | (obtain ⟨A12, f12, m12, x12, hd12, W12⟩ := held11
       rw [hwf hnd11] at exc
       exact held_leaves rfl hd12 fun h9 fl9 => exc hnd11 e11 _ h9 _ say11 ⟨A12, f12, x12, fl9.up (by assumption), W12⟩)
    | (rw [hwd hdn11] at ret
       exact ret rfl _ _ ⟨A13, f13, (x11.trans x12).trans x13, by assumption, by assumption, W13⟩)
end
end
section
local macro_rules | `(tactic| k_room) => `(tactic| ((try simp only [depth_mark, depth_under_make, depth_under_kw, depth_in1, depth_deeper, depth_caller]); (try dsimp only [ktrTop]); (simp only [recursionLimit] at *); omega))
local macro_rules | `(tactic| k_units) => `(tactic| ((simp only [units_in1, units_deeper, Around.mark_units, units_caller, cLine_is] at *); (try dsimp only [ktrTop] at *); omega))
local macro_rules | `(tactic| k_all) => `(tactic| assumption)
local macro_rules | `(tactic| k_ne) => `(tactic| ((try dsimp only); first | (refine neA ?_; with_reducible assumption) | (refine neA' ?_; with_reducible assumption)))
theorem fill_QV : PySem.Challenge.rw_br5015_01 = PySem.Challenge.rw_br5015_01 ∧ K = K := by
  k_with_none
  k_fill
  exact ⟨rfl, rfl⟩
section
variable {prog : Program} {w : World} {A A₀ : Around} {s : Shared} {base h₀ : Heap} {L : Addr} {m : Str → Option Value} {news : List (Addr × Obj)} {KK : Frag} {p : Program} {loose : List Str} {mean : ExcName → Option Value} {mg mb : Str → Option Value}
/-- a def is entered that may lose its ground: both ways out stand open -/
theorem enter_open {env : Env} {outer : List Env} {R : Result → Shared → Prop} {name qual : Str} {params : Arguments} {body : List Stmt} {scope : Scope} {dV kV doc pm cdv ct oc : Value} {an od : Option Addr} {osl : Array (Option Value)} {f : Addr} {args : Args} {binds : List (Str × Value)}
    (B : Below A₀ base outer h₀) (F : Fr h₀ L s.heap m) (X₀ : KK.In h₀) (N : News h₀ L s.heap news) (T : Top p loose mean mg mb h₀) (hA : A.frames = some (env :: outer)) (hf : env.frame = some L) (hke : env.scope.kind = .function)
    (ho : KK.lookup f = some ⟨oc, od, .func (fnOf name qual params body scope dV kV doc pm an cdv ct), osl⟩) (hcd : codeIn KK cdv qual = true) (hroom : A.depth < recursionLimit)
    (hbind : BindsTo s (fnOf name qual params body scope dV kV doc pm an cdv ct) args binds) (hloc : ∀ y ∈ binds, scope.names.lookup y.1 = some .local)
    (h : ∀ g L' h₁, Fr h₀ L g m → Fr g L' h₁ (fun y => binds.reverse.lookup y) → News g L' h₁ news → Below A base (env :: outer) g → KK.In g → Top p loose mean mg mb g →
      (∀ v s', LeaveK h₀ L m g R v s' → R (.ok (.ret v)) s') → (∀ b o, s.heap.get? b = some o → b ∉ news.map (·.1) → g.get? b = some o) →
      wpAny (model prog w) (A.deeper (envOf qual scope L' f cdv)) (execs body (envOf qual scope L' f cdv))
        (fun fl s' => R (.ok (.ret (match fl with | .ret v => v | _ => .none))) s')
        (fun e s' => wpAny (model prog w) (A.deeper (envOf qual scope L' f cdv)) (leaving (envOf qual scope L' f cdv) e) (fun _ s'' => R (.error e) s'') (fun e' s'' => R (.error e') s'') s')
        { s with heap := h₁, toks := s.toks + binds.length })
    (hco : scope.isCoroutine = false) (hgen : scope.isGenerator = false) (hk : scope.kind = .function)
    (hcell : ∀ x ∈ scope.names, x.2 ≠ .cell) : codeAny (model prog w) A (.call (.ref f) args) R s := by
  obtain ⟨FG, BG, st, lv⟩ := groundX (R := R) B F N hA hf hke
  have X := X₀.keeps F.keep
  refine codeAny_call_def (fd := fnOf name qual params body scope dV kV doc pm an cdv ct) (body := body) (binds := binds) hroom (X _ _ ho) rfl (T.nolimit.keeps F.keep) (codeRec_of X hcd) rfl hbind hcell hloc (fun h₁ hns hk₁ => ?_) hco hgen hk
  exact h _ s.heap.objs.size h₁ FG ⟨hns, fun b o e => hk₁ b o (of_hideAll _ e), Nat.le_of_eq (hideAll_size _ _)⟩
    (fun q hq => ⟨hk₁ _ _ (N q hq).1, Nat.ne_of_lt (Heap.lt_size (N q hq).1), hideAll_none _ (List.mem_map_of_mem hq)⟩) BG (X₀.keeps st) (T.keeps st) lv fun b o e n => hideAll_get _ e n
end
theorem led_fst (A : List Addr) (f : Addr → Obj) : (led A f).map (·.1) = A := by
  unfold led
  rw [List.map_map]
  exact List.map_id _
section
variable {M : Model} {A : Around} {E : Value → Shared → Prop} {s : Shared} {base : Heap} {outer : List Env} {L' e : Addr} {env : Env} {W : List (Addr × Obj)} {cls : Value} {G : Heap} {L : Addr} {m : Str → Option Value}
theorem fly_again {Q : Unit → Shared → Prop} (R : Flies G L m base (env :: outer) e cls W s.heap) (hQ : ∀ h', Flies G L m base (env :: outer) e cls W h' → Q () { s with heap := h' }) : wpAny M A (setFlight (.ref e) none) Q E s := by
  obtain ⟨B, a0, h1, h2, h3, h4, h5, h6⟩ := R
  exact lands_againW h3 fun h' x1 x2 => hQ h' ⟨B, a0, h1, h2, x1, h4.trans x2, x2.ns h5, h6⟩
theorem fly_lands {Q : Shared → Prop} (hfr : A.frames = some (env :: outer)) (hf : env.frame = some L') (R : Flies G L m base (env :: outer) e cls W s.heap) (hQ : ∀ h', Flies G L m base (env :: outer) e cls W h' → Q { s with heap := h' }) :
    wpAny M A (noteFrame (.ref e) env) (fun _ s₂ => wpAny M A (setFlight (.ref e) none) (fun _ s₃ => Q s₃) E s₂) E s := by
  refine fly_looks hfr hf R fun h' held => ?_
  obtain ⟨B, a0, h1, h2, h3, h4, h5, h6⟩ := held
  exact wpAny_landsW h3 fun h' x1 x2 => hQ h' ⟨B, a0, h1, h2, x1, h4.trans x2, x2.ns h5, h6⟩
theorem Flies.there {h : Heap} {l : List Env} (R : Flies G L m base l e cls W h) : ∃ ob, h.get? e = some ob ∧ ob.cls = cls := by
  obtain ⟨B, a0, h1, h2, h3, h4, h5, h6⟩ := R
  exact h3.there
/-- the frame of the catcher, its caller's frame, the exception and the ledger, on the ground -/
theorem fly_ground {h b₀ : Heap} {env₁ : Env} {L₁ : Addr} {m₁ : Str → Option Value} (R : Flies G L m b₀ [env, env₁] e cls W h) (hf : env.frame = some L) (hf₁ : env₁.frame = some L₁) (hns : G.Ns L₁ m₁) (hsz : b₀.objs.size ≤ L) :
    ∃ oL oe, Fr b₀ L h m ∧ News b₀ L h ((L₁, oL) :: (e, oe) :: W) ∧ (∀ h'' : Heap, h''.get? L₁ = some oL → h''.Ns L₁ m₁) ∧ (∀ q ∈ W, q.1 ≠ L₁) ∧ e ≠ L₁ := by
  obtain ⟨B, a0, h1, h2, h3, h4, h5, h6⟩ := R
  obtain ⟨f1, f2, f3, f4⟩ := h3
  obtain ⟨oe, vs, T, oT, ts, e1, e2, e3, _⟩ := f4
  obtain ⟨oL, es, ep, l1, l2, l3⟩ := h4.ns hns
  obtain ⟨og, _, _, g1, _⟩ := hns
  have hlt : L₁ < L := Nat.lt_of_lt_of_le (Heap.lt_size g1) h6
  have nB : ∀ x, x ∈ [env, env₁].filterMap (·.frame) → B.get? x = none := fun x hx => (f3.mem hx).1
  have bL : B.get? L = none := nB L (List.mem_filterMap.mpr ⟨env, .head _, hf⟩)
  have bL₁ : B.get? L₁ = none := nB L₁ (List.mem_filterMap.mpr ⟨env₁, .tail _ (.head _), hf₁⟩)
  have neL : e ≠ L := fun z => by
    obtain ⟨o5, _, _, q1, q2, _⟩ := h5
    rw [← z, e1] at q1
    injection q1 with q1
    rw [← q1, e3] at q2
    cases q2
  have neL₁ : e ≠ L₁ := fun z => by
    rw [← z, e1] at l1
    injection l1 with l1
    rw [← l1, e3] at l2
    cases l2
  refine ⟨oL, oe, ⟨h5, fun b o q => f1 b o (h1 b o q), hsz⟩, fun q hq => ?_, fun h'' q => ⟨oL, es, ep, q, l2, l3⟩, fun q hq z => ?_, neL₁⟩
  · simp only [List.mem_cons] at hq
    rcases hq with rfl | rfl | hq
    · exact ⟨l1, Nat.ne_of_lt hlt, fresh_of_stays h1 bL₁⟩
    · exact ⟨e1, neL, fresh_of_stays h1 f2⟩
    · have := h2 q hq
      exact ⟨f1 _ _ this.1, fun z => (by rw [z, bL] at this; cases this.1), this.2⟩
  · have := (h2 q hq).1
    rw [z, bL₁] at this; cases this
theorem fly_home {h b₀ h₀ : Heap} {L₁ : Addr} {m₁ m' : Str → Option Value} {oL oe : Obj} (F : Fr b₀ L h m') (N : News b₀ L h ((L₁, oL) :: (e, oe) :: W)) (hL : ∀ h'' : Heap, h''.get? L₁ = some oL → h''.Ns L₁ m₁) (hW : ∀ q ∈ W, q.1 ≠ L₁) (he : e ≠ L₁) (hst : h₀.StaysIn b₀) (hab : h₀.objs.size ≤ L₁) :
    Fr h₀ L₁ h m₁ ∧ News h₀ L₁ h ((e, oe) :: W) := by
  refine ⟨⟨hL _ (N _ (.head _)).1, fun b o q => F.keep b o (hst b o q), hab⟩, fun q hq => ?_⟩
  have := N q (.tail _ hq)
  refine ⟨this.1, ?_, fresh_of_stays hst this.2.2⟩
  rcases List.mem_cons.mp hq with rfl | hq
  · exact he
  · exact hW q hq
end
theorem loopK_bomb {step : St → Nat → St × Res} {k : Nat} (hs : ∀ σ j, (step σ j).2 = .bomb → (step σ j).1.bomb = -1) : ∀ m σ i, (loopK step m σ k i).2 = .bomb → (loopK step m σ k i).1.bomb = -1
  | 0, σ, _ => fun h => by cases h
  | m + 1, σ, i => by
    unfold loopK
    split
    · intro h; cases h
    · rename_i j hj
      have := hs σ j
      split
      · rename_i σ' e; exact loopK_bomb hs m σ' (i + 1)
      · rename_i σ' r _ e; rw [e] at this; exact this
theorem walk_bomb {pl : Nat → Option Int} {sp : Nat} : ∀ {n : Nat} {σ : St} {k : Nat} {par : Option Nat}, (walk pl sp n σ k par).2 = .bomb → (walk pl sp n σ k par).1.bomb = -1
  | 0, _, _, _ => fun h => by cases h
  | n + 1, σ, k, par => by
    have hl := loopK_bomb (k := k) (step := fun σ j => walk pl sp n σ j (some k)) (fun σ j => walk_bomb (n := n) (σ := σ) (k := j) (par := some k)) 8 σ 0
    unfold walk
    dsimp only
    split
    · split
      · intro h; cases h
      · split
        · intro h; cases h
        · unfold hand
          dsimp only
          split
          · intro _; rfl
          · split <;> (intro h; cases h)
    · rename_i σ1 r _ e
      rw [e] at hl; exact hl
theorem isExc_AttrErr : isSubtype (.type "AttributeError") (.type "BaseException") = pure true := by rw [isSubtype_type]; kernel_rfl
theorem notTuple_AttrErr : isSubtype (.type ((Manifest.find? "AttributeError").elim "type" fun x => x.metatype)) (.type "tuple") = pure false := by
  have e : ((Manifest.find? "AttributeError").elim "type" fun x => x.metatype) = "type" := by kernel_rfl
  rw [e, isSubtype_type]
  kernel_rfl
/-- a world behind a call that touches nothing beside it -/
def AfterK (w : World) (nm : Value) (g : Geo) (pre : List (Int × Int × Int)) (σ : St) (A : List Addr) (f : Addr → Obj) (h₀ : Heap) (L : Addr) (m : Str → Option Value) (h h' : Heap) : Prop :=
  ∃ A' f', Ext g A f A' f' ∧ Fr h₀ L h' m ∧ News h₀ L h' (led A' f') ∧ Wd w nm g pre σ A' f' ∧ ∀ b o, b ∉ A → b ≠ L → h.get? b = some o → b ∉ A' ∧ h'.get? b = some o
def resStr : Res → Str | .done => S "done" | .bomb => S "bomb" | .none => S "no handler"
section
variable {w : World} {mean : ExcName → Option Value} {mg mb : Str → Option Value} {g : Geo} {pre : List (Int × Int × Int)}
  {dp un : Nat} {gd : Option (List Code)} {cn : Str} {cs : Scope} {a : Addr} {ccd : Value} {cl : List (Str × Addr)} {A₀ : Around} {h₀ : Heap} {L : Addr} {m : Str → Option Value} {s : Shared}
  {Q E : Value → Shared → Prop} {σ : St} {A : List Addr} {f : Addr → Obj}
theorem ask_W (G : GeoOk g) (n : Nat) (hB : Below A₀ h₀ [] h₀) (F : Fr h₀ L s.heap m) (X₀ : (K w.params).In h₀) (N : News h₀ L s.heap (led A f))
  (T : Top topProg lo mean mg mb h₀) (hk : cs.kind = .function) (W : Wd w ((mg "__name__").getD .none) g pre σ A f) (I : Inv g.N σ) (hn : g.N ≤ 0 + (n + 1)) (hrows : (pre ++ σ.log).length + 9 ^ (n + 1) ≤ 16000000) (hd : dp + 200 + 10 * (n + 1) < recursionLimit) (hu : un + 900 + 20 * (n + 1) < cLine)
  (ret : ∀ h' tk' t, AfterK w ((mg "__name__").getD .none) g pre (walk g.pl g.sp (n + 1) σ 0 none).1 A f h₀ L m s.heap h' → Q (.str (resStr (walk g.pl g.sp (n + 1) σ 0 none).2) t) { s with heap := h', toks := tk' }) :
  wpAny (model prg w) (ktrTop dp un gd cn cs L a ccd cl []) (call (.ref 1178) [.ref (g.X 0), .ref g.MD]) Q E s := by
  have hkN : 0 < g.N := by have := G.n2; omega
  have mX := in_led (W.sX 0 hkN).1 (W.sX 0 hkN).2
  obtain ⟨b1, tD, z1, z2, eD⟩ := W.sD 0 hkN
  have mD := in_led b1 eD
  refine wpAny_call ?_
  k_dflt (refine' enter_open ?k1 ?k2 ?k3 ?k4 ?k5 ?kA ?kF ?kK ?k6 ?k7 ?k8 ?k9 ?kB ?_ ?c2 ?c3 ?c4 ?c5; (case kA => exact rfl); (case kF => exact rfl); (case kK => assumption); (case k1 => k_asm); (case k2 => k_asm); (case k3 => k_asm); (case k4 => k_asm); (case k5 => k_asm); (case k6 => k_is); (case k7 => k_is); (case k8 => k_room); (case k9 => exact BindsTo.of_eq rfl); (case c5 => decide); (case kB => exact locs rfl); (case c2 => exact rfl); (case c3 => exact rfl); (case c4 => exact rfl); k_whole; intro g1 L1 h1 FG1 F1 N1 B1 X1 T1 lv1 kp1; (try dsimp only); (try k_fold))
  rw [led_fst] at kp1
  have h0L : h₀.get? L = none := Heap.get?_none_of_le F.above
  have hs0 : h₀.StaysIn (hideAll g1 [L]) := fun b o q => hideAll_get _ (FG1.keep b o q) fun hm => by
    rw [List.mem_singleton.mp hm, h0L] at q; cases q
  have Xb : Hid ((K w.params).In (hideAll g1 [L])) := X₀.keeps hs0
  have Tb : Hid (Top topProg lo mean mg mb (hideAll g1 [L])) := T.keeps hs0
  have Bb : Hid (Below (ktrTop dp un gd cn cs L a ccd cl []) (hideAll g1 [L]) [envX cn cs L a ccd cl] g1) := ⟨rfl, fun b o q => of_hideAll _ q, funFrames_hide B1.frames fun env' he b hb => by
    rw [List.mem_singleton.mp he] at hb
    rw [← Option.some.inj hb]
    exact .head _⟩
  have hsz : (hideAll g1 [L]).objs.size ≤ L1 := by rw [hideAll_size]; exact F1.above
  have kpb : ∀ b o, b ∉ A → b ≠ L → s.heap.get? b = some o → (hideAll g1 [L]).get? b = some o := fun b o n1 n2 q => hideAll_get _ (kp1 b o q n1) fun hm => n2 (List.mem_singleton.mp hm)
  have hT9 : Hid (CodeHd (hideAll g1 [L]) 1156 1152) := codeHd_of_K Xb (by with_unfolding_all rfl)
  generalize hideAll g1 [L] = bs at hs0 Xb Tb Bb hsz kpb hT9
  (k_with "call ref" => k_dflt (
    (refine' root_W G n _ _ _ _ _ _ _ _ _ _ bs _ _ _ _ _ _ _ _ _ _ ?k1 ?k2 ?k3 ?k4 ?kT ?k5 ?kK W I hkN hn hrows ?kd ?ku ?kret ?kexc; (case k1 => exact Bb); (case k2 => k_asm); (case k3 => exact X1); (case k4 => k_asm); (case kT => exact hT9); (case k5 => exact T1); (case kK => first | exact rfl | assumption); (case kd => k_room); (case ku => k_units))))
  k_steps
  · rename After _ _ _ _ _ _ _ _ _ _ _ => aft
    rename (walk _ _ _ _ _ _).2 = _ => hdn
    obtain ⟨A', f', x, F9, N9, W9⟩ := aft
    refine lv1 _ _ (leaveK_ F9 N9 fun F8 N8 => ?_)
    rw [hdn] at ret
    exact ret _ _ _ ⟨A', f', x, F8, N8, W9, fun b o n1 _ q => ⟨fun hm => (by have := (N9 _ (in_led hm rfl)).2.2; rw [kp1 b o q n1] at this; cases this), F9.keep b o (kp1 b o q n1)⟩⟩
  · rename Thrown _ _ _ _ _ _ _ _ _ _ _ _ _ _ _ => thr
    rename Says _ _ _ _ => say
    rename (walk _ _ _ _ _ _).2 ≠ _ => hnd
    obtain ⟨A', f', x, fl, W9, he9⟩ := thr
    have hT := topRead_of Tb
    refine fly_lands (Around.frames_deeper (Below.stack Bb)) rfl fl fun h9 fl9 => ?_
    cases hr : (walk g.pl g.sp (n + 1) σ 0 none).2 with
    | done => exact absurd hr hnd
    | bomb =>
      obtain ⟨rfl, rfl⟩ := say.1 hr
      obtain ⟨ob9, hob9, hcl9⟩ := fl9.there
      obtain ⟨oL, oe, F10, _⟩ := fly_ground fl9 rfl rfl FG1.ns hsz
      refine wpAny_handleBy_builtin_as (X := "LookupError") (T := "LookupError") (b := true) PySem.F.isExc_LookupError PySem.F.notTuple_LookupError (by rw [isSubtype_type]; kernel_rfl) (ld_builtin_at F10 hT.g (hT.free _ (by decide +kernel) (by decide +kernel) (by decide +kernel) (by decide +kernel) (by decide +kernel)) hT.b ((hT.builtins _ (by decide +kernel)).trans PyProof.Rows.Boot.«LookupError») ⟨rfl, ⟨ob9, hob9, hcl9⟩, ?_⟩)
      rw [if_pos rfl]
      refine fly_again fl9 fun h11 fl11 => ?_
      obtain ⟨oL, oe, F11, N11, hL, hW, hne⟩ := fly_ground fl11 rfl rfl FG1.ns hsz
      refine stN F11 N11 (fun h12 F12 N12 => ?_) rfl rfl
      clear F10 F11 N N11 F1 N1
      (k_with "compareOp Is ref ref" => k_dflt (refine wpAny_is_ref_self ?_))
      (k_with "bind" => k_dflt (refine name_goes_keeps F12 N12 ?_; intro h13 v13 F13 N13))
      k_steps
      obtain ⟨F14, N14⟩ := fly_home F13 N13 hL hW hne hs0 F.above
      rw [hr] at ret
      refine ret _ _ _ ⟨A', upd f' g.MD oe, fun b hb => ⟨(x b hb).1, fun hst => (upd_ne (statNe hst G.tMD (.inr (.inr (.inr (.inr (.inr rfl))))))).trans ((x b hb).2 hst)⟩, F14, newsSub N14 fun q hq => ?_, W9.setmade G (by rw [walk_bomb hr]; decide) fun b hb => upd_ne hb, fun b o n1 n2 q => ⟨fun hm => ?_, F13.keep b o (kpb b o n1 n2 q)⟩⟩
      · obtain ⟨b, o⟩ := q
        obtain ⟨hb, rfl⟩ := mem_led.mp hq
        by_cases z : b = g.MD
        · subst z; rw [upd_self]; exact .head _
        · rw [upd_ne z]; exact .tail _ (in_led (List.mem_filter.mpr ⟨hb, decide_eq_true z⟩) rfl)
      · have hz := kpb b o n1 n2 q
        by_cases z : b = g.MD
        · have := (N13 _ (.tail _ (.head _))).2.2
          rw [z] at hz; rw [hz] at this; cases this
        · have := (N13 _ (.tail _ (.tail _ (in_led (List.mem_filter.mpr ⟨hm, decide_eq_true z⟩) rfl)))).2.2
          rw [hz] at this; cases this
    | none =>
      obtain rfl := say.2 hr
      have heA := he9.resolve_left fun z => absurd z.2 (by decide)
      obtain ⟨ob9, hob9, hcl9⟩ := fl9.there
      obtain ⟨oL, oe, F10, _⟩ := fly_ground fl9 rfl rfl FG1.ns hsz
      refine wpAny_handleBy_builtin_as (X := "AttributeError") (T := "LookupError") (b := false) PySem.F.isExc_LookupError PySem.F.notTuple_LookupError (by rw [isSubtype_type]; kernel_rfl) (ld_builtin_at F10 hT.g (hT.free _ (by decide +kernel) (by decide +kernel) (by decide +kernel) (by decide +kernel) (by decide +kernel)) hT.b ((hT.builtins _ (by decide +kernel)).trans PyProof.Rows.Boot.«LookupError») ⟨rfl, ⟨ob9, hob9, hcl9⟩, ?_⟩)
      rw [if_neg Bool.false_ne_true]
      refine wpAny_handleBy_builtin (X := "AttributeError") (T := "AttributeError") (b := true) isExc_AttrErr notTuple_AttrErr (by rw [isSubtype_type]; kernel_rfl) (ld_builtin_at F10 hT.g (hT.free _ (by decide +kernel) (by decide +kernel) (by decide +kernel) (by decide +kernel) (by decide +kernel)) hT.b ((hT.builtins _ (by decide +kernel)).trans PyProof.Rows.Boot.«AttributeError») ⟨rfl, ⟨ob9, hob9, hcl9⟩, ?_⟩)
      rw [if_pos rfl]
      refine fly_again fl9 fun h11 fl11 => ?_
      obtain ⟨oL, oe, F11, N11, hL, hW, hne⟩ := fly_ground fl11 rfl rfl FG1.ns hsz
      clear F10 N F1 N1
      k_steps
      obtain ⟨F14, N14⟩ := fly_home F11 N11 hL hW hne hs0 F.above
      rw [hr] at ret
      refine ret _ _ _ ⟨A', f', x, F14, newsSub N14 fun q hq => ?_, W9, fun b o n1 n2 q => ⟨fun hm => ?_, F11.keep b o (kpb b o n1 n2 q)⟩⟩
      · obtain ⟨b, o⟩ := q
        obtain ⟨hb, rfl⟩ := mem_led.mp hq
        exact .tail _ (in_led (List.mem_filter.mpr ⟨hb, decide_eq_true fun z => heA (z ▸ hb)⟩) rfl)
      · have := (N11 _ (.tail _ (.tail _ (in_led (List.mem_filter.mpr ⟨hm, decide_eq_true fun z => heA (z ▸ hm)⟩) rfl)))).2.2
        rw [kpb b o n1 n2 q] at this; cases this
end
end
section
local macro_rules | `(tactic| k_room) => `(tactic| ((try simp only [depth_mark, depth_under_make, depth_under_kw, depth_in1, depth_deeper, depth_caller]); (try dsimp only [ktrTop]); (simp only [recursionLimit] at *); omega))
local macro_rules | `(tactic| k_units) => `(tactic| ((simp only [units_in1, units_deeper, Around.mark_units, units_caller, cLine_is] at *); (try dsimp only [ktrTop] at *); omega))
local macro_rules | `(tactic| k_all) => `(tactic| assumption)
local macro_rules | `(tactic| k_ne) => `(tactic| ((try dsimp only); first | (refine neA ?_; with_reducible assumption) | (refine neA' ?_; with_reducible assumption)))
theorem fill_RA : PySem.Challenge.rw_br5015_01 = PySem.Challenge.rw_br5015_01 ∧ K = K := by
  k_with_none
  k_fill
  exact ⟨rfl, rfl⟩
/-! the law's own lists -/
def Ints (vs : List Value) (l : List Int) : Prop := vs.length = l.length ∧ ∀ (i : Nat) (x : Int), l[i]? = some x → ∃ t, vs[i]? = some (.int x t)
theorem Ints.nil : Ints [] [] := ⟨rfl, fun _ _ h => by simp at h⟩
theorem Ints.push {vs : List Value} {l : List Int} (h : Ints vs l) (x : Int) (t : Tok) : Ints (vs ++ [.int x t]) (l ++ [x]) := by
  refine ⟨by simp [h.1], fun i y hy => ?_⟩
  by_cases hi : i < l.length
  · rw [List.getElem?_append_left hi] at hy
    rw [List.getElem?_append_left (by rw [h.1]; exact hi)]
    exact h.2 i y hy
  · rw [List.getElem?_append_right (by omega)] at hy
    rw [List.getElem?_append_right (by rw [h.1]; omega), h.1]
    have hz : i - l.length = 0 := by
      have := (List.getElem?_eq_some_iff.mp hy).1
      simp at this; omega
    rw [hz] at hy ⊢
    simp at hy
    subst hy
    exact ⟨t, rfl⟩
theorem Ints.set {vs : List Value} {N : Nat} {a : Nat → Int} (h : Ints vs ((List.range N).map a)) (k : Nat) (v : Int) (t : Tok) (hk : k < N) : Ints (vs.set k (.int v t)) ((List.range N).map (put a k v)) := by
  have hl : vs.length = N := by rw [h.1]; simp
  refine ⟨by simp [hl], fun i x hx => ?_⟩
  simp only [List.getElem?_map] at hx
  obtain ⟨j, hj, rfl⟩ := Option.map_eq_some_iff.mp hx
  have hi : i < N ∧ j = i := by
    obtain ⟨h1, h2⟩ := List.getElem?_eq_some_iff.mp hj
    simp at h1 h2
    exact ⟨h1, h2.symm⟩
  obtain ⟨hi, rfl⟩ := hi
  by_cases e : j = k
  · subst e
    rw [put_self]
    exact ⟨t, by rw [List.getElem?_set_self (by omega)]⟩
  · rw [put_ne e, List.getElem?_set_ne (Ne.symm e)]
    exact h.2 j _ (by simp [hi])
theorem Ints.at {vs : List Value} {N : Nat} {a : Nat → Int} (h : Ints vs ((List.range N).map a)) {k : Nat} (hk : k < N) : ∃ t, vs[k]? = some (.int (a k) t) := h.2 k _ (by simp [hk])

structure Lw where
  N : Nat
  LL : Addr
  AT : Addr
  PS : Addr
  TW : Addr
  DU : Addr
  pl : Nat → Option Int
def Lw.Sp (l : Lw) (a : Addr) : Prop := a = l.LL ∨ a = l.AT ∨ a = l.PS ∨ a = l.TW ∨ a = l.DU
structure LwOk (l : Lw) : Prop where
  n2 : 2 ≤ l.N
  n7 : l.N ≤ 7
  pl5 : ∀ k q, l.pl k = some q → 0 ≤ q ∧ q ≤ 5
  d12 : l.LL ≠ l.AT
  d13 : l.LL ≠ l.PS
  d14 : l.LL ≠ l.TW
  d15 : l.LL ≠ l.DU
  d23 : l.AT ≠ l.PS
  d24 : l.AT ≠ l.TW
  d25 : l.AT ≠ l.DU
  d34 : l.PS ≠ l.TW
  d35 : l.PS ≠ l.DU
  d45 : l.TW ≠ l.DU
  sys : (l.TW == sysModules) = false
def TwinAt (w : World) (o : Obj) (b e : Int) (en : Str) : Prop :=
  ∃ kvs, o.IsDictOf (strKind prg w) kvs ∧ PyProof.V.FlatPairs PyData.str kvs [(.str (Str.ofString "bomb"), .int b), (.str (Str.ofString "more"), .int e), (.str (Str.ofString "end"), .str en)]
structure Ld (w : World) (l : Lw) (LI : Nat → Addr) (σ : St) (en : Str) (B : List Addr) (f : Addr → Obj) : Prop where
  nod : B.Nodup
  sLL : l.LL ∈ B ∧ ∃ n, f l.LL = PySem.W.listOf ((List.range l.N).map fun j => Value.ref (LI j)).toArray n
  sLI : ∀ k < l.N, LI k ∈ B ∧ ¬ l.Sp (LI k) ∧ ∃ (vs : List Value) (n : Nat), f (LI k) = PySem.W.listOf vs.toArray n ∧ Ints vs ((σ.kids k).map fun (j : Nat) => (j : Int))
  inj : ∀ i < l.N, ∀ j < l.N, LI i = LI j → i = j
  sAT : l.AT ∈ B ∧ ∃ (vs : List Value) (n : Nat), f l.AT = PySem.W.listOf vs.toArray n ∧ Ints vs ((List.range l.N).map σ.at_)
  sPS : l.PS ∈ B ∧ ∃ (vs : List Value) (n : Nat), f l.PS = PySem.W.listOf vs.toArray n ∧ vs.length = l.N ∧ ∀ k < l.N, (l.pl k = none → vs[k]? = some .none) ∧ ∀ q, l.pl k = some q → ∃ t, vs[k]? = some (.int q t)
  sTW : l.TW ∈ B ∧ TwinAt w (f l.TW) σ.bomb σ.more en
  sDU : l.DU ∈ B ∧ ∃ (n : Nat) (rs : List Addr), f l.DU = PySem.W.listOf (rs.map Value.ref).toArray n ∧ rs.length = σ.log.length ∧
    ∀ (i : Nat) (r : Addr) (e : Int × Int × Int), rs[i]? = some r → σ.log[i]? = some e → r ∈ B ∧ ¬ l.Sp r ∧ (∀ k < l.N, r ≠ LI k) ∧ ∃ t1 t2 t3, f r = rowOf e.1 e.2.1 e.2.2 t1 t2 t3
section
variable {w : World} {l : Lw} {LI : Nat → Addr} {σ : St} {en : Str} {B : List Addr} {f f' : Addr → Obj}
theorem Ld.rows' {B' : List Addr} {LI' : Nat → Addr} (W : Ld w l LI σ en B f) (hB : ∀ b ∈ B, b ∈ B') (hD : f' l.DU = f l.DU) (hr : ∀ r ∈ B, ¬ l.Sp r → (∀ k < l.N, r ≠ LI k) → f' r = f r ∧ ∀ k < l.N, r ≠ LI' k) :
    ∃ (n : Nat) (rs : List Addr), f' l.DU = PySem.W.listOf (rs.map Value.ref).toArray n ∧ rs.length = σ.log.length ∧
    ∀ (i : Nat) (r : Addr) (e : Int × Int × Int), rs[i]? = some r → σ.log[i]? = some e → r ∈ B' ∧ ¬ l.Sp r ∧ (∀ k < l.N, r ≠ LI' k) ∧ ∃ t1 t2 t3, f' r = rowOf e.1 e.2.1 e.2.2 t1 t2 t3 := by
  obtain ⟨_, n, rs, h1, h2, h3⟩ := W.sDU
  refine ⟨n, rs, hD.trans h1, h2, fun i r e hi he => ?_⟩
  obtain ⟨a1, a2, a3, t1, t2, t3, a4⟩ := h3 i r e hi he
  obtain ⟨b1, b2⟩ := hr r a1 a2 a3
  exact ⟨hB _ a1, a2, b2, t1, t2, t3, b1.trans a4⟩
theorem Ld.setat (O : LwOk l) (W : Ld w l LI σ en B f) {k : Nat} {v : Int} (hf : ∀ b, b ≠ l.AT → f' b = f b)
    (hA : ∃ (vs : List Value) (n : Nat), f' l.AT = PySem.W.listOf vs.toArray n ∧ Ints vs ((List.range l.N).map (put σ.at_ k v))) : Ld w l LI { σ with at_ := put σ.at_ k v } en B f' where
  nod := W.nod
  sLL := ⟨W.sLL.1, by rw [hf _ O.d12]; exact W.sLL.2⟩
  sLI := fun j hj => ⟨(W.sLI j hj).1, (W.sLI j hj).2.1, by rw [hf _ fun e => (W.sLI j hj).2.1 (.inr (.inl e))]; exact (W.sLI j hj).2.2⟩
  inj := W.inj
  sAT := ⟨W.sAT.1, hA⟩
  sPS := ⟨W.sPS.1, by rw [hf _ (Ne.symm O.d23)]; exact W.sPS.2⟩
  sTW := ⟨W.sTW.1, by rw [hf _ (Ne.symm O.d24)]; exact W.sTW.2⟩
  sDU := ⟨W.sDU.1, W.rows' (fun _ h => h) (hf _ (Ne.symm O.d25)) fun r _ hs hl => ⟨hf _ fun e => hs (.inr (.inl e)), hl⟩⟩
theorem Ld.settwin (O : LwOk l) (W : Ld w l LI σ en B f) {b e : Int} {en' : Str} (hf : ∀ a, a ≠ l.TW → f' a = f a) (hT : TwinAt w (f' l.TW) b e en') : Ld w l LI { σ with bomb := b, more := e } en' B f' where
  nod := W.nod
  sLL := ⟨W.sLL.1, by rw [hf _ O.d14]; exact W.sLL.2⟩
  sLI := fun j hj => ⟨(W.sLI j hj).1, (W.sLI j hj).2.1, by rw [hf _ fun e => (W.sLI j hj).2.1 (.inr (.inr (.inr (.inl e))))]; exact (W.sLI j hj).2.2⟩
  inj := W.inj
  sAT := ⟨W.sAT.1, by rw [hf _ O.d24]; exact W.sAT.2⟩
  sPS := ⟨W.sPS.1, by rw [hf _ O.d34]; exact W.sPS.2⟩
  sTW := ⟨W.sTW.1, hT⟩
  sDU := ⟨W.sDU.1, W.rows' (fun _ h => h) (hf _ (Ne.symm O.d45)) fun r _ hs hl => ⟨hf _ fun e => hs (.inr (.inr (.inr (.inl e)))), hl⟩⟩
theorem Ld.addrow (O : LwOk l) (W : Ld w l LI σ en B f) {r : Addr} {e : Int × Int × Int} (hr : r ∉ B) (hf : ∀ b, b ≠ l.DU → b ≠ r → f' b = f b) (ht : ∃ t1 t2 t3, f' r = rowOf e.1 e.2.1 e.2.2 t1 t2 t3)
    (hS : ∀ n (rs : List Addr), f l.DU = PySem.W.listOf (rs.map Value.ref).toArray n → ∃ n', f' l.DU = PySem.W.listOf ((rs ++ [r]).map Value.ref).toArray n') : Ld w l LI { σ with log := σ.log ++ [e] } en (r :: B) f' := by
  have nr : ∀ b ∈ B, b ≠ r := fun b hb e => hr (e ▸ hb)
  have nsp : ¬ l.Sp r := fun h => by
    rcases h with h | h | h | h | h <;> rw [h] at hr
    · exact hr W.sLL.1
    · exact hr W.sAT.1
    · exact hr W.sPS.1
    · exact hr W.sTW.1
    · exact hr W.sDU.1
  have nli : ∀ k < l.N, r ≠ LI k := fun k hk e => hr (e ▸ (W.sLI k hk).1)
  refine ⟨List.nodup_cons.mpr ⟨hr, W.nod⟩, ⟨.tail _ W.sLL.1, by rw [hf _ O.d15 (nr _ W.sLL.1)]; exact W.sLL.2⟩,
    fun j hj => ⟨.tail _ (W.sLI j hj).1, (W.sLI j hj).2.1, by rw [hf _ (fun e => (W.sLI j hj).2.1 (.inr (.inr (.inr (.inr e))))) (nr _ (W.sLI j hj).1)]; exact (W.sLI j hj).2.2⟩,
    W.inj, ⟨.tail _ W.sAT.1, by rw [hf _ O.d25 (nr _ W.sAT.1)]; exact W.sAT.2⟩, ⟨.tail _ W.sPS.1, by rw [hf _ O.d35 (nr _ W.sPS.1)]; exact W.sPS.2⟩, ⟨.tail _ W.sTW.1, by rw [hf _ O.d45 (nr _ W.sTW.1)]; exact W.sTW.2⟩, .tail _ W.sDU.1, ?_⟩
  obtain ⟨_, n, rs, h1, h2, h3⟩ := W.sDU
  obtain ⟨n', h4⟩ := hS n rs h1
  refine ⟨n', rs ++ [r], h4, by simp only [List.length_append, List.length_cons, List.length_nil, h2], fun i r' e' hr' he' => ?_⟩
  have he' : (σ.log ++ [e])[i]? = some e' := he'
  by_cases hi : i < rs.length
  · rw [List.getElem?_append_left hi] at hr'
    rw [List.getElem?_append_left (by omega)] at he'
    obtain ⟨a1, a2, a3, t1, t2, t3, a4⟩ := h3 i r' e' hr' he'
    exact ⟨.tail _ a1, a2, a3, t1, t2, t3, (hf _ (fun e => a2 (.inr (.inr (.inr (.inr e))))) (nr _ a1)).trans a4⟩
  · rw [List.getElem?_append_right (by omega)] at hr'
    rw [List.getElem?_append_right (by omega), ← h2] at he'
    have hz : i - rs.length = 0 := by
      have := (List.getElem?_eq_some_iff.mp hr').1
      simp only [List.length_cons, List.length_nil] at this
      omega
    rw [hz] at hr' he'
    cases hr'
    cases he'
    exact ⟨.head _, nsp, nli, ht⟩
theorem Ld.empty (O : LwOk l) (W : Ld w l LI σ en B f) {k : Nat} {x : Addr} (hx : x ∉ B) (hf : ∀ b, b ≠ l.LL → b ≠ x → f' b = f b) (hX : ∃ n, f' x = PySem.W.listOf #[] n)
    (hL : ∃ n, f' l.LL = PySem.W.listOf ((List.range l.N).map fun j => Value.ref (put LI k x j)).toArray n) : Ld w l (put LI k x) { σ with kids := put σ.kids k [] } en (x :: B) f' := by
  have nr : ∀ b ∈ B, b ≠ x := fun b hb e => hx (e ▸ hb)
  have nsp : ¬ l.Sp x := fun h => by
    rcases h with h | h | h | h | h <;> rw [h] at hx
    · exact hx W.sLL.1
    · exact hx W.sAT.1
    · exact hx W.sPS.1
    · exact hx W.sTW.1
    · exact hx W.sDU.1
  refine ⟨List.nodup_cons.mpr ⟨hx, W.nod⟩, ⟨.tail _ W.sLL.1, hL⟩, fun j hj => ?_, fun i hi j hj e => ?_,
    ⟨.tail _ W.sAT.1, by rw [hf _ (Ne.symm O.d12) (nr _ W.sAT.1)]; exact W.sAT.2⟩, ⟨.tail _ W.sPS.1, by rw [hf _ (Ne.symm O.d13) (nr _ W.sPS.1)]; exact W.sPS.2⟩, ⟨.tail _ W.sTW.1, by rw [hf _ (Ne.symm O.d14) (nr _ W.sTW.1)]; exact W.sTW.2⟩,
    .tail _ W.sDU.1, W.rows' (fun _ h => .tail _ h) (hf _ (Ne.symm O.d15) (nr _ W.sDU.1)) fun r hr hs hl => ⟨hf _ (fun e => hs (.inl e)) (nr _ hr), fun j hj e => ?_⟩⟩
  · by_cases h : j = k
    · subst h
      rw [put_self]
      obtain ⟨n, h⟩ := hX
      refine ⟨.head _, nsp, [], n, h, ?_⟩
      show Ints [] ((put σ.kids j [] j).map fun (j : Nat) => (j : Int))
      rw [put_self]; exact Ints.nil
    · rw [put_ne h]
      refine ⟨.tail _ (W.sLI j hj).1, (W.sLI j hj).2.1, ?_⟩
      rw [hf _ (fun e => (W.sLI j hj).2.1 (.inl e)) (nr _ (W.sLI j hj).1)]
      show ∃ vs n, _ ∧ Ints vs ((put σ.kids k [] j).map _)
      rw [put_ne h]; exact (W.sLI j hj).2.2
  · by_cases h1 : i = k
    · by_cases h2 : j = k
      · rw [h1, h2]
      · rw [h1, put_self, put_ne h2] at e
        exact absurd e.symm (nr _ (W.sLI j hj).1)
    · by_cases h2 : j = k
      · rw [h2, put_self, put_ne h1] at e
        exact absurd e (nr _ (W.sLI i hi).1)
      · rw [put_ne h1, put_ne h2] at e
        exact W.inj i hi j hj e
  · by_cases h : j = k
    · subst h; rw [put_self] at e; exact nr _ hr e
    · rw [put_ne h] at e; exact hl j hj e
theorem Ld.addkid (O : LwOk l) (W : Ld w l LI σ en B f) {k sp : Nat} (hk : k < l.N) (hf : ∀ b, b ≠ LI k → f' b = f b)
    (hX : ∃ (vs : List Value) (n : Nat), f' (LI k) = PySem.W.listOf vs.toArray n ∧ Ints vs ((σ.kids k ++ [sp]).map fun (j : Nat) => (j : Int))) : Ld w l LI { σ with kids := put σ.kids k (σ.kids k ++ [sp]) } en B f' := by
  have hs := (W.sLI k hk).2.1
  refine ⟨W.nod, ⟨W.sLL.1, by rw [hf _ fun e => hs (.inl e.symm)]; exact W.sLL.2⟩, fun j hj => ⟨(W.sLI j hj).1, (W.sLI j hj).2.1, ?_⟩, W.inj,
    ⟨W.sAT.1, by rw [hf _ fun e => hs (.inr (.inl e.symm))]; exact W.sAT.2⟩, ⟨W.sPS.1, by rw [hf _ fun e => hs (.inr (.inr (.inl e.symm)))]; exact W.sPS.2⟩, ⟨W.sTW.1, by rw [hf _ fun e => hs (.inr (.inr (.inr (.inl e.symm))))]; exact W.sTW.2⟩,
    W.sDU.1, W.rows' (fun _ h => h) (hf _ fun e => hs (.inr (.inr (.inr (.inr e.symm))))) fun r _ _ hl => ⟨hf _ (hl k hk), hl⟩⟩
  by_cases h : j = k
  · subst h
    show ∃ vs n, _ ∧ Ints vs ((put σ.kids j (σ.kids j ++ [sp]) j).map _)
    rw [put_self]; exact hX
  · rw [hf _ fun e => h (W.inj j hj k hk e)]
    show ∃ vs n, _ ∧ Ints vs ((put σ.kids k (σ.kids k ++ [sp]) j).map _)
    rw [put_ne h]; exact (W.sLI j hj).2.2
end
end
section
local macro_rules | `(tactic| k_room) => `(tactic| ((try simp only [depth_mark, depth_under_make, depth_under_kw, depth_in1, depth_deeper, depth_caller]); (try dsimp only [ktrTop]); (simp only [recursionLimit] at *); omega))
local macro_rules | `(tactic| k_units) => `(tactic| ((simp only [units_in1, units_deeper, Around.mark_units, units_caller, cLine_is] at *); (try dsimp only [ktrTop] at *); omega))
local macro_rules | `(tactic| k_all) => `(tactic| assumption)
local macro_rules | `(tactic| k_ne) => `(tactic| ((try dsimp only); first | (refine neA ?_; with_reducible assumption) | (refine neA' ?_; with_reducible assumption)))
theorem fill_RB : PySem.Challenge.rw_br5015_01 = PySem.Challenge.rw_br5015_01 ∧ K = K := by
  k_with_none
  k_fill
  exact ⟨rfl, rfl⟩
section
variable {w : World} {A : Around} {E : Value → Shared → Prop} {s : Shared} {h₀ : Heap} {L : Addr} {m : Str → Option Value} {l : Lw} {LI : Nat → Addr} {σ : St} {en : Str} {B : List Addr} {f : Addr → Obj}
theorem sub_at {value slice : Expr} {a : Addr} {vs : List Value} {n i : Nat} {u : Tok} {v : Value} {Q : Value → Shared → Prop} (ho : s.heap.get? a = some (PySem.W.listOf vs.toArray n)) (hi : i < 2 ^ 63) (hv : vs[i]? = some v) (h : Q v s)
    (hs : subscripted slice false (.ref a) (.int (i : Int) u) = operate [.ref a, .int (i : Int) u] (getItem (.ref a) (.int (i : Int) u)) := by with_unfolding_all rfl) :
    wpAny (model prg w) A (subscriptTail value slice (.ref a) (.int (i : Int) u)) Q E s := by
  have hl : s.heap.IsList a vs.toArray := PySem.IsL.isList (n := n) ho
  exact tail_any hl.typeIs slot_list_getitem.lookup (wpAny_getItem_list hl (by omega) (by omega) (by simpa using hv) h) hs
theorem subL_W {value slice : Expr} {k : Nat} {u : Tok} {Q : Value → Shared → Prop} (O : LwOk l) (N : News h₀ L s.heap (led B f)) (D : Ld w l LI σ en B f) (hk : k < l.N) (h : Q (.ref (LI k)) s)
    (hs : subscripted slice false (.ref l.LL) (.int (k : Int) u) = operate [.ref l.LL, .int (k : Int) u] (getItem (.ref l.LL) (.int (k : Int) u)) := by with_unfolding_all rfl) :
    wpAny (model prg w) A (subscriptTail value slice (.ref l.LL) (.int (k : Int) u)) Q E s := by
  obtain ⟨b1, n, e1⟩ := D.sLL
  have := O.n7
  exact sub_at (N _ (in_led b1 e1)).1 (by omega) (by simp [hk]) h hs
theorem subI_W {value slice : Expr} {k i j : Nat} {u : Tok} {Q : Value → Shared → Prop} (O : LwOk l) (N : News h₀ L s.heap (led B f)) (D : Ld w l LI σ en B f) (hk : k < l.N) (hi : i < 2 ^ 63) (hj : (σ.kids k)[i]? = some j) (h : ∀ t, Q (.int (j : Int) t) s)
    (hs : subscripted slice false (.ref (LI k)) (.int (i : Int) u) = operate [.ref (LI k), .int (i : Int) u] (getItem (.ref (LI k)) (.int (i : Int) u)) := by with_unfolding_all rfl) :
    wpAny (model prg w) A (subscriptTail value slice (.ref (LI k)) (.int (i : Int) u)) Q E s := by
  obtain ⟨b1, _, vs, n, e1, hv⟩ := D.sLI k hk
  obtain ⟨t, ht⟩ := hv.2 i (j : Int) (by simp [hj])
  exact sub_at (N _ (in_led b1 e1)).1 hi ht (h t) hs
theorem subA_W {value slice : Expr} {k : Nat} {u : Tok} {Q : Value → Shared → Prop} (O : LwOk l) (N : News h₀ L s.heap (led B f)) (D : Ld w l LI σ en B f) (hk : k < l.N) (h : ∀ t, Q (.int (σ.at_ k) t) s)
    (hs : subscripted slice false (.ref l.AT) (.int (k : Int) u) = operate [.ref l.AT, .int (k : Int) u] (getItem (.ref l.AT) (.int (k : Int) u)) := by with_unfolding_all rfl) :
    wpAny (model prg w) A (subscriptTail value slice (.ref l.AT) (.int (k : Int) u)) Q E s := by
  obtain ⟨b1, vs, n, e1, hv⟩ := D.sAT
  obtain ⟨t, ht⟩ := hv.at hk
  have := O.n7
  exact sub_at (N _ (in_led b1 e1)).1 (by omega) ht (h t) hs
theorem subP_W {value slice : Expr} {k : Nat} {u : Tok} {Q : Value → Shared → Prop} (O : LwOk l) (N : News h₀ L s.heap (led B f)) (D : Ld w l LI σ en B f) (hk : k < l.N) (h1 : l.pl k = none → Q .none s) (h2 : ∀ q t, l.pl k = some q → Q (.int q t) s)
    (hs : subscripted slice false (.ref l.PS) (.int (k : Int) u) = operate [.ref l.PS, .int (k : Int) u] (getItem (.ref l.PS) (.int (k : Int) u)) := by with_unfolding_all rfl) :
    wpAny (model prg w) A (subscriptTail value slice (.ref l.PS) (.int (k : Int) u)) Q E s := by
  obtain ⟨b1, vs, n, e1, hl, hv⟩ := D.sPS
  have := O.n7
  cases hp : l.pl k with
  | none => exact sub_at (N _ (in_led b1 e1)).1 (by omega) ((hv k hk).1 hp) (h1 hp) hs
  | some q =>
    obtain ⟨t, ht⟩ := (hv k hk).2 q hp
    exact sub_at (N _ (in_led b1 e1)).1 (by omega) ht (h2 q t hp) hs
theorem subP_K {value slice : Expr} {k : Nat} {q : Int} {u : Tok} {Q : Value → Shared → Prop} (O : LwOk l) (N : News h₀ L s.heap (led B f)) (D : Ld w l LI σ en B f) (hk : k < l.N) (hq : l.pl k = some q) (h2 : ∀ t, Q (.int q t) s)
    (hs : subscripted slice false (.ref l.PS) (.int (k : Int) u) = operate [.ref l.PS, .int (k : Int) u] (getItem (.ref l.PS) (.int (k : Int) u)) := by with_unfolding_all rfl) :
    wpAny (model prg w) A (subscriptTail value slice (.ref l.PS) (.int (k : Int) u)) Q E s := by
  refine subP_W O N D hk (fun h => ?_) (fun q' t h => ?_) hs
  · rw [hq] at h; cases h
  · rw [hq] at h; cases h; exact h2 t
/-- one object of a ledger is changed -/
theorem set_led {h h' : Heap} {a : Addr} {o : Obj} (hn : B.Nodup) (F : Fr h₀ L h m) (N : News h₀ L h (led B f)) (ha : a ∈ B) (hs : Heap.SameBut a h h') (ho : h'.get? a = some o) : Fr h₀ L h' m ∧ News h₀ L h' (led B (upd f a o)) := by
  have z := N _ (in_led ha rfl)
  refine ⟨F.change hs z.2.1 z.2.2, fun q hq => ?_⟩
  obtain ⟨b, ob⟩ := q
  obtain ⟨hb, rfl⟩ := mem_led.mp hq
  by_cases e : b = a
  · subst e; rw [upd_self]; exact ⟨ho, z.2⟩
  · rw [upd_ne e]
    have := N _ (in_led hb rfl)
    exact ⟨(hs.2 b e).trans this.1, this.2⟩
theorem led_cons {x : Addr} {o : Obj} (hx : x ∉ B) : (x, o) :: led B f = led (x :: B) (upd f x o) := by
  unfold led
  rw [List.map_cons, upd_self]
  congr 1
  apply List.map_congr_left
  intro b hb
  rw [upd_ne fun (e : b = x) => hx (e ▸ hb)]
theorem isL_set {h : Heap} {a : Addr} {vs : List Value} {n i : Nat} {v : Value} (ho : h.get? a = some (PySem.W.listOf vs.toArray n)) (hi : i < vs.length) :
    (h.update a (Obj.mapSeq (·.setIfInBounds i v))).get? a = some (PySem.W.listOf (vs.set i v).toArray n) := by
  have q := PySem.IsL.update ho (·.setIfInBounds i v)
  have e : vs.toArray.setIfInBounds i v = (vs.set i v).toArray := by
    apply Array.toList_inj.mp
    simp
  rw [e, if_pos (by simp)] at q
  exact q
/-- ats[k] = v -/
theorem setA_W {k : Nat} {u t : Tok} {v : Int} {Q : Unit → Shared → Prop} (O : LwOk l) (F : Fr h₀ L s.heap m) (N : News h₀ L s.heap (led B f)) (D : Ld w l LI σ en B f) (hk : k < l.N)
    (h : ∀ h' f', Fr h₀ L h' m → News h₀ L h' (led B f') → Ld w l LI { σ with at_ := put σ.at_ k v } en B f' → Q () { s with heap := h' }) :
    wpAny (model prg w) A (setItem (.ref l.AT) (.int (k : Int) u) (.int v t)) Q E s := by
  obtain ⟨b1, vs, n, e1, hv⟩ := D.sAT
  have hz := N _ (in_led b1 e1)
  have hl : vs.length = l.N := by rw [hv.1]; simp
  have := O.n7
  refine ki_setAt hz.1 (by omega) (by omega) (by simp only [List.size_toArray]; omega) ?_
  obtain ⟨F', N'⟩ := set_led D.nod F N b1 (Heap.SameBut.update ..) (isL_set (i := k) (v := .int v t) hz.1 (by omega))
  exact h _ _ F' N' (D.setat O (fun b hb => upd_ne hb) ⟨_, n, upd_self _ _ _, hv.set k v t hk⟩)
/-- lists[k] = [] -/
theorem setL_W {k : Nat} {u : Tok} {x : Addr} {n₀ : Nat} {Q : Unit → Shared → Prop} (O : LwOk l) (F : Fr h₀ L s.heap m) (N : News h₀ L s.heap ((x, PySem.W.listOf #[] n₀) :: led B f)) (D : Ld w l LI σ en B f) (hx : x ∉ B) (hk : k < l.N)
    (h : ∀ h' f', Fr h₀ L h' m → News h₀ L h' (led (x :: B) f') → Ld w l (put LI k x) { σ with kids := put σ.kids k [] } en (x :: B) f' → Q () { s with heap := h' }) :
    wpAny (model prg w) A (setItem (.ref l.LL) (.int (k : Int) u) (.ref x)) Q E s := by
  obtain ⟨b1, n, e1⟩ := D.sLL
  rw [led_cons hx] at N
  have hne : l.LL ≠ x := fun e => hx (e ▸ b1)
  have hz := N _ (in_led (.tail _ b1) ((upd_ne hne).trans e1))
  have := O.n7
  have hn : (x :: B).Nodup := List.nodup_cons.mpr ⟨hx, D.nod⟩
  refine ki_setAt hz.1 (by omega) (by omega) (by simpa using hk) ?_
  obtain ⟨F', N'⟩ := set_led hn F N (.tail _ b1) (Heap.SameBut.update ..) (isL_set (i := k) (v := .ref x) hz.1 (by simpa using hk))
  refine h _ _ F' N' (D.empty O hx (fun b h1 h2 => by rw [upd_ne h1, upd_ne h2]) ⟨n₀, by rw [upd_ne (Ne.symm hne), upd_self]⟩ ⟨n, ?_⟩)
  rw [upd_self]
  congr 2
  apply List.ext_getElem?
  intro i
  by_cases hi : i = k
  · subst hi
    rw [List.getElem?_set_self (by simpa using hk)]
    simp [hk, put_self]
  · rw [List.getElem?_set_ne (Ne.symm hi)]
    by_cases h7 : i < l.N
    · simp [h7, put_ne hi]
    · simp [h7]
/-- due.append(row) -/
theorem appD_W {r : Addr} {e : Int × Int × Int} {t1 t2 t3 : Tok} {Q : Value → Shared → Prop} (O : LwOk l) (F : Fr h₀ L s.heap m) (N : News h₀ L s.heap ((r, rowOf e.1 e.2.1 e.2.2 t1 t2 t3) :: led B f)) (D : Ld w l LI σ en B f) (hr : r ∉ B) (hz : σ.log.length ≤ 16000000)
    (h : ∀ h' f', Fr h₀ L h' m → News h₀ L h' (led (r :: B) f') → Ld w l LI { σ with log := σ.log ++ [e] } en (r :: B) f' → Q .none { s with heap := h' }) :
    wpAny (model prg w) A (call (.builtin "list.append") [.ref l.DU, .ref r]) Q E s := by
  obtain ⟨b1, n, rs, e1, e2, e3⟩ := D.sDU
  rw [led_cons hr] at N
  have hne : l.DU ≠ r := fun e => hr (e ▸ b1)
  have hn : (r :: B).Nodup := List.nodup_cons.mpr ⟨hr, D.nod⟩
  have hzz : (16000000 : Nat) ≤ sizeLine := by rw [sizeLine_eq]; decide
  refine append_K F N (upd_led hn (.tail _ b1) ((upd_ne hne).trans e1)) (fun h' F' N' => h h' _ F' N' (D.addrow O hr (fun b h1 h2 => by rw [upd_ne h1, upd_ne h2]) ⟨t1, t2, t3, by rw [upd_ne (Ne.symm hne), upd_self]⟩ fun n' rs' hrs => ⟨n + 1, ?_⟩)) (by simp only [List.size_toArray, List.length_map]; omega)
  rw [upd_self]
  rw [e1] at hrs
  have := congrArg Obj.data hrs
  simp only [PySem.W.listOf, Data.seq.injEq] at this
  have h2 : rs.map Value.ref = rs'.map Value.ref := by
    have := congrArg Array.toList this.1
    simpa using this
  congr 1
  apply Array.toList_inj.mp
  simp [h2]
/-- lists[p].append(spare_at) -/
theorem appK_W {p sp : Nat} {t : Tok} {Q : Value → Shared → Prop} (O : LwOk l) (F : Fr h₀ L s.heap m) (N : News h₀ L s.heap (led B f)) (D : Ld w l LI σ en B f) (hp : p < l.N) (hz : (σ.kids p).length ≤ 20)
    (h : ∀ h' f', Fr h₀ L h' m → News h₀ L h' (led B f') → Ld w l LI { σ with kids := put σ.kids p (σ.kids p ++ [sp]) } en B f' → Q .none { s with heap := h' }) :
    wpAny (model prg w) A (call (.builtin "list.append") [.ref (LI p), .int (sp : Int) t]) Q E s := by
  obtain ⟨b1, _, vs, n, e1, hv⟩ := D.sLI p hp
  have hl : vs.length = (σ.kids p).length := by rw [hv.1]; simp
  have hzz : (20 : Nat) ≤ sizeLine := by rw [sizeLine_eq]; decide
  refine append_K F N (upd_led D.nod b1 e1) (fun h' F' N' => h h' _ F' N' (D.addkid O hp (fun b hb => upd_ne hb) ⟨vs ++ [.int (sp : Int) t], n + 1, ?_, ?_⟩)) (by simp only [List.size_toArray]; omega)
  · rw [upd_self]
    congr 1
    apply Array.toList_inj.mp
    simp
  · rw [List.map_append]
    exact hv.push _ _
/-- the plan's words, by their keys -/
theorem tab_W (O : LwOk l) (N : News h₀ L s.heap (led B f)) (D : Ld w l LI σ en B f) : TabAt (strKind prg w) PyData.str s.heap l.TW [(.str (Str.ofString "bomb"), .int σ.bomb), (.str (Str.ofString "more"), .int σ.more), (.str (Str.ofString "end"), .str en)] := by
  obtain ⟨b1, kvs, h1, h2⟩ := D.sTW
  exact ⟨O.sys, kvs, Heap.dictOf_iff.mpr ⟨_, (N _ (in_led b1 rfl)).1, h1⟩, h2⟩
theorem setT_W {key : String} {t : Tok} {v : Value} {dv : PyData} {b e : Int} {en' : Str} {Q : Unit → Shared → Prop} (O : LwOk l) (F : Fr h₀ L s.heap m) (N : News h₀ L s.heap (led B f)) (D : Ld w l LI σ en B f) (hv : PyProof.V.Flat v dv)
    (hp : PyProof.V.putD (.str (Str.ofString key)) dv [(PyData.str (Str.ofString "bomb"), PyData.int σ.bomb), (.str (Str.ofString "more"), .int σ.more), (.str (Str.ofString "end"), .str en)] = [(.str (Str.ofString "bomb"), .int b), (.str (Str.ofString "more"), .int e), (.str (Str.ofString "end"), .str en')])
    (h : ∀ h' f', Fr h₀ L h' m → News h₀ L h' (led B f') → Ld w l LI { σ with bomb := b, more := e } en' B f' → Q () { s with heap := h', toks := s.toks + 1 }) :
    wpAny (model prg w) A (setItem (.ref l.TW) (.str (Str.ofString key) t) v) Q E s := by
  obtain ⟨b1, kvs, h1, h2⟩ := D.sTW
  obtain ⟨gg, U, hg⟩ := updF_led D.nod b1 rfl
  have hzz : (3 : Nat) ≤ sizeLine := by rw [sizeLine_eq]; decide
  refine setItem_K PyProof.V.same_str (strKind_is _ _ _ _) hv F N U h1 h2 (fun h' o' F' N' hd hf => h h' (upd f l.TW o') F' (hg o' ▸ N') (D.settwin O (fun a ha => upd_ne ha) ⟨_, by rw [upd_self]; exact hd, hp ▸ hf⟩)) hzz
end
end
section
local macro_rules | `(tactic| k_room) => `(tactic| ((try simp only [depth_mark, depth_under_make, depth_under_kw, depth_in1, depth_deeper, depth_caller]); (try dsimp only [ktrTop]); (simp only [recursionLimit] at *); omega))
local macro_rules | `(tactic| k_units) => `(tactic| ((simp only [units_in1, units_deeper, Around.mark_units, units_caller, cLine_is] at *); (try dsimp only [ktrTop] at *); omega))
local macro_rules | `(tactic| k_all) => `(tactic| assumption)
local macro_rules | `(tactic| k_ne) => `(tactic| ((try dsimp only); first | (refine neA ?_; with_reducible assumption) | (refine neA' ?_; with_reducible assumption)))
theorem fill_RC : PySem.Challenge.rw_br5015_01 = PySem.Challenge.rw_br5015_01 ∧ K = K := by
  k_with_none
  k_fill
  exact ⟨rfl, rfl⟩
def endS (r : Res) (en : Str) : Str := match r with | .done => en | .bomb => S "bomb" | .none => S "no handler"
structure TestOk (g₀ : Heap) (L : Addr) (m : Str → Option Value) (W : List (Addr × Obj)) (s : Shared) (i : Nat) (ti : Tok) (len : Nat) (b : Bool) (s₂ : Shared) : Prop where
  val : b = decide (i < len)
  at_ : ∃ h2 tk2, s₂ = { s with heap := h2, toks := tk2 } ∧ Fr g₀ L h2 (fun y => if y = S "i" then some (.int (i : Int) ti) else m y) ∧ News g₀ L h2 W
inductive BodyOk (w : World) (l : Lw) (g₀ : Heap) (L : Addr) (m : Str → Option Value) (s : Shared) (i : Nat) (en : Str) (r : St × Res) : Flow → Shared → Prop where
  | next {LI2 : Nat → Addr} {B2 : List Addr} {f2 : Addr → Obj} {h2 : Heap} {tk2 : Nat} {t2 : Tok} : News g₀ L h2 (led B2 f2) → Ld w l LI2 r.1 (endS r.2 en) B2 f2 → r.2 = .done → Fr g₀ L h2 (fun y => if y = S "i" then some (.int ((i : Int) + 1) t2) else m y) → BodyOk w l g₀ L m s i en r .next { s with heap := h2, toks := tk2 }
  | ret {LI2 : Nat → Addr} {B2 : List Addr} {f2 : Addr → Obj} {h2 : Heap} {tk2 : Nat} {m2 : Str → Option Value} : News g₀ L h2 (led B2 f2) → Ld w l LI2 r.1 (endS r.2 en) B2 f2 → r.2 ≠ .done → Fr g₀ L h2 m2 → BodyOk w l g₀ L m s i en r (.ret (.bool false)) { s with heap := h2, toks := tk2 }
section
variable {w : World} {l : Lw} {LI : Nat → Addr} {σ : St} {en : Str} {B : List Addr} {f : Addr → Obj} {AA : Around} {env : Env} {g₀ : Heap} {L : Addr} {m : Str → Option Value} {s : Shared}
  {Q : Flow → Shared → Prop} {R : Result → Shared → Prop} {test : Expr} {body : List Stmt}
theorem loopL_W {k : Nat} (step : St → Nat → St × Res) {c lim : Nat}
    (F : Fr g₀ L s.heap m) {t0 : Tok} (hm0 : m (S "i") = some (.int 0 t0)) (N : News g₀ L s.heap (led B f)) (D : Ld w l LI σ en B f) (I : Inv l.N σ)
    (hI : ∀ σ j, Inv l.N σ → k < j → j < l.N → Inv l.N (step σ j).1) (hlog : ∀ σ j, ∃ l, (step σ j).1.log = σ.log ++ l ∧ l.length ≤ c) (hrows : σ.log.length + 8 * c ≤ lim)
    (htest : ∀ (i : Nat) (ti : Tok) σ' LI' B' f' h tk, i ≤ 8 → Fr g₀ L h (fun y => if y = S "i" then some (.int (i : Int) ti) else m y) → News g₀ L h (led B' f') → Ld w l LI' σ' en B' f' → Inv l.N σ' →
      wpAny (model prg w) AA (isTrue test env (eval test env)) (TestOk g₀ L m (led B' f') s i ti (σ'.kids k).length) (fun _ _ => False) { s with heap := h, toks := tk })
    (hbody : ∀ (i : Nat) (ti : Tok) σ' LI' B' f' h tk j, i ≤ 8 → (σ'.kids k)[i]? = some j → k < j → j < l.N → σ'.log.length + c ≤ lim → Fr g₀ L h (fun y => if y = S "i" then some (.int (i : Int) ti) else m y) → News g₀ L h (led B' f') → Ld w l LI' σ' en B' f' → Inv l.N σ' →
      wpAny (model prg w) AA (execs body env) (BodyOk w l g₀ L m s i en (step σ' j)) (fun _ _ => False) { s with heap := h, toks := tk })
    (hdone : (loopK step 8 σ k 0).2 = .done → ∀ LI' B' f' h tk u, Fr g₀ L h (fun y => if y = S "i" then u else m y) → News g₀ L h (led B' f') → Ld w l LI' (loopK step 8 σ k 0).1 en B' f' → R (.ok .next) { s with heap := h, toks := tk })
    (hfail : (loopK step 8 σ k 0).2 ≠ .done → ∀ LI' B' f' h tk m2, Fr g₀ L h m2 → News g₀ L h (led B' f') → Ld w l LI' (loopK step 8 σ k 0).1 (endS (loopK step 8 σ k 0).2 en) B' f' → R (.ok (.ret (.bool false))) { s with heap := h, toks := tk }) :
    codeAny (model prg w) AA (.whileLoop test body [] env) R s := by
  refine codeAny_whileLoop (fun n s' => ∃ (i : Nat) (ti : Tok) (σi : St) (LIi : Nat → Addr) (Bi : List Addr) (fi : Addr → Obj) (h : Heap) (tk : Nat), n + i = 9 ∧ s' = { s with heap := h, toks := tk } ∧ Fr g₀ L h (fun y => if y = S "i" then some (.int (i : Int) ti) else m y) ∧ News g₀ L h (led Bi fi) ∧ Ld w l LIi σi en Bi fi ∧ Inv l.N σi ∧
    loopK step (8 - i) σi k i = loopK step 8 σ k 0 ∧ σi.log.length + (8 - i) * c ≤ lim ∧ i ≤ 8) ?_ 9 ⟨0, t0, σ, LI, B, f, s.heap, s.toks, rfl, rfl, ?_, N, D, I, rfl, hrows, by omega⟩
  · rintro n s' ⟨i, ti, σi, LIi, Bi, fi, h, tk, hn, rfl, Fi, Ni, Di, Ii, hloop, hr, hi8⟩
    refine wpAny_mono (htest i ti σi LIi Bi fi h tk hi8 Fi Ni Di Ii) (fun b s₂ hb => ?_) (fun _ _ hf => hf.elim)
    obtain ⟨rfl, h2, tk2, rfl, F2, N2⟩ := hb
    cases hj : (σi.kids k)[i]? with
    | none =>
      have hlen : ¬ i < (σi.kids k).length := fun hc => by rw [List.getElem?_eq_getElem hc] at hj; cases hj
      rw [if_neg (by simpa using hlen)]
      refine wpAny_execs_nil ?_
      have hfin : loopK step (8 - i) σi k i = (σi, .done) := by
        cases 8 - i with
        | zero => rfl
        | succ q => simp only [loopK, hj]
      rw [hfin] at hloop
      exact hdone (by rw [← hloop]) LIi Bi fi h2 tk2 _ F2 N2 (by rw [← hloop]; exact Di)
    | some j =>
      have hmem := Ii.up k j (List.mem_of_getElem? hj)
      have hlt : i < (σi.kids k).length := (List.getElem?_eq_some_iff.mp hj).1
      have hlen := Ii.len k
      obtain ⟨q, hq⟩ : ∃ q, 8 - i = q + 1 := ⟨7 - i, by omega⟩
      have hstep : loopK step (8 - i) σi k i = match step σi j with | (σ', .done) => loopK step q σ' k (i + 1) | (σ', r) => (σ', r) := by
        rw [hq]
        conv => lhs; unfold loopK
        rw [hj]
        all_goals rfl
      rw [if_pos (by simpa using hlt)]
      refine wpAny_mono (hbody i ti σi LIi Bi fi h2 tk2 j hi8 hj hmem.1 hmem.2 (by rw [hq, Nat.succ_mul] at hr; omega) F2 N2 Di Ii) (fun fl s₂ hp => ?_) (fun _ _ hf => hf.elim)
      cases hp with
      | @next LI2 B2 f2 h3 tk3 t2 N3 D3 hdn F3 =>
        obtain ⟨l', hl1, hl2⟩ := hlog σi j
        have e8 : 8 - (i + 1) = q := by omega
        refine ⟨n - 1, by omega, i + 1, t2, (step σi j).1, LI2, B2, f2, h3, tk3, by omega, rfl, ?_, N3, ?_, hI σi j Ii hmem.1 hmem.2, ?_, ?_, by omega⟩
        · have : ((i + 1 : Nat) : Int) = (i : Int) + 1 := by omega
          rw [this]; exact F3
        · rw [hdn] at D3; exact D3
        · rw [← hloop, hstep, e8]
          generalize step σi j = r at hdn ⊢
          obtain ⟨r1, r2⟩ := r
          dsimp only at hdn ⊢
          subst hdn
          rfl
        · rw [e8, hl1]
          rw [hq, Nat.succ_mul] at hr
          simp only [List.length_append]
          omega
      | @ret LI2 B2 f2 h3 tk3 m2 N3 D3 hnd F3 =>
        have hfin : loopK step 8 σ k 0 = ((step σi j).1, (step σi j).2) := by
          rw [← hloop, hstep]
          generalize step σi j = r at hnd ⊢
          obtain ⟨r1, r2⟩ := r
          dsimp only at hnd ⊢
          cases r2
          · exact absurd rfl hnd
          · rfl
          · rfl
        exact hfail (by rw [hfin]; exact hnd) LI2 B2 f2 h3 tk3 m2 F3 N3 (by rw [hfin]; exact D3)
  · have e : (fun y => if y = S "i" then some (Value.int ((0 : Nat) : Int) t0) else m y) = m := by
      funext y
      by_cases hy : y = S "i"
      · rw [if_pos hy, hy, hm0]; rfl
      · rw [if_neg hy]
    rw [e]; exact F
end
end
section
local macro_rules | `(tactic| k_room) => `(tactic| ((try simp only [depth_mark, depth_under_make, depth_under_kw, depth_in1, depth_deeper, depth_caller]); (try dsimp only [ktrTop]); (simp only [recursionLimit] at *); omega))
local macro_rules | `(tactic| k_units) => `(tactic| ((simp only [units_in1, units_deeper, Around.mark_units, units_caller, cLine_is] at *); (try dsimp only [ktrTop] at *); omega))
local macro_rules | `(tactic| k_all) => `(tactic| assumption)
local macro_rules | `(tactic| k_ne) => `(tactic| ((try dsimp only); first | (refine neA ?_; with_reducible assumption) | (refine neA' ?_; with_reducible assumption)))
theorem fill_RD : PySem.Challenge.rw_br5015_01 = PySem.Challenge.rw_br5015_01 ∧ K = K := by
  k_with_none
  k_fill
  exact ⟨rfl, rfl⟩
section
variable {w : World} {mean : ExcName → Option Value} {mg mb : Str → Option Value} {l : Lw}
theorem lenK_W {A : Around} {E : Value → Shared → Prop} {s : Shared} {h₀ : Heap} {L : Addr} {LI : Nat → Addr} {σ : St} {en : Str} {B : List Addr} {f : Addr → Obj} {k : Nat} {Q : Value → Shared → Prop} (N : News h₀ L s.heap (led B f)) (D : Ld w l LI σ en B f) (I : Inv l.N σ) (hk : k < l.N)
    (h : ∀ t, Q (.int ((σ.kids k).length : Int) t) { s with toks := s.toks + 1 + 1 }) : wpAny (model prg w) A (call (.builtin "len") [.ref (LI k)]) Q E s := by
  obtain ⟨b1, _, vs, n, e1, hv⟩ := D.sLI k hk
  have hl : vs.length = (σ.kids k).length := by rw [hv.1]; simp
  have := I.len k
  refine call_len_list (PySem.IsL.isList (n := n) (N _ (in_led b1 e1)).1) (by simp only [List.size_toArray]; omega) ?_
  have e : ((vs.toArray.size : Nat) : Int) = ((σ.kids k).length : Int) := by simp [hl]
  rw [e]
  exact h _
theorem hand_b {sp : Nat} {σ : St} {k p : Nat} {q : Int} (h : σ.bomb = (k : Int)) : hand sp σ k p q = ({ σ with at_ := put σ.at_ p q, log := σ.log ++ [((k : Int), (p : Int), q)], bomb := -1 }, .bomb) := by
  unfold hand
  exact if_pos h
theorem hand_m {sp : Nat} {σ : St} {k p : Nat} {q : Int} (h : ¬ σ.bomb = (k : Int)) (h2 : σ.more = (k : Int)) : hand sp σ k p q = ({ σ with at_ := put σ.at_ p q, log := σ.log ++ [((k : Int), (p : Int), q)], more := -1, kids := put σ.kids p (σ.kids p ++ [sp]) }, .done) := by
  unfold hand
  dsimp only
  rw [if_neg h, if_pos h2]
theorem hand_p {sp : Nat} {σ : St} {k p : Nat} {q : Int} (h : ¬ σ.bomb = (k : Int)) (h2 : ¬ σ.more = (k : Int)) : hand sp σ k p q = ({ σ with at_ := put σ.at_ p q, log := σ.log ++ [((k : Int), (p : Int), q)] }, .done) := by
  unfold hand
  dsimp only
  rw [if_neg h, if_neg h2]
theorem metD_W {A : Around} {E : Value → Shared → Prop} {s : Shared} {h₀ : Heap} {L : Addr} {LI : Nat → Addr} {σ : St} {en : Str} {B : List Addr} {f : Addr → Obj} {pl : Sem Bool} {Q : Value × List Value → Shared → Prop} (N : News h₀ L s.heap (led B f)) (D : Ld w l LI σ en B f)
    (h : Q (.builtin "list.append", [.ref l.DU]) s) : wpAny (model prg w) A (getMethod (.ref l.DU) (PySem.Str.ofString "append") pl) Q E s := by
  obtain ⟨b1, n, rs, e1, _⟩ := D.sDU
  exact listMethod_K N (in_led b1 e1) PySem.F.slot_list_append PySem.F.type_list_append h
theorem metI_W {A : Around} {E : Value → Shared → Prop} {s : Shared} {h₀ : Heap} {L : Addr} {LI : Nat → Addr} {σ : St} {en : Str} {B : List Addr} {f : Addr → Obj} {k : Nat} {pl : Sem Bool} {Q : Value × List Value → Shared → Prop} (N : News h₀ L s.heap (led B f)) (D : Ld w l LI σ en B f) (hk : k < l.N)
    (h : Q (.builtin "list.append", [.ref (LI k)]) s) : wpAny (model prg w) A (getMethod (.ref (LI k)) (PySem.Str.ofString "append") pl) Q E s := by
  obtain ⟨b1, _, vs, n, e1, _⟩ := D.sLI k hk
  exact listMethod_K N (in_led b1 e1) PySem.F.slot_list_append PySem.F.type_list_append h
theorem walk_doneL {pl : Nat → Option Int} {sp n : Nat} {σ : St} {k p : Nat} (h : (loopK (fun σ j => walk pl sp n σ j (some k)) 8 σ k 0).2 = .done) :
    walk pl sp (n + 1) σ k (some p) = (match pl k with | none => ({ (loopK (fun σ j => walk pl sp n σ j (some k)) 8 σ k 0).1 with kids := put (loopK (fun σ j => walk pl sp n σ j (some k)) 8 σ k 0).1.kids k [], at_ := put (loopK (fun σ j => walk pl sp n σ j (some k)) 8 σ k 0).1.at_ k (σ.at_ k) }, .none) | some q => hand sp { (loopK (fun σ j => walk pl sp n σ j (some k)) 8 σ k 0).1 with kids := put (loopK (fun σ j => walk pl sp n σ j (some k)) 8 σ k 0).1.kids k [], at_ := put (loopK (fun σ j => walk pl sp n σ j (some k)) 8 σ k 0).1.at_ k (σ.at_ k) } k p q) := by
  rw [walk_succ]
  generalize loopK (fun σ j => walk pl sp n σ j (some k)) 8 σ k 0 = r at h
  obtain ⟨σ1, r⟩ := r
  dsimp only at h
  subst h
  rfl
theorem frI {g h : Heap} {L : Addr} {m : Str → Option Value} {x : Str} {a b : Option Value} (F : Fr g L h (fun y => if y = x then a else if y = x then b else m y)) : Fr g L h (fun y => if y = x then a else m y) := by
  have e : (fun y => if y = x then a else if y = x then b else m y) = (fun y => if y = x then a else m y) := by
    funext y
    by_cases hy : y = x
    · rw [if_pos hy, if_pos hy]
    · rw [if_neg hy, if_neg hy, if_neg hy]
  rw [← e]; exact F
theorem lw_W (O : LwOk l) {sp : Nat} (hsp : sp + 1 = l.N) : ∀ (n : Nat) (dp un : Nat) (gd : Option (List Code)) (cn : Str) (cs : Scope) (a : Addr) (ccd : Value) (cl : List (Str × Addr)) (outer : List Env) (A₀ : Around) (base h₀ : Heap) (L : Addr) (m : Str → Option Value) (s : Shared)
  (Q E : Value → Shared → Prop) (LI : Nat → Addr) (σ : St) (en : Str) (B : List Addr) (f : Addr → Obj) (k p : Nat) (tk tp ts : Tok) (hB : Below A₀ base outer h₀) (F : Fr h₀ L s.heap m) (X₀ : (K w.params).In h₀) (N : News h₀ L s.heap (led B f))
  (T : Top topProg lo mean mg mb h₀) (hk : cs.kind = .function) (D : Ld w l LI σ en B f) (I : Inv l.N σ) (hkN : k < l.N) (hpN : p < k) (hn : l.N ≤ k + n) (hrows : σ.log.length + 9 ^ n ≤ 16000000) (hd : dp + 100 + 10 * n < recursionLimit) (hu : un + 700 + 20 * n < cLine)
  (ret : ∀ LI' B' f' h' tk', Fr h₀ L h' m → News h₀ L h' (led B' f') → Ld w l LI' (walk l.pl sp n σ k (some p)).1 (endS (walk l.pl sp n σ k (some p)).2 en) B' f' → Q (.bool (decide ((walk l.pl sp n σ k (some p)).2 = .done))) { s with heap := h', toks := tk' }),
  wpAny (model prg w) (ktrTop dp un gd cn cs L a ccd cl outer) (call (.ref 1171) [.ref l.LL, .int (k : Int) tk, .int (p : Int) tp, .ref l.PS, .ref l.TW, .ref l.DU, .ref l.AT, .int (sp : Int) ts]) Q E s := by
  intro n
  induction n with
  | zero => intros; omega
  | succ n ih =>
  intro dp un gd cn cs a ccd cl outer A₀ base h₀ L m s Q E LI σ en B f k p tk tp ts hB F X₀ N T hk D I hkN hpN hn hrows hd hu ret
  have hI : ∀ σ j, Inv l.N σ → k < j → j < l.N → Inv l.N (walk l.pl sp n σ j (some k)).1 := fun σ j h1 h2 h3 => walk_inv O.pl5 hsp n σ j (some k) h1 h3 fun p e => by cases e; exact h2
  have hlog : ∀ σ j, ∃ l', (walk l.pl sp n σ j (some k)).1.log = σ.log ++ l' ∧ l'.length ≤ 9 ^ n := fun σ j => walk_log n σ j (some k)
  have hIL : Inv l.N (loopK (fun σ j => walk l.pl sp n σ j (some k)) 8 σ k 0).1 := loopK_inv hI 8 σ 0 I
  have hLL := loopK_log (k := k) hlog 8 σ 0
  have hwf := walk_fail (pl := l.pl) (sp := sp) (n := n) (σ := σ) (k := k) (par := some p)
  have hwd := walk_doneL (pl := l.pl) (sp := sp) (n := n) (σ := σ) (k := k) (p := p)
  have hpow : 9 ^ (n + 1) = 9 ^ n * 9 := Nat.pow_succ ..
  generalize hR : loopK (fun σ j => walk l.pl sp n σ j (some k)) 8 σ k 0 = R at hIL hLL hwf hwd
  generalize hP : 9 ^ n = P at ih hlog hLL hpow
  rw [hpow] at hrows
  clear hpow
  have hrowsL : R.1.log.length ≤ 16000000 := by
    obtain ⟨l', h1, h2⟩ := hLL
    rw [h1]
    simp only [List.length_append] at hrows ⊢
    omega
  clear hLL
  have hpN' : p < l.N := by omega
  refine wpAny_call ?_
  k_dflt ktr_enter
  (k_with "call ref" => k_dflt (
      (refine' ih _ _ _ _ _ _ _ _ _ _ _ _ _ _ _ _ _ _ _ _ _ _ _ _ _ _ _ ?k1 ?k2 ?k3 ?k4 ?k5 ?kK D9 I9 hj2 hj1 ?kn ?kr ?kd ?ku ?kret; (case k1 => k_asm); (case k2 => k_asm); (case k3 => k_in); (case k4 => k_asm); (case k5 => k_asm); (case kK => first | exact rfl | assumption); (case kn => omega); (case kr => omega); (case kd => k_room); (case ku => k_units);
       intro LI10 B10 f10 h10 tk10 F10 N10 D10)))
  (k_with "call builtin:len" => k_dflt (refine' lenK_W ?k1 D9 I9 hkN ?_; (case k1 => k_asm); intro t9))
  (k_with "getMethod ref" => k_dflt (first
    | (refine' metD_W ?k1 D14 ?_; (case k1 => k_asm))
    | (refine' metI_W ?k1 D18 hpN' ?_; (case k1 => k_asm))))
  (k_with "setItem ref int" => k_dflt (first
    | (refine' setL_W O ?k1 ?k2 D11 ?k3 hkN ?_; (case k1 => k_asm); (case k2 => k_asm); (case k3 => (rename ∀ _, _ ∈ led _ _ → _ => l8; exact fun hm => Nat.lt_irrefl _ (l8 _ (in_led hm rfl)))); intro h12 f12 F12 N12 D12)
    | (refine' setA_W O ?k1 ?k2 D12 hkN ?_; (case k1 => k_asm); (case k2 => k_asm); intro h13 f13 F13 N13 D13)
    | (refine' setA_W O ?k1 ?k2 D13 hpN' ?_; (case k1 => k_asm); (case k2 => k_asm); intro h14 f14 F14 N14 D14)))
  (k_with "setItem ref str" => k_dflt (first
    | ((with_reducible show wpAny _ _ (setItem _ (Value.str (Str.ofString "bomb") _) _) _ _ _); refine' setT_W (key := "bomb") (dv := .int (-1)) (b := -1) (e := R.1.more) (en' := en) O ?k1 ?k2 D15 ?k3 ?k4 ?_; (case k1 => k_asm); (case k2 => k_asm); (case k3 => exact PyProof.V.Flat.int _ _); (case k4 => rfl); intro h16 f16 F16 N16 D16)
    | ((with_reducible show wpAny _ _ (setItem _ (Value.str (Str.ofString "end") _) _) _ _ _); refine' setT_W (key := "end") (dv := .str (S "bomb")) (b := -1) (e := R.1.more) (en' := S "bomb") O ?k1 ?k2 D16 ?k3 ?k4 ?_; (case k1 => k_asm); (case k2 => k_asm); (case k3 => exact PyProof.V.Flat.str _ _); (case k4 => rfl); intro h17 f17 F17 N17 D17)
    | ((with_reducible show wpAny _ _ (setItem _ (Value.str (Str.ofString "more") _) _) _ _ _); refine' setT_W (key := "more") (dv := .int (-1)) (b := R.1.bomb) (e := -1) (en' := en) O ?k1 ?k2 D15 ?k3 ?k4 ?_; (case k1 => k_asm); (case k2 => k_asm); (case k3 => exact PyProof.V.Flat.int _ _); (case k4 => rfl); intro h18 f18 F18 N18 D18)
    | ((with_reducible show wpAny _ _ (setItem _ (Value.str (Str.ofString "end") _) _) _ _ _); refine' setT_W (key := "end") (dv := .str (S "no handler")) (b := R.1.bomb) (e := R.1.more) (en' := S "no handler") O ?k1 ?k2 D13 ?k3 ?k4 ?_; (case k1 => k_asm); (case k2 => k_asm); (case k3 => exact PyProof.V.Flat.str _ _); (case k4 => rfl); intro h14 f14 F14 N14 D14)))
  (k_with "call builtin:list.append" => k_dflt (first
    | (refine' appD_W (e := ((k : Int), (p : Int), q13)) O ?k1 ?k2 D14 ?k3 hrowsL ?_; (case k1 => k_asm); (case k2 => k_asm); (case k3 => (rename ∀ _, _ ∈ led _ _ → _ => l8; exact fun hm => Nat.lt_irrefl _ (l8 _ (in_led hm rfl)))); intro h15 f15 F15 N15 D15)
    | (refine' appK_W O ?k1 ?k2 D18 hpN' ?k3 ?_; (case k1 => k_asm); (case k2 => k_asm); (case k3 => (have hq8 := (hIL.drop k).len p; dsimp only at hq8 ⊢; omega)); intro h19 f19 F19 N19 D19)))
  (k_with "subscriptTail" => k_dflt (first
    | (refine' subL_W O ?k1 D9 hkN ?_ ?k2; (case k1 => k_asm); (case k2 => with_unfolding_all rfl))
    | (refine' subI_W O ?k1 D9 hkN ?k3 hj9 ?_ ?k2; (case k1 => k_asm); (case k2 => with_unfolding_all rfl); (case k3 => omega); intro t9)
    | (refine' subA_W O ?k1 D hkN ?_ ?k2; (case k1 => k_asm); (case k2 => with_unfolding_all rfl); intro t9)
    | (refine' subP_K O ?k1 D14 hkN hq13 ?_ ?k2; (case k1 => k_asm); (case k2 => with_unfolding_all rfl); intro t14)
    | (refine' subP_K O ?k1 D13 hkN hq13 ?_ ?k2; (case k1 => k_asm); (case k2 => with_unfolding_all rfl); intro t13)
    | (refine' subP_W O ?k1 D13 hkN ?kn ?kq ?k2; (case k1 => k_asm); (case k2 => with_unfolding_all rfl); (case' kn => intro hn13); (case' kq => intro q13 t13 hq13))
    | (refine' subL_W O ?k1 D18 hpN' ?_ ?k2; (case k1 => k_asm); (case k2 => with_unfolding_all rfl))
    | ((with_reducible show wpAny _ _ (subscriptTail _ _ _ (Value.str _ _)) _ _ _); refine' item_strTab (tab_W O ?k1 D15) ?k2 ?_ ?k3 ?k4; (case k1 => k_asm); (case k2 => rfl); (case k3 => with_unfolding_all rfl); (case k4 => (intro _; with_unfolding_all rfl)); intro v15 hv15; obtain ⟨t15, rfl⟩ := PyProof.V.Flat.int_inv hv15; (try dsimp only))))
  (k_with "exec While Compare cons nil" => ((with_reducible rename Fr _ _ _ _ => F8); refine wpAny_While ?_; k_dflt (refine' loopL_W (LI := LI) (lim := 16000000 - P) (fun σ j => walk l.pl sp n σ j (some k)) F8 rfl ?kN D I hI hlog ?krows ?ktest ?kbody ?kdone ?kfail; (case kN => k_asm); (case krows => omega); (case ktest => (clear F8; intro i t8 σ9 LI9 B9 f9 h9 tk9 hi9 F9 N9 D9 I9; k_steps; exact ⟨decide_eq_decide.mpr (by omega), _, _, rfl, by assumption, by assumption⟩)); (case kbody => (clear F8; intro i t8 σ9 LI9 B9 f9 h9 tk9 j hi9 hj9 hj1 hj2 hr9 F9 N9 D9 I9; k_steps; all_goals first | exact BodyOk.ret N10 D10 (by assumption) F10 | exact BodyOk.next (by assumption) D10 (by assumption) (frI (by assumption)) | exact BodyOk.next (by assumption) D10 (by assumption) (by assumption))); (case' kdone => (clear F8; rw [hR]; intro hdn11 LI11 B11 f11 h11 tk11 u11 F11 N11 D11)); (case' kfail => (rw [hR]; intro hnd11 LI11 B11 f11 h11 tk11 m11 F11 N11 D11)))))
  k_steps
  · rw [hwf hnd11] at ret
    have hq := ret _ _ _ _ tk11 (by assumption) (by assumption) D11
    rw [decide_eq_false hnd11] at hq
    exact hq
  · have hw := hwd hdn11
    rw [hq13] at hw
    dsimp only at hw
    rw [hand_b (by assumption)] at hw
    rw [hw] at ret
    exact ret _ _ _ _ _ (by assumption) (by assumption) D17
  · have hw := hwd hdn11
    rw [hq13] at hw
    dsimp only at hw
    rw [hand_m (by assumption) (by assumption)] at hw
    rw [hw] at ret
    exact ret _ _ _ _ _ (by assumption) (by assumption) D19
  · have hw := hwd hdn11
    rw [hq13] at hw
    dsimp only at hw
    rw [hand_p (by assumption) (by assumption)] at hw
    rw [hw] at ret
    exact ret _ _ _ _ _ (by assumption) (by assumption) D15
  · have hw := hwd hdn11
    rw [hn13] at hw
    rw [hw] at ret
    exact ret _ _ _ _ _ (by assumption) (by assumption) D14
end
end
section
local macro_rules | `(tactic| k_room) => `(tactic| ((try simp only [depth_mark, depth_under_make, depth_under_kw, depth_in1, depth_deeper, depth_caller]); (try dsimp only [ktrTop]); (simp only [recursionLimit] at *); omega))
local macro_rules | `(tactic| k_units) => `(tactic| ((simp only [units_in1, units_deeper, Around.mark_units, units_caller, cLine_is] at *); (try dsimp only [ktrTop] at *); omega))
local macro_rules | `(tactic| k_all) => `(tactic| assumption)
local macro_rules | `(tactic| k_ne) => `(tactic| ((try dsimp only); first | (refine neA ?_; with_reducible assumption) | (refine neA' ?_; with_reducible assumption)))
theorem fill_RE : PySem.Challenge.rw_br5015_01 = PySem.Challenge.rw_br5015_01 ∧ K = K := by
  k_with_none
  k_fill
  exact ⟨rfl, rfl⟩
section
variable {w : World} {mean : ExcName → Option Value} {mg mb : Str → Option Value} {l : Lw}
theorem walkN_doneL {pl : Nat → Option Int} {sp n : Nat} {σ : St} {k : Nat} (h : (loopK (fun σ j => walk pl sp n σ j (some k)) 8 σ k 0).2 = .done) :
    walk pl sp (n + 1) σ k none = ({ (loopK (fun σ j => walk pl sp n σ j (some k)) 8 σ k 0).1 with kids := put (loopK (fun σ j => walk pl sp n σ j (some k)) 8 σ k 0).1.kids k [], at_ := put (loopK (fun σ j => walk pl sp n σ j (some k)) 8 σ k 0).1.at_ k (σ.at_ k) }, .done) := by
  conv => lhs; unfold walk
  generalize loopK (fun σ j => walk pl sp n σ j (some k)) 8 σ k 0 = r at h
  obtain ⟨σ1, r⟩ := r
  dsimp only at h
  subst h
  rfl
theorem endS_fail {r : Res} {en : Str} (h : r ≠ .done) : endS r en = resStr r := by
  cases r
  · exact absurd rfl h
  · rfl
  · rfl
theorem lwr_W (O : LwOk l) {sp : Nat} (hsp : sp + 1 = l.N) (n : Nat) {dp un : Nat} {gd : Option (List Code)} {cn : Str} {cs : Scope} {a : Addr} {ccd : Value} {cl : List (Str × Addr)} {outer : List Env} {A₀ : Around} {base h₀ : Heap} {L : Addr} {m : Str → Option Value} {s : Shared}
  {Q E : Value → Shared → Prop} {LI : Nat → Addr} {σ : St} {en : Str} {B : List Addr} {f : Addr → Obj} {k : Nat} {tk tp ts : Tok} (hB : Below A₀ base outer h₀) (F : Fr h₀ L s.heap m) (X₀ : (K w.params).In h₀) (N : News h₀ L s.heap (led B f))
  (T : Top topProg lo mean mg mb h₀) (hk : cs.kind = .function) (D : Ld w l LI σ en B f) (I : Inv l.N σ) (hkN : k < l.N) (hn : l.N ≤ k + (n + 1)) (hrows : σ.log.length + 9 ^ (n + 1) ≤ 16000000) (hd : dp + 100 + 10 * (n + 1) < recursionLimit) (hu : un + 700 + 20 * (n + 1) < cLine)
  (ret : ∀ LI' B' f' h' tk', Fr h₀ L h' m → News h₀ L h' (led B' f') → Ld w l LI' (walk l.pl sp (n + 1) σ k none).1 (resStr (walk l.pl sp (n + 1) σ k none).2) B' f' → (∀ b o, b ∉ B → s.heap.get? b = some o → b ∉ B' ∧ h'.get? b = some o) → Q (.bool (decide ((walk l.pl sp (n + 1) σ k none).2 = .done))) { s with heap := h', toks := tk' }) :
  wpAny (model prg w) (ktrTop dp un gd cn cs L a ccd cl outer) (call (.ref 1171) [.ref l.LL, .int (k : Int) tk, .int (-1) tp, .ref l.PS, .ref l.TW, .ref l.DU, .ref l.AT, .int (sp : Int) ts]) Q E s := by
  have ih := lw_W (w := w) (mean := mean) (mg := mg) (mb := mb) O hsp n
  have hI : ∀ σ j, Inv l.N σ → k < j → j < l.N → Inv l.N (walk l.pl sp n σ j (some k)).1 := fun σ j h1 h2 h3 => walk_inv O.pl5 hsp n σ j (some k) h1 h3 fun p e => by cases e; exact h2
  have hlog : ∀ σ j, ∃ l', (walk l.pl sp n σ j (some k)).1.log = σ.log ++ l' ∧ l'.length ≤ 9 ^ n := fun σ j => walk_log n σ j (some k)
  have hIL : Inv l.N (loopK (fun σ j => walk l.pl sp n σ j (some k)) 8 σ k 0).1 := loopK_inv hI 8 σ 0 I
  have hLL := loopK_log (k := k) hlog 8 σ 0
  have hwf := walk_fail (pl := l.pl) (sp := sp) (n := n) (σ := σ) (k := k) (par := none)
  have hwd := walkN_doneL (pl := l.pl) (sp := sp) (n := n) (σ := σ) (k := k)
  have hpow : 9 ^ (n + 1) = 9 ^ n * 9 := Nat.pow_succ ..
  generalize hR : loopK (fun σ j => walk l.pl sp n σ j (some k)) 8 σ k 0 = R at hIL hLL hwf hwd
  generalize hP : 9 ^ n = P at ih hlog hLL hpow
  rw [hpow] at hrows
  clear hpow
  have hrowsL : R.1.log.length ≤ 16000000 := by
    obtain ⟨l', h1, h2⟩ := hLL
    rw [h1]
    simp only [List.length_append] at hrows ⊢
    omega
  clear hLL
  refine wpAny_call ?_
  k_dflt (refine' enter_open ?k1 ?k2 ?k3 ?k4 ?k5 ?kA ?kF ?kK ?k6 ?k7 ?k8 ?k9 ?kB ?_ ?c2 ?c3 ?c4 ?c5; (case kA => exact rfl); (case kF => exact rfl); (case kK => assumption); (case k1 => k_asm); (case k2 => k_asm); (case k3 => k_asm); (case k4 => k_asm); (case k5 => k_asm); (case k6 => k_is); (case k7 => k_is); (case k8 => k_room); (case k9 => exact BindsTo.of_eq rfl); (case c5 => decide); (case kB => exact locs rfl); (case c2 => exact rfl); (case c3 => exact rfl); (case c4 => exact rfl); k_whole; intro g1 L1 h1 FG1 F1 N1 B1 X1 T1 lv1 kp1; (try dsimp only); (try k_fold))
  rw [led_fst] at kp1
  (k_with "call ref" => k_dflt (
      (refine' ih _ _ _ _ _ _ _ _ _ _ _ _ _ _ _ _ _ _ _ _ _ _ _ _ _ _ _ ?k1 ?k2 ?k3 ?k4 ?k5 ?kK D9 I9 hj2 hj1 ?kn ?kr ?kd ?ku ?kret; (case k1 => k_asm); (case k2 => k_asm); (case k3 => k_in); (case k4 => k_asm); (case k5 => k_asm); (case kK => first | exact rfl | assumption); (case kn => omega); (case kr => omega); (case kd => k_room); (case ku => k_units);
       intro LI10 B10 f10 h10 tk10 F10 N10 D10)))
  (k_with "call builtin:len" => k_dflt (refine' lenK_W ?k1 D9 I9 hkN ?_; (case k1 => k_asm); intro t9))
  (k_with "setItem ref int" => k_dflt (first
    | (refine' setL_W O ?k1 ?k2 D11 ?k3 hkN ?_; (case k1 => k_asm); (case k2 => k_asm); (case k3 => (rename ∀ _, _ ∈ led _ _ → _ => l8; exact fun hm => Nat.lt_irrefl _ (l8 _ (in_led hm rfl)))); intro h12 f12 F12 N12 D12)
    | (refine' setA_W O ?k1 ?k2 D12 hkN ?_; (case k1 => k_asm); (case k2 => k_asm); intro h13 f13 F13 N13 D13)))
  (k_with "setItem ref str" => k_dflt (refine' setT_W (key := "end") (dv := .str (S "done")) (b := R.1.bomb) (e := R.1.more) (en' := S "done") O ?k1 ?k2 D13 ?k3 ?k4 ?_; (case k1 => k_asm); (case k2 => k_asm); (case k3 => exact PyProof.V.Flat.str _ _); (case k4 => rfl); intro h14 f14 F14 N14 D14))
  (k_with "subscriptTail" => k_dflt (first
    | (refine' subL_W O ?k1 D9 hkN ?_ ?k2; (case k1 => k_asm); (case k2 => with_unfolding_all rfl))
    | (refine' subI_W O ?k1 D9 hkN ?k3 hj9 ?_ ?k2; (case k1 => k_asm); (case k2 => with_unfolding_all rfl); (case k3 => omega); intro t9)
    | (refine' subA_W O ?k1 D hkN ?_ ?k2; (case k1 => k_asm); (case k2 => with_unfolding_all rfl); intro t9)))
  (k_with "exec While Compare cons nil" => ((with_reducible rename Fr _ _ _ _ => F8); refine wpAny_While ?_; k_dflt (refine' loopL_W (LI := LI) (lim := 16000000 - P) (fun σ j => walk l.pl sp n σ j (some k)) F8 rfl ?kN D I hI hlog ?krows ?ktest ?kbody ?kdone ?kfail; (case kN => k_asm); (case krows => omega); (case ktest => (clear F8; intro i t8 σ9 LI9 B9 f9 h9 tk9 hi9 F9 N9 D9 I9; k_steps; exact ⟨decide_eq_decide.mpr (by omega), _, _, rfl, by assumption, by assumption⟩)); (case kbody => (clear F8; intro i t8 σ9 LI9 B9 f9 h9 tk9 j hi9 hj9 hj1 hj2 hr9 F9 N9 D9 I9; k_steps; all_goals first | exact BodyOk.ret N10 D10 (by assumption) F10 | exact BodyOk.next (by assumption) D10 (by assumption) (frI (by assumption)) | exact BodyOk.next (by assumption) D10 (by assumption) (by assumption))); (case' kdone => (clear F8; rw [hR]; intro hdn11 LI11 B11 f11 h11 tk11 u11 F11 N11 D11)); (case' kfail => (rw [hR]; intro hnd11 LI11 B11 f11 h11 tk11 m11 F11 N11 D11)))))
  k_steps
  · rw [hwf hnd11] at ret
    refine lv1 (.bool false) _ (leaveK_ F11 N11 fun F8 N8 => ?_)
    have hq := ret _ _ _ _ tk11 F8 N8 (by rw [← endS_fail hnd11]; exact D11) fun b o n1 q => ⟨fun hm => (by have := (N11 _ (in_led hm rfl)).2.2; rw [kp1 b o q n1] at this; cases this), F11.keep b o (kp1 b o q n1)⟩
    rw [decide_eq_false hnd11] at hq
    exact hq
  · have hw := hwd hdn11
    rw [hw] at ret
    refine lv1 (.bool true) _ (leaveK_ F14 N14 fun F8 N8 => ?_)
    exact ret _ _ _ _ _ F8 N8 D14 fun b o n1 q => ⟨fun hm => (by have := (N14 _ (in_led hm rfl)).2.2; rw [kp1 b o q n1] at this; cases this), F14.keep b o (kp1 b o q n1)⟩
end
end
section
local macro_rules | `(tactic| k_room) => `(tactic| ((try simp only [depth_mark, depth_under_make, depth_under_kw, depth_in1, depth_deeper, depth_caller]); (try dsimp only [ktrTop]); (simp only [recursionLimit] at *); omega))
local macro_rules | `(tactic| k_units) => `(tactic| ((simp only [units_in1, units_deeper, Around.mark_units, units_caller, cLine_is] at *); (try dsimp only [ktrTop] at *); omega))
local macro_rules | `(tactic| k_all) => `(tactic| assumption)
theorem fill_CA : PySem.Challenge.rw_br5015_01 = PySem.Challenge.rw_br5015_01 ∧ K = K := by
  k_with_none
  k_fill
  exact ⟨rfl, rfl⟩
/-! the logic of a call that looks at its own stack: contexts in which nobody holds a bytearray -/
def holdIds : List String := ["bytearray.__contains__", "bytearray.__mod__", "bytearray.__rmod__", "_struct.pack_into.held", "bytearray.find.held"] ++ Builtin.Bytes.decodersThatHold
def okC : Code → Bool
  | .builtin id _ => !holdIds.contains id
  | _ => true
def wpC {α : Type} (M : Model) (A : Around) (t : Sem α) (Q : α → Shared → Prop) (E : Value → Shared → Prop) (s : Shared) : Prop :=
  ∀ Γ p, Γ.In A → okC Γ.code = true → (∀ x ∈ Γ.below, okC x.1 = true) → Sem.wp M Γ t (fun a _ s' => Q a s') (fun e _ s' => E e s') p s
def codeC (M : Model) (A : Around) (c : Code) (R : Result → Shared → Prop) (s : Shared) : Prop :=
  ∀ Γ p, Γ.code = c → Γ.Below A → (∀ x ∈ Γ.below, okC x.1 = true) → wpCode M Γ R p s
section
variable {α β : Type} {M : Model} {A : Around} {E : Value → Shared → Prop} {s : Shared}
theorem wpC_of {t : Sem α} {Q : α → Shared → Prop} (h : wpAny M A t Q E s) : wpC M A t Q E s := fun Γ p hΓ _ _ => h Γ p hΓ
theorem codeC_of {c : Code} {R : Result → Shared → Prop} (h : codeAny M A c R s) : codeC M A c R s := fun Γ p hc hΓ _ => h Γ p hc hΓ
theorem wpC_pure {a : α} {Q : α → Shared → Prop} (h : Q a s) : wpC M A (pure a) Q E s := fun _ _ _ _ _ => h
theorem wpC_mono {t : Sem α} {Q Q' : α → Shared → Prop} {E' : Value → Shared → Prop} (h : wpC M A t Q E s) (hQ : ∀ a s, Q a s → Q' a s) (hE : ∀ e s, E e s → E' e s) : wpC M A t Q' E' s :=
  fun Γ p hΓ h1 h2 => Sem.wp_mono M Γ t (fun a _ s => hQ a s) (fun e _ s => hE e s) p s (h Γ p hΓ h1 h2)
theorem wpC_bind {m : Sem α} {f : α → Sem β} {Q : β → Shared → Prop} (h : wpC M A m (fun a s' => wpC M A (f a) Q E s') E s) : wpC M A (m >>= f) Q E s := fun Γ p hΓ h1 h2 => by
  rw [Sem.wp_bind']
  exact Sem.wp_mono M Γ m (fun a p' s' h' => h' Γ p' hΓ h1 h2) (fun _ _ _ h' => h') p s (h Γ p hΓ h1 h2)
theorem wpC_bindA {m : Sem α} {f : α → Sem β} {Q : β → Shared → Prop} (h : wpAny M A m (fun a s' => wpC M A (f a) Q E s') E s) : wpC M A (m >>= f) Q E s := wpC_bind (wpC_of h)
theorem wpC_eq {m : Sem α} {a : α} {f : α → Sem β} {Q : β → Shared → Prop} (e : m = pure a) (h : wpC M A (f a) Q E s) : wpC M A (m >>= f) Q E s := by
  subst e
  exact wpC_bind (wpC_pure h)
theorem wpC_holding {vs : List Value} {m : Sem α} {Q : α → Shared → Prop} (h : wpC M A m Q E s) : wpC M A (holding vs m) Q E s :=
  fun Γ p hΓ h1 h2 => by rw [Sem.wp_holding]; exact h Γ p hΓ h1 h2
theorem wpC_keep {vs : List Value} {m : Sem α} {Q : α → Shared → Prop} (h : wpC M A m Q E s) : wpC M A (m.keep vs) Q E s :=
  fun Γ p hΓ h1 h2 => by rw [Sem.wp_keep]; exact h Γ p hΓ h1 h2
theorem wpC_onRaise {m : Sem α} {k : Value → Sem Unit} {Q : α → Shared → Prop} (h : wpC M A m Q (fun e s' => wpC M A (k e) (fun _ s'' => E e s'') E s') s) : wpC M A (m.onRaise k) Q E s := fun Γ p hΓ h1 h2 => by
  rw [Sem.wp_onRaise]
  exact Sem.wp_mono M Γ m (fun _ _ _ h' => h') (fun e p' s' h' => h' Γ p' hΓ h1 h2) p s (h Γ p hΓ h1 h2)
theorem wpC_attempt {m : Sem α} {Q : Except Value α → Shared → Prop} (h : wpC M A m (fun a => Q (.ok a)) (fun e => Q (.error e)) s) : wpC M A m.attempt Q E s :=
  fun Γ p hΓ h1 h2 => by rw [Sem.wp_attempt]; exact h Γ p hΓ h1 h2
theorem wpC_in1 {t : Sem α} {Q : α → Shared → Prop} (h : wpC M A.in1 t Q E s) : wpC M A t Q E s :=
  fun Γ p hΓ h1 h2 => h Γ p ⟨hΓ.1, hΓ.2.1, hΓ.2.2.1, hΓ.2.2.2.1, Nat.le_succ_of_le hΓ.2.2.2.2⟩ h1 h2
theorem codeC_mono {c : Code} {R R' : Result → Shared → Prop} (h : codeC M A c R s) (hR : ∀ r s, R r s → R' r s) : codeC M A c R' s := fun Γ p hc hΓ h2 => wpCode_mono hR (h Γ p hc hΓ h2)
theorem clean_enter {Γ : PySem.Ctx} {c : Code} {hd : Option Value} {p : Pos} (h1 : okC Γ.code = true) (h2 : ∀ x ∈ Γ.below, okC x.1 = true) : ∀ x ∈ (Γ.enter c hd p).below, okC x.1 = true := fun x hx => by
  have hx' : x ∈ (Γ.code, p) :: Γ.below := hx
  rcases List.mem_cons.mp hx' with rfl | hx'
  · exact h1
  · exact h2 x hx'
theorem wpC_run {c : Code} {h : Option Value} {Q : Flow → Shared → Prop} (hc : codeC M (A.mark h) c (fun r s' => match r with | .ok f => Q f s' | .error e => E e s') s) (hnb : h ≠ some byPass := by intro x; cases x) : wpC M A (run c h) Q E s :=
  fun Γ p hΓ h1 h2 => by rw [Sem.wp_run]; exact hc _ p rfl (hΓ.enter c h p hnb) (clean_enter h1 h2)
theorem wpC_runValue {c : Code} {Q : Value → Shared → Prop} (hc : codeC M A c (fun r s' => match r with | .ok (.ret v) => Q v s' | .ok _ => False | .error e => E e s') s) : wpC M A (runValue c) Q E s :=
  fun Γ p hΓ h1 h2 => by rw [Sem.wp_runValue]; exact hc _ p rfl (hΓ.enter c none p (by intro x; cases x)) (clean_enter h1 h2)
theorem wpC_call {f : Value} {pos : List Value} {kw : List (Str × Value)} {Q : Value → Shared → Prop}
    (hc : codeC M A (.call f ⟨pos, kw⟩) (fun r s' => match r with | .ok (.ret v) => Q v s' | .ok _ => False | .error e => E e s') s) : wpC M A (call f pos kw) Q E s := wpC_runValue hc
theorem codeC_of_tree {c : Code} {R : Result → Shared → Prop} (hok : okC c = true)
    (h : wpC M (A.under c) (M.den c) (fun fin s' => match fin with | .done f => R (.ok f) s' | .again c' => c'.quiet = true ∧ codeC M A c' R s') (fun e s' => R (.error e) s') s) : codeC M A c R s := fun Γ p hc hΓ h2 => by
  rw [wpCode_iff_wp, hc]
  refine Sem.wp_mono M Γ _ (fun fin p' s' h' => ?_) (fun _ _ _ h' => h') p s (h Γ p (hc ▸ hΓ.in) (hc ▸ hok) h2)
  cases fin with
  | done f => exact h'
  | again c' => exact ⟨h'.1, h'.2 (Γ.goto c') p' rfl (hΓ.goto c') h2⟩
end
section
variable {prog : Program} {w : World} {A : Around} {E : Value → Shared → Prop} {s : Shared} {R : Result → Shared → Prop}
theorem codeC_builtin {id : String} {args : Args} {b : Builtin} (hok : okC (.builtin id args) = true) (hb : entryFor table id = some b)
    (h : wpC (model prog w) (A.under (.builtin id args)) (b args) (fun fin s' => match fin with | .done f => R (.ok f) s' | .again c' => c'.quiet = true ∧ codeC (model prog w) A c' R s') (fun e s' => R (.error e) s') s) :
    codeC (model prog w) A (.builtin id args) R s := by
  refine codeC_of_tree hok ?_
  show wpC _ _ (match entryFor table id with | some b => b args | none => unsupported ((withoutEnding? id "#data").getD id)) _ _ s
  rw [hb]; exact h
/-- the stack is read: nobody holds the array -/
theorem wpC_exported {self : Value} {Q : Bool → Shared → Prop} (h : Q false s) : wpC (model prog w) A (Builtin.Bytes.exported self) Q E s := fun Γ p hΓ h1 h2 => by
  have all : ∀ x ∈ (Γ.code, p) :: Γ.below, okC x.1 = true := fun x hx => by
    rcases List.mem_cons.mp hx with rfl | hx
    · exact h1
    · exact h2 x hx
  unfold Builtin.Bytes.exported
  show Q (List.any ((Γ.code, p) :: Γ.below) _) s
  refine (congrArg (fun b => Q b s) (?_ : List.any _ _ = false)).mpr h
  rw [List.any_eq_false]
  intro x hx
  have hx := all x hx
  obtain ⟨c, q⟩ := x
  unfold okC at hx
  dsimp only at hx
  split at hx
  · rename_i id args
    simp only [holdIds, List.contains_append, Bool.not_eq_true', Bool.or_eq_false_iff, List.contains_cons, List.contains_nil, beq_eq_false_iff_ne] at hx
    obtain ⟨⟨x1, x2, x3, x4, x5, _⟩, x6⟩ := hx
    split <;> simp_all
  · rename_i hne
    split <;> simp_all
end
end
section
local macro_rules | `(tactic| k_room) => `(tactic| ((try simp only [depth_mark, depth_under_make, depth_under_kw, depth_in1, depth_deeper, depth_caller]); (try dsimp only [ktrTop]); (simp only [recursionLimit] at *); omega))
local macro_rules | `(tactic| k_units) => `(tactic| ((simp only [units_in1, units_deeper, Around.mark_units, units_caller, cLine_is] at *); (try dsimp only [ktrTop] at *); omega))
local macro_rules | `(tactic| k_all) => `(tactic| assumption)
theorem fill_CB : PySem.Challenge.rw_br5015_01 = PySem.Challenge.rw_br5015_01 ∧ K = K := by
  k_with_none
  k_fill
  exact ⟨rfl, rfl⟩
theorem bt_mro : mroOf (.type "bytearray") = pure [.type "bytearray", .type "object"] := by rw [mroOf_type]; kernel_rfl
theorem bt_lookup_new : typeLookup (.type "bytearray") "__new__" = pure (some (.builtin "bytearray.__new__")) := by rw [typeLookup_type, builtinLookup_eq_fast]; kernel_rfl
theorem bt_slot_init : Slot "bytearray" "__init__" "bytearray.__init__" :=
  .of (owner := "bytearray") (n := "__init__") (by rw [typeLookup_type, builtinLookup_eq_fast]; kernel_rfl) (by decide +kernel) (by decide +kernel) (by decide +kernel)
    (by first | exact .inl (by decide +kernel) | exact .inr (by decide +kernel)) (by rw [isSubtype_type]; kernel_rfl)
theorem bt_called : TypeCalled "bytearray" "bytearray.__new__" "bytearray.__init__" :=
  ⟨by decide +kernel, by decide +kernel, ⟨_, _, bt_mro⟩, madeBy_type bt_mro bt_lookup_new (by decide +kernel), by decide +kernel, by rw [isSubtype_type]; kernel_rfl, bt_slot_init⟩
theorem bt_typeCall (a : Value) : checkTypeCall "bytearray" ⟨[a], []⟩ = pure () := by kernel_rfl
theorem bt_newCall (a : Value) : checkBuiltinCall "bytearray.__new__" ⟨[.type "bytearray", a], []⟩ = pure () := by kernel_rfl
theorem bt_plain_new : plainId "bytearray.__new__" = true := by decide +kernel
theorem bt_plain_init : plainId "bytearray.__init__" = true := by decide +kernel
theorem bt_entry_new : entryFor table "bytearray.__new__" = some Builtin.«list.__new__» := entryFor_alias (id' := "list.__new__") (by kernel_rfl) (by decide +kernel) (by decide +kernel) (by kernel_rfl)
theorem bt_entry_init : entryFor table "bytearray.__init__" = some Builtin.«bytearray.__init__» := by first | exact entryFor_of_fast (by kernel_rfl) | exact entryFor_of_tree (by kernel_rfl)
theorem bt_sub : isSubtype (.type "bytearray") (.type "bytearray") = pure true := by rw [isSubtype_type]; kernel_rfl
theorem bt_bind (v : Value) : Builtin.Bytes.bindOptional "bytearray.__init__" "bytearray" ["source", "encoding", "errors"] [v] [] = pure [some v, none, none] := by kernel_rfl
theorem bt_release : typeLookup (.type "bytearray") "__release_buffer__" = pure (some (.builtin "bytearray.__release_buffer__")) := by rw [typeLookup_type, builtinLookup_eq_fast]; kernel_rfl
theorem by_index : typeLookup (.type "bytes") "__index__" = pure none := by rw [typeLookup_type, builtinLookup_eq_fast]; kernel_rfl
theorem by_buffer : typeLookup (.type "bytes") "__buffer__" = pure (some (.builtin "bytes.__buffer__")) := by rw [typeLookup_type, builtinLookup_eq_fast]; kernel_rfl
theorem by_release : typeLookup (.type "bytes") "__release_buffer__" = pure none := by rw [typeLookup_type, builtinLookup_eq_fast]; kernel_rfl
theorem by_sub : isSubtype (.type "bytes") (.type "bytes") = pure true := by rw [isSubtype_type]; kernel_rfl
set_option maxRecDepth 1000000 in
set_option maxHeartbeats 4000000 in
theorem owner_bt_new : ("bytearray.__new__".splitOn ".__new__").headD "" = "bytearray" := by simp +decide [String.splitOn, String.splitOnAux]
section
variable {prog : Program} {w : World} {A : Around} {E : Value → Shared → Prop} {s : Shared} {R : Result → Shared → Prop}
/-- the array is made, empty -/
theorem bt_new (a : Value) {Q₁ : Value → Shared → Prop} (h : Q₁ (.ref s.heap.objs.size) { s with heap := s.heap.push { cls := .type "bytearray", data := .bytearray #[] } }) :
    codeAny (model prog w) A (.call (.builtin "bytearray.__new__") ⟨[.type "bytearray", a], []⟩) (wants Q₁ E) s := by
  refine codeAny_of_tree ?_
  show wpAny _ A.in1 (do checkBuiltinCall "bytearray.__new__" ⟨[.type "bytearray", a], []⟩; again (.builtin "bytearray.__new__" ⟨[.type "bytearray", a], []⟩)) _ _ s
  refine wpAny_bind (wpAny_of_eq (bt_newCall a) (wpAny_pure ⟨plainId_quiet bt_plain_new _, codeAny_builtin_stack bt_entry_new rfl fun p st => ?_⟩))
  rw [Around.under_plainId bt_plain_new _]
  have hsub := bt_sub
  have hown := owner_bt_new
  obtain ⟨hp, g, d, tk, os⟩ := s
  simp only [hown]
  wp_walk
  exact h
/-- is the array's release its own -/
theorem bt_own {Q : Bool → Shared → Prop} {v : Value} (hT : s.TypeIs v "bytearray") (h : Q false s) : wpAny (model prog w) A (Builtin.Bytes.ownRelease v) Q E s := by
  unfold Builtin.Bytes.ownRelease Builtin.Bytes.slotIsOwn
  refine wpAny_bind (wpAny_bind (wpAny_specialOf hT bt_release ?_))
  dsimp only
  rw [if_neg (by decide +kernel)]
  have e : ("bytearray.__release_buffer__".dropRight ("__release_buffer__".length + 1)) = "bytearray" := by decide +kernel
  rw [e]
  exact wpAny_isInstance hT bt_sub (wpAny_pure h)
theorem by_own {Q : Bool → Shared → Prop} {v : Value} (hT : s.TypeIs v "bytes") (h : Q false s) : wpAny (model prog w) A (Builtin.Bytes.ownRelease v) Q E s := by
  unfold Builtin.Bytes.ownRelease Builtin.Bytes.slotIsOwn
  refine wpAny_bind (wpAny_bind (wpAny_specialOf hT by_release ?_))
  exact wpAny_pure (wpAny_pure h)
end
end
section
local macro_rules | `(tactic| k_room) => `(tactic| ((try simp only [depth_mark, depth_under_make, depth_under_kw, depth_in1, depth_deeper, depth_caller]); (try dsimp only [ktrTop]); (simp only [recursionLimit] at *); omega))
local macro_rules | `(tactic| k_units) => `(tactic| ((simp only [units_in1, units_deeper, Around.mark_units, units_caller, cLine_is] at *); (try dsimp only [ktrTop] at *); omega))
local macro_rules | `(tactic| k_all) => `(tactic| assumption)
theorem fill_CC : PySem.Challenge.rw_br5015_01 = PySem.Challenge.rw_br5015_01 ∧ K = K := by
  k_with_none
  k_fill
  exact ⟨rfl, rfl⟩
section
variable {prog : Program} {w : World} {A : Around} {E : Value → Shared → Prop} {s : Shared} {R : Result → Shared → Prop}
abbrev baObj (b : Array UInt8) : Obj := { cls := .type "bytearray", data := .bytearray b }
theorem ba_write {S : Addr} {b c : Array UInt8} {f : Array UInt8 → Array UInt8} {Q : Unit → Shared → Prop} (hS : s.heap.get? S = some (baObj b)) (hf : f b = c) (hc : c.size ≤ sizeLine)
    (h : ∀ h', Heap.SameBut S s.heap h' → h'.get? S = some (baObj c) → Q () { s with heap := h' }) : wpAny (model prog w) A (Builtin.Bytes.write (.ref S) f) Q E s := by
  show wpAny _ _ (updateBytearray S f) _ _ _
  unfold updateBytearray
  refine wpAny_bind (wpAny_load hS ?_)
  show wpAny _ _ (update S (Obj.mapBytearray f) >>= fun _ => lookBehind S) _ _ _
  refine wpAny_bind (wpAny_update hS ?_)
  have hS₂ : (s.heap.update S (Obj.mapBytearray f)).get? S = some (baObj c) := by
    rw [← hf]
    exact Heap.get?_update_self (Obj.mapBytearray f) hS rfl
  refine wpAny_lookBehind hS₂ ?_ (h _ (Heap.SameBut.update ..) hS₂)
  show (if c.size > sizeLine then some "bytearray:memory" else none) = none
  rw [if_neg (by omega)]
theorem bt_init {S : Addr} {b : Array UInt8} {t : Tok} {Q : Fin → Shared → Prop} (hS : s.heap.get? S = some (baObj #[])) (hb : b.size ≤ sizeLine)
    (h : ∀ h', Heap.SameBut S s.heap h' → h'.get? S = some (baObj b) → Q (.done (.ret .none)) { s with heap := h' }) :
    wpC (model prog w) A (Builtin.«bytearray.__init__» ⟨[.ref S, .bytes b t], []⟩) Q E s := by
  have hT : s.TypeIs (.ref S) "bytearray" := ⟨_, hS, rfl⟩
  unfold Builtin.«bytearray.__init__»
  dsimp only
  refine wpC_bindA (bt_own hT ?_)
  rw [if_neg Bool.false_ne_true]
  refine wpC_eq (bt_bind _) ?_
  dsimp only
  refine wpC_eq (a := ()) rfl ?_
  refine wpC_eq (a := ()) rfl ?_
  refine wpC_bind ?_
  unfold orM
  refine wpC_bind (wpC_exported ?_)
  show wpC _ _ (Builtin.Bytes.exportsOf (.ref S) >>= _) _ _ _
  refine wpC_bindA ?_
  show wpAny _ _ (load S >>= _) _ _ _
  refine wpAny_bind (wpAny_load hS (wpAny_pure (wpC_pure ?_)))
  rw [if_neg (by decide)]
  refine wpC_bindA (ba_write (c := #[]) hS rfl (Nat.zero_le _) fun h1 hs1 hS1 => ?_)
  refine wpC_eq (a := none) rfl ?_
  rw [if_neg (by decide)]
  rw [if_neg (by decide)]
  rw [if_neg (by decide)]
  refine wpC_of ?_
  have hB : ∀ s' : Shared, s'.TypeIs (.bytes b t) "bytes" := fun _ => rfl
  refine wpAny_bind (wpAny_pure ?_)
  refine wpAny_bind (wpAny_specialOf (hB _) by_index ?_)
  rw [if_neg (by decide)]
  refine wpAny_bind ?_
  unfold Builtin.Bytes.buffer?
  refine wpAny_bind (wpAny_specialOf (hB _) by_buffer ?_)
  dsimp only
  refine wpAny_bind ?_
  unfold Builtin.Bytes.slotIsOwn
  refine wpAny_bind (wpAny_specialOf (hB _) by_buffer ?_)
  dsimp only
  rw [if_neg (by decide +kernel)]
  have e2 : ("bytes.__buffer__".dropRight ("__buffer__".length + 1)) = "bytes" := by decide +kernel
  rw [e2]
  refine wpAny_isInstance (hB _) by_sub ?_
  rw [if_neg (by decide)]
  refine wpAny_bind (wpAny_specialOf (hB _) by_buffer ?_)
  refine wpAny_bind (by_own (hB _) ?_)
  rw [if_neg (by decide)]
  show wpAny _ _ ((pure (some b) >>= _ : Sem (Array UInt8)) >>= _) _ _ _
  refine wpAny_bind (wpAny_bind (wpAny_pure (wpAny_pure (wpAny_pure ?_))))
  refine wpAny_bind (wpAny_rule ?_)
  refine wpAny_bind (ba_write (c := b) hS1 rfl hb fun h2 hs2 hS2 => wpAny_bind (wpAny_pure (wpAny_pure ?_)))
  exact h h2 (hs1.trans hs2) hS2
theorem okC_id {id : String} {args : Args} (h : holdIds.contains id = false) : okC (.builtin id args) = true := by
  show (!holdIds.contains id) = true
  rw [h]
  rfl
theorem bt_args (a b : Value) : argsOk "bytearray.__init__" ⟨[a, b], []⟩ := by unfold argsOk; kernel_rfl
theorem bt_call {b : Array UInt8} {t : Tok} (hb : b.size ≤ sizeLine)
    (h : ∀ h', (∀ a o, s.heap.get? a = some o → h'.get? a = some o) → h'.get? s.heap.objs.size = some (baObj b) → R (.ok (.ret (.ref s.heap.objs.size))) { s with heap := h' }) :
    codeC (model prog w) A (.call (.type "bytearray") ⟨[.bytes b t], []⟩) R s := by
  refine codeC_of_tree rfl ?_
  show wpC _ _ (pure (Fin.again (.builtin "type.__call__" ⟨[.type "bytearray", .bytes b t], []⟩))) _ _ _
  refine wpC_pure ⟨Code.quiet_builtin _ (by decide +kernel), codeC_builtin (okC_id (by decide +kernel)) F.entry_type_call ?_⟩
  unfold Builtin.«type.__call__»
  dsimp only
  have ft := bt_called
  rw [if_neg (by decide)]
  rw [if_neg (by decide +kernel)]
  refine wpC_eq (bt_typeCall _) ?_
  refine wpC_eq bt_mro ?_
  rw [if_neg (by decide)]
  refine wpC_eq ft.made ?_
  refine wpC_eq (a := .builtin "bytearray.__new__") rfl ?_
  refine wpC_bindA (wpAny_holding (wpAny_call (bt_new (.bytes b t) (Q₁ := _) (E := _) ?_)))
  have hT : ({ s with heap := s.heap.push (baObj #[]) } : Shared).TypeIs (.ref s.heap.objs.size) "bytearray" := ⟨_, Heap.get?_push_size _ rfl, rfl⟩
  refine wpC_bindA (wpAny_isInstance hT bt_sub ?_)
  rw [if_neg (by decide)]
  refine wpC_bind (wpC_holding ?_)
  unfold callSpecial?
  refine wpC_bindA (wpAny_specialOf hT ft.init.lookup ?_)
  refine wpC_holding (wpC_eq (ft.init.bind _) ?_)
  refine wpC_bind (wpC_call (codeC_of_tree rfl ?_))
  show wpC _ _ (do checkBuiltinCall "bytearray.__init__" ⟨[.ref s.heap.objs.size, .bytes b t], []⟩; again (.builtin "bytearray.__init__" ⟨[.ref s.heap.objs.size, .bytes b t], []⟩)) _ _ _
  refine wpC_bindA (ft.init.check _ _ _ _ _ _ _ _ hT (bt_args _ _) ?_)
  refine wpC_pure ⟨plainId_quiet bt_plain_init _, codeC_builtin (okC_id (by decide +kernel)) bt_entry_init ?_⟩
  refine bt_init (Heap.get?_push_size _ rfl) hb fun h' hs hS => ?_
  refine wpC_pure (wpC_pure ?_)
  exact h h' (fun a o q => (hs.2 a (Nat.ne_of_lt (Heap.lt_size q))).trans (Heap.get?_push_of_some _ q)) hS
end
end
section
local macro_rules | `(tactic| k_room) => `(tactic| ((try simp only [depth_mark, depth_under_make, depth_under_kw, depth_in1, depth_deeper, depth_caller]); (try dsimp only [ktrTop]); (simp only [recursionLimit] at *); omega))
local macro_rules | `(tactic| k_units) => `(tactic| ((simp only [units_in1, units_deeper, Around.mark_units, units_caller, cLine_is] at *); (try dsimp only [ktrTop] at *); omega))
local macro_rules | `(tactic| k_all) => `(tactic| assumption)
theorem fill_CD : PySem.Challenge.rw_br5015_01 = PySem.Challenge.rw_br5015_01 ∧ K = K := by
  k_with_none
  k_fill
  exact ⟨rfl, rfl⟩
section
variable {w : World} {A : Around} {E : Value → Shared → Prop} {s : Shared} {R : Result → Shared → Prop}
theorem wpAny_peek {α : Type} {t : Sem α} {a : α} {Q : α → Shared → Prop} (X : (K w.params).In s.heap) (e : peek (K w.params) ⟨prg, w.params⟩ t = some a) (h : Q a s) : wpAny (model prg w) A t Q E s :=
  fun _ _ _ => wp_of_peek (Q := fun a _ s' => Q a s') X h t e
theorem on_check : ∀ P, peek (K P) ⟨prg, P⟩ (checkBuiltinCall "object.__new__" ⟨[.ref 322], []⟩) = some () := fun _ => by kernel_rfl
theorem on_made : ∀ P, peek (K P) ⟨prg, P⟩ (Bind.madeHere "object.__new__" (.ref 322)) = some () := fun _ => by kernel_rfl
theorem on_type : ∀ P, peek (K P) ⟨prg, P⟩ (isType (.ref 322)) = some true := fun _ => by kernel_rfl
def cd322 (P : Params) : ClassData := match (K P).lookup 322 with | some ⟨_, _, .cls c, _⟩ => c | _ => { name := S "", bases := [], mro := [], ns := 0, qualname := S "", hasDict := true, slotNames := [], subclasses := [], abstract := false, collection := none, hasDel := false }
theorem on_data : ∀ P, peek (K P) ⟨prg, P⟩ (classData 322) = some (cd322 P) := fun _ => by kernel_rfl
theorem cd_abs : ∀ P, (cd322 P).abstract = false := fun _ => by kernel_rfl
theorem on_del : ∀ P, peek (K P) ⟨prg, P⟩ (do let c ← classData 322; pure c.hasDel) = some false := fun _ => by kernel_rfl
theorem on_plain : plainId "object.__new__" = true := by decide +kernel
theorem objnew (X : (K w.params).In s.heap) (hq : R (.ok (.ret (.ref (s.heap.objs.size + 1)))) { s with heap := (s.heap.push emptyDict).push (instObj 322 s.heap.objs.size) }) :
    codeAny (model prg w) A (.call (.builtin "object.__new__") ⟨[.ref 322], []⟩) R s := by
  refine codeAny_call_builtin on_plain F.objNew.entry (wpAny_peek X (on_check _) ?_)
  unfold Builtin.«object.__new__»
  dsimp only
  refine wpAny_bind (wpAny_peek X (on_type _) ?_)
  rw [if_neg (by decide)]
  refine wpAny_bind (wpAny_peek X (on_made _) ?_)
  rw [if_neg (by decide)]
  refine wpAny_bind (wpAny_peek X (on_data _) ?_)
  rw [if_neg (by rw [cd_abs]; decide)]
  show wpAny _ _ ((alloc emptyDict >>= fun x => pure (some x)) >>= _) _ _ _
  refine wpAny_bind (wpAny_bind (wpAny_alloc (wpAny_pure (wpAny_bind ?_))))
  show wpAny _ _ (newObjAsIs _ _ _) _ _ _
  have X2 : (K w.params).In ((s.heap.push emptyDict).push (instObj 322 s.heap.objs.size)) := X.keeps fun b o e => Heap.get?_push_of_some _ (Heap.get?_push_of_some _ e)
  unfold newObjAsIs classHasDel
  refine wpAny_bind (wpAny_alloc (wpAny_bind ?_))
  refine wpAny_peek X2 (a := false) ?_ ?_
  · exact on_del _
  refine wpAny_pure (wpAny_pure ?_)
  show R _ _
  rw [Heap.size_push]
  exact hq
end
section
variable (w : World) (mean : ExcName → Option Value) (mg mb : Str → Option Value)
  (dp un : Nat) (gd : Option (List Code)) (cn : Str) (cs : Scope) (a : Addr) (ccd : Value) (cl : List (Str × Addr)) (outer : List Env) (A₀ : Around) (base h₀ : Heap) (L : Addr) (m : Str → Option Value) (rest : List (Addr × Obj)) (s : Shared)
  (Q E : Value → Shared → Prop)
theorem new_spec (bs : Array UInt8) (tb : Tok) (hB : Below A₀ base outer h₀) (F : Fr h₀ L s.heap m) (X₀ : (K w.params).In h₀) (N : News h₀ L s.heap rest)
  (T : Top topProg lo mean mg mb h₀) (hk : cs.kind = .function) (hd : dp + 30 < recursionLimit) (hu : un + 300 < cLine)
  (ret : ∀ h' tk' x dx, Fr h₀ L h' m → News h₀ L h' ((x, instObj 322 dx) :: (dx, emptyDict) :: rest) → (∀ p ∈ rest, p.1 < dx) → dx < x → Q (.ref x) { s with heap := h', toks := tk' }) :
  wpAny (model prg w) (ktrTop dp un gd cn cs L a ccd cl outer) (call (.ref 62) [.ref 322, .bytes bs tb]) Q E s := by
  refine wpAny_call ?_
  k_dflt (refine' kp_both ?k1 ?k2 ?k3 ?k4 ?k5 ?kA ?kF ?kK ?k6 ?k7 ?k8 ?kV ?kX ?kQ ?kM ?kN ?kD ?kR ?kP ?kS ?kT ?kB ?_ ?c2 ?c3 ?c4 ?c5; (case kA => exact rfl); (case kF => exact rfl); (case kK => assumption); (case k1 => k_asm); (case k2 => k_asm); (case k3 => k_asm); (case k4 => k_asm); (case k5 => k_asm); (case k6 => k_is); (case k7 => k_is); (case k8 => k_room); (case kV => kp_lit); (case kX => kp_lit); (case kQ => exact rfl); (case kM => exact rfl); (case kN => exact rfl); (case kD => kp_flats); (case kR => exact rfl); (case kP => exact rfl); (case kS => exact fun _ => rfl); (case kT => exact fun _ _ => rfl); (case kB => exact fun _ _ => locs rfl); (case c5 => decide); (case c2 => exact rfl); (case c3 => exact rfl); (case c4 => exact rfl); k_whole; intro C1 D1 o1 g1 L1 h1 tk1 l1 l2 lo1 hs1 fs1 FG1 F1 N1 B1 X1 T1; (try k_lt l1); (try k_lt2 l2); (try dsimp only); (try k_fold))
  k_steps
  refine' wpAny_call (objnew ?x ?_)
  case x => exact X1.keeps F1.keep
  have N2 := News.push (o := emptyDict) F1 N1 rfl
  have F2 := F1.push emptyDict
  have N3 := News.push (o := instObj 322 h1.objs.size) F2 N2 rfl
  have F3 := F2.push (instObj 322 h1.objs.size)
  rw [Heap.size_push] at N3
  dsimp only
  refine leaveK_ F3 N3 fun F4 N4 => ret _ _ _ _ F4 (fun q hq => N4 q ?_) (fun q hq => ?_) (Nat.lt_succ_self _)
  · rcases List.mem_cons.mp hq with h | h
    · exact h ▸ List.mem_cons_self
    · rcases List.mem_cons.mp h with h | h
      · exact List.mem_cons_of_mem _ (h ▸ List.mem_cons_self)
      · exact List.mem_cons_of_mem _ (List.mem_cons_of_mem _ (List.mem_cons_of_mem _ (List.mem_cons_of_mem _ h)))
  · exact Heap.lt_size (N1 q (List.mem_cons_of_mem _ (List.mem_cons_of_mem _ hq))).1
end
end
section
local macro_rules | `(tactic| k_room) => `(tactic| ((try simp only [depth_mark, depth_under_make, depth_under_kw, depth_in1, depth_deeper, depth_caller]); (try dsimp only [ktrTop]); (simp only [recursionLimit] at *); omega))
local macro_rules | `(tactic| k_units) => `(tactic| ((simp only [units_in1, units_deeper, Around.mark_units, units_caller, cLine_is] at *); (try dsimp only [ktrTop] at *); omega))
local macro_rules | `(tactic| k_all) => `(tactic| assumption)
theorem fill_CE : PySem.Challenge.rw_br5015_01 = PySem.Challenge.rw_br5015_01 ∧ K = K := by
  k_with_none
  k_fill
  exact ⟨rfl, rfl⟩
section
variable {M : Model} {A : Around} {E : Value → Shared → Prop} {s : Shared} {env : Env}
theorem wpC_execs_cons {st : Stmt} {rest : List Stmt} {Q : Flow → Shared → Prop} (h : wpC M A (exec st env) (fun f s' => match f with | .next => wpC M A (execs rest env) Q E s' | f => Q f s') E s) : wpC M A (execs (st :: rest) env) Q E s := by
  rw [execs_cons]
  refine wpC_bind (wpC_mono h (fun f s' h' => ?_) fun _ _ e => e)
  cases f <;> first | exact h' | exact wpC_pure h'
theorem wpC_Return {x : Expr} {pos : Pos} {Q : Flow → Shared → Prop} (h : wpC M A (eval x env) (fun v => Q (.ret v)) E s) : wpC M A (exec (.Return (some x) pos) env) Q E s := by
  rw [arm_exec_Return]
  refine wpC_bindA (wpAny_standAt ?_)
  exact wpC_bind (wpC_mono h (fun v s' h' => wpC_pure h') fun _ _ e => e)
theorem wpC_Assign_Attr {o : Expr} {attr : Str} {pos' pos : Pos} {value : Expr} {Q : Flow → Shared → Prop}
    (h : wpC M A (eval value env) (fun v s₁ => wpAny M A (eval o env) (fun ov s₂ => wpAny M A (setAttr ov attr v) (fun _ => Q .next) E s₂) E s₁) E s)
    (hs : swapsWith value (some (.Attribute o attr pos')) pos.line env = pure false := by rfl) : wpC M A (exec (.Assign [.Attribute o attr pos'] value pos) env) Q E s := by
  rw [plainObj_exec_Assign_Attribute o attr pos' value pos hs]
  refine wpC_bindA (wpAny_standAt (wpC_bind (wpC_mono h (fun v s₁ h₁ => wpC_of ?_) fun _ _ e => e)))
  rw [assign_Attribute]
  refine wpAny_bind (wpAny_bind (wpAny_holding (wpAny_mono h₁ (fun ov s₂ h₂ => wpAny_bind (wpAny_standAt (wpAny_bind (wpAny_holding (wpAny_mono h₂ (fun _ s₃ h₃ => wpAny_release (wpAny_pure h₃)) fun _ _ e => e))))) fun _ _ e => e)))
theorem wpC_IfExp {test body orelse : Expr} {pos : Pos} {Q : Value → Shared → Prop}
    (h : wpAny M A (isTrue test env (eval test env)) (fun b s₁ => if b then wpC M A (eval body env) Q E s₁ else wpC M A (eval orelse env) Q E s₁) E s) : wpC M A (eval (.IfExp test body orelse pos) env) Q E s := by
  rw [arm_eval_IfExp]
  refine wpC_bindA (wpAny_mono h (fun b s₁ h₁ => ?_) fun _ _ e => e)
  cases b <;> exact h₁
theorem wpC_splicedC {x : Sem Value} {Q : List Value → Shared → Prop} (h : wpC M A x (fun v s₁ => Q [v] s₁) E s) : wpC M A (spliced [(false, x)]) Q E s := by
  rw [spliced]
  refine wpC_bind (wpC_mono h (fun v s₁ h₁ => ?_) fun _ _ e => e)
  simp only [Bool.false_eq_true, if_false]
  exact wpC_bind (wpC_pure (wpC_bind (wpC_holding (wpC_of (Calls.spliced_nil (wpC_pure h₁))))))
theorem wpC_evalArgs {f : Value} {x : Sem Value} {Q : Args → Shared → Prop} (h : wpC M A x (fun v s' => Q ⟨[v], []⟩ s') E s) : wpC M A (evalArgs f true [(false, x)] []) Q E s := by
  unfold evalArgs
  show wpC M A (spliced [(false, x)] >>= _) Q E s
  refine wpC_bind (wpC_splicedC (wpC_mono h (fun vs s' h' => ?_) fun _ _ e => e))
  refine wpC_holding ?_
  exact wpC_bind (wpC_pure (wpC_bind (wpC_pure (wpC_pure h'))))
/-- a call with one argument: the argument and the call each in the clean logic -/
theorem wpC_callWith1 {pos : Pos} {f : Value} {first : List Value} {x : Sem Value} {Q : Value → Shared → Prop}
    (h : wpC M A x (fun v s₁ => wpAny M A (keeperOf f) (fun k s₂ => match k with
      | .frame => wpC M A (callMarked plainCall f (first ++ [v]) []) Q E s₂
      | .boundFrame => wpC M A (callMarked callOfAMethodObject f (first ++ [v]) []) Q E s₂
      | .machine => wpC M A (call f (first ++ [v]) []) Q E s₂
      | .caller => wpC M A (operate (f :: (first ++ [v])) (call f (first ++ [v]) [])) Q E s₂) E s₁) E s) : wpC M A (callWith pos f first [(false, x)] []) Q E s := by
  unfold callWith
  refine wpC_bind (wpC_holding (wpC_evalArgs (wpC_mono h (fun v s₁ h₁ => wpC_bindA (wpAny_standAt ?_)) fun _ _ e => e)))
  have tail : ∀ {t : Sem Value} {s₂ : Shared}, wpC M A t Q E s₂ → wpC M A (t >>= fun r => holding [r] point >>= fun _ => pure r) Q E s₂ :=
    fun ht => wpC_bind (wpC_mono ht (fun r s₂ hr => wpC_of (wpAny_bind (wpAny_holding (wpAny_point (wpAny_pure hr))))) fun _ _ e => e)
  refine wpC_bindA (wpAny_mono h₁ (fun k s₂ h₂ => ?_) fun _ _ e => e)
  cases k
  · exact tail h₂
  · exact tail h₂
  · exact tail h₂
  · refine tail ?_
    dsimp only at h₂
    have e : (f :: ((if (List.any [(false, x)] (·.1) || List.any ([] : List (Option Str × Sem Value)) (·.1.isNone)) = true then (first ++ [v]).reverse else first ++ [v]) ++ ([] : List (Str × Value)).map (·.2))) = f :: (first ++ [v]) := by simp
    show wpC M A (operate (f :: ((if (List.any [(false, x)] (·.1) || List.any ([] : List (Option Str × Sem Value)) (·.1.isNone)) = true then (first ++ [v]).reverse else first ++ [v]) ++ ([] : List (Str × Value)).map (·.2))) (call f (first ++ [v]) [])) Q E s₂
    rw [e]
    exact h₂
end
section
variable {prog : Program} {w : World} {A A₀ : Around} {R : Result → Shared → Prop} {s : Shared} {base h₀ : Heap} {L : Addr} {m : Str → Option Value} {news : List (Addr × Obj)} {KK : Frag} {p : Program} {loose : List Str} {mean : ExcName → Option Value} {mg mb : Str → Option Value}
theorem codeC_func {body : List Stmt} {env : Env}
    (h : wpC (model prog w) (A.deeper env) (execs body env) (fun f s' => R (.ok (.ret (match f with | .ret v => v | _ => .none))) s')
      (fun e s' => wpAny (model prog w) (A.deeper env) (leaving env e) (fun _ s'' => R (.error e) s'') (fun e' s'' => R (.error e') s'') s') s) : codeC (model prog w) A (.func body env) R s := by
  refine codeC_of_tree rfl ?_
  show wpC _ (A.deeper env) (do point; match ← (execs body env).onRaise (leaving env) with | .ret v => ret v | _ => ret .none) _ _ s
  refine wpC_bindA (wpAny_point (wpC_bind (wpC_onRaise (wpC_mono h (fun f s' h' => ?_) fun _ _ h' => wpC_of h'))))
  cases f <;> exact wpC_pure h'
theorem codeC_call_def {a : Addr} {o : Obj} {fd : FuncData} {body : List Stmt} {args : Args} {binds : List (Str × Value)}
    (hroom : A.depth < recursionLimit) (ho : s.heap.get? a = some o) (hdata : o.data = .func fd) (hlim : s.heap.NoLimit) (hcd : s.heap.CodeRec fd.code fd.qualname)
    (hbody : fd.body = .stmts body) (hbind : BindsTo s fd args binds)
    (hcell : ∀ x ∈ fd.scope.names, x.2 ≠ .cell) (hloc : ∀ x ∈ binds, fd.scope.names.lookup x.1 = some .local)
    (h : ∀ h₀, h₀.Ns s.heap.objs.size (fun x => binds.reverse.lookup x) → (∀ b o, s.heap.get? b = some o → h₀.get? b = some o) →
      wpC (model prog w) (A.deeper (callEnv fd s.heap.objs.size a)) (execs body (callEnv fd s.heap.objs.size a)) (fun f s' => R (.ok (.ret (match f with | .ret v => v | _ => .none))) s')
        (fun e s' => wpAny (model prog w) (A.deeper (callEnv fd s.heap.objs.size a)) (leaving (callEnv fd s.heap.objs.size a) e) (fun _ s'' => R (.error e) s'') (fun e' s'' => R (.error e') s'') s')
        { s with heap := h₀, toks := s.toks + binds.length })
    (hco : fd.scope.isCoroutine = false := by rfl) (hgen : fd.scope.isGenerator = false := by rfl) (hk : fd.scope.kind = .function := by rfl) :
    codeC (model prog w) A (.call (.ref a) args) R s := by
  refine codeC_of_tree rfl ?_
  show wpC _ A.in1 (callAny (.ref a) args) _ _ s
  simp only [callAny]
  refine wpC_bindA (wpAny_load ho ?_)
  obtain ⟨c, oc, vs, tq, hc, hoc, hdc, hq⟩ := hcd
  simp only [hdata, callFunction, hco, hgen, hbody]
  rw [hc]
  refine wpC_bindA (m := field (.ref c) 1) (wpAny_field hoc hdc hq (wpC_bind (wpC_pure ?_)))
  have hcd' : fd.code = .ref c := hc
  rw [← hc]
  refine wpC_bindA (hbind _ _ _ _ (wpC_bindA (wpAny_newFunctionEnv hcell hloc (fun h₁ hns₁ hsb₁ => ?_) hk)))
  have kk : ∀ b o, s.heap.get? b = some o → h₁.get? b = some o := fun b o e => hsb₁.extBut b o (Nat.ne_of_lt (Heap.lt_size e)) (Heap.get?_push_of_some _ e)
  refine wpC_bindA (wpAny_enterFrame (hlim.fresh _ hsb₁) hroom (wpC_pure (And.intro rfl (codeC_func ?_))))
  exact h h₁ hns₁ kk
/-- a def is entered in the clean logic: its ground hides the caller's news, both ways out stand open -/
theorem enterC {env : Env} {outer : List Env} {name qual : Str} {params : Arguments} {body : List Stmt} {scope : Scope} {dV kV doc pm cdv ct oc : Value} {an od : Option Addr} {osl : Array (Option Value)} {f : Addr} {args : Args} {binds : List (Str × Value)}
    (B : Below A₀ base outer h₀) (F : Fr h₀ L s.heap m) (X₀ : KK.In h₀) (N : News h₀ L s.heap news) (T : Top p loose mean mg mb h₀) (hA : A.frames = some (env :: outer)) (hf : env.frame = some L) (hke : env.scope.kind = .function)
    (ho : KK.lookup f = some ⟨oc, od, .func (fnOf name qual params body scope dV kV doc pm an cdv ct), osl⟩) (hcd : codeIn KK cdv qual = true) (hroom : A.depth < recursionLimit)
    (hbind : BindsTo s (fnOf name qual params body scope dV kV doc pm an cdv ct) args binds) (hloc : ∀ y ∈ binds, scope.names.lookup y.1 = some .local)
    (h : ∀ g L' h₁, Fr h₀ L g m → Fr g L' h₁ (fun y => binds.reverse.lookup y) → News g L' h₁ news → Below A base (env :: outer) g → KK.In g → Top p loose mean mg mb g →
      (∀ v s', LeaveK h₀ L m g R v s' → R (.ok (.ret v)) s') → (∀ b o, s.heap.get? b = some o → b ∉ news.map (·.1) → g.get? b = some o) →
      wpC (model prog w) (A.deeper (envOf qual scope L' f cdv)) (execs body (envOf qual scope L' f cdv))
        (fun fl s' => R (.ok (.ret (match fl with | .ret v => v | _ => .none))) s')
        (fun e s' => wpAny (model prog w) (A.deeper (envOf qual scope L' f cdv)) (leaving (envOf qual scope L' f cdv) e) (fun _ s'' => R (.error e) s'') (fun e' s'' => R (.error e') s'') s')
        { s with heap := h₁, toks := s.toks + binds.length })
    (hco : scope.isCoroutine = false) (hgen : scope.isGenerator = false) (hk : scope.kind = .function)
    (hcell : ∀ x ∈ scope.names, x.2 ≠ .cell) : codeC (model prog w) A (.call (.ref f) args) R s := by
  obtain ⟨FG, BG, st, lv⟩ := groundX (R := R) B F N hA hf hke
  have X := X₀.keeps F.keep
  refine codeC_call_def (fd := fnOf name qual params body scope dV kV doc pm an cdv ct) (body := body) (binds := binds) hroom (X _ _ ho) rfl (T.nolimit.keeps F.keep) (codeRec_of X hcd) rfl hbind hcell hloc (fun h₁ hns hk₁ => ?_) hco hgen hk
  exact h _ s.heap.objs.size h₁ FG ⟨hns, fun b o e => hk₁ b o (of_hideAll _ e), Nat.le_of_eq (hideAll_size _ _)⟩
    (fun q hq => ⟨hk₁ _ _ (N q hq).1, Nat.ne_of_lt (Heap.lt_size (N q hq).1), hideAll_none _ (List.mem_map_of_mem hq)⟩) BG (X₀.keeps st) (T.keeps st) lv fun b o e n => hideAll_get _ e n
end
end
section
local macro_rules | `(tactic| k_room) => `(tactic| ((try simp only [depth_mark, depth_under_make, depth_under_kw, depth_in1, depth_deeper, depth_caller]); (try dsimp only [ktrTop]); (simp only [recursionLimit] at *); omega))
local macro_rules | `(tactic| k_units) => `(tactic| ((simp only [units_in1, units_deeper, Around.mark_units, units_caller, cLine_is] at *); (try dsimp only [ktrTop] at *); omega))
local macro_rules | `(tactic| k_all) => `(tactic| assumption)
theorem fill_CF : PySem.Challenge.rw_br5015_01 = PySem.Challenge.rw_br5015_01 ∧ K = K := by
  k_with_none
  k_fill
  exact ⟨rfl, rfl⟩
section
variable {w : World} {mean : ExcName → Option Value} {mg mb : Str → Option Value}
  {dp un : Nat} {gd : Option (List Code)} {cn : Str} {cs : Scope} {a : Addr} {ccd : Value} {cl : List (Str × Addr)} {outer : List Env} {A₀ : Around} {base h₀ : Heap} {L : Addr} {m : Str → Option Value} {rest : List (Addr × Obj)} {s : Shared}
  {R : Result → Shared → Prop}
theorem init_C (bs : Array UInt8) (tb : Tok) (x dx : Addr) (hbs : bs.size ≤ sizeLine) (hB : Below A₀ base outer h₀) (F : Fr h₀ L s.heap m) (X₀ : (K w.params).In h₀) (N : News h₀ L s.heap ((x, instObj 322 dx) :: (dx, emptyDict) :: rest))
  (hx : dx < x) (hr : ∀ q ∈ rest, q.1 < dx)
  (T : Top topProg lo mean mg mb h₀) (hk : cs.kind = .function) (hd : dp + 30 < recursionLimit) (hu : un + 300 < cLine)
  (ret : ∀ h' tk' y u z, Fr h₀ L h' m → News h₀ L h' ((y, baObj bs) :: (x, instObj 322 dx) :: (dx, bdict w.params u y 0 z) :: rest) → x < y → R (.ok (.ret .none)) { s with heap := h', toks := tk' }) :
  codeC (model prg w) (ktrTop dp un gd cn cs L a ccd cl outer) (.call (.ref 109) ⟨[.ref x, .bytes bs tb], []⟩) R s := by
  k_dflt (refine' enterC ?k1 ?k2 ?k3 ?k4 ?k5 ?kA ?kF ?kK ?k6 ?k7 ?k8 ?k9 ?kB ?_ ?c2 ?c3 ?c4 ?c5; (case kA => exact rfl); (case kF => exact rfl); (case kK => assumption); (case k1 => k_asm); (case k2 => k_asm); (case k3 => k_asm); (case k4 => k_asm); (case k5 => k_asm); (case k6 => k_is); (case k7 => k_is); (case k8 => k_room); (case k9 => first | exact BindsTo.of_eq rfl | exact binds_K (by k_in) rfl (by k_is) rfl rfl rfl | fail "kc_enter: no rule for these arguments"); (case c5 => decide); (case kB => exact locs rfl); (case c2 => exact rfl); (case c3 => exact rfl); (case c4 => exact rfl); k_whole; intro g1 L1 h1 FG1 F1 N1 B1 X1 T1 lv1 kp1; (try dsimp only); (try k_fold))
  refine wpC_execs_cons (wpC_of ?_)
  (k_with "call type:type" => k_dflt (refine call_type_of (Tx := "bytes") rfl (by decide +kernel) ?_))
  k_steps
  refine wpC_execs_cons (wpC_Assign_Attr (wpC_IfExp ?_))
  k_steps
  rw [arm_eval_Call_Name']
  refine wpC_bindA ?_
  k_steps
  rename Fr g1 _ _ _ => F2
  rename News g1 _ _ _ => N2
  refine wpC_callWith1 (first := []) (x := eval _ _) (wpC_of ?_)
  k_steps
  refine wpAny_pure ?_
  dsimp only
  rw [List.nil_append]
  refine wpC_call (bt_call hbs fun h2 hk2 hS2 => ?_)
  have hy := fun q hq => Heap.lt_size (N2 q hq).1
  have F3 := F2.keeps hk2
  have N3 := news_pushed F2 N2 hk2 hS2 rfl
  clear N2 F2
  dsimp only at hy N3 F3 ⊢
  have hy1 : x < h1.objs.size := hy _ List.mem_cons_self
  clear hy
  generalize h1.objs.size = y at hy1 N3 ⊢
  have o1 : @Ne Nat y dx := Nat.ne_of_gt (Nat.lt_trans hx hy1)
  have o2 : @Ne Nat y x := Nat.ne_of_gt hy1
  have o3 : @Ne Nat x dx := Nat.ne_of_gt hx
  have o6 : ∀ q ∈ rest, q.1 ≠ dx := fun q hq => Nat.ne_of_lt (hr q hq)
  k_steps
  refine wpC_of ?_
  k_steps
  rename Fr g1 _ _ _ => F9
  rename News g1 _ _ _ => N9
  refine lv1 _ _ (leaveK_ F9 N9 fun F8 N8 => ?_)
  exact ret _ _ y (fun i => if i = 0 then _ else _) _ F8 N8 hy1
end
end
section
local macro_rules | `(tactic| k_room) => `(tactic| ((try simp only [depth_mark, depth_under_make, depth_under_kw, depth_in1, depth_deeper, depth_caller]); (try dsimp only [ktrTop]); (simp only [recursionLimit] at *); omega))
local macro_rules | `(tactic| k_units) => `(tactic| ((simp only [units_in1, units_deeper, Around.mark_units, units_caller, cLine_is] at *); (try dsimp only [ktrTop] at *); omega))
local macro_rules | `(tactic| k_all) => `(tactic| assumption)
theorem fill_CG : PySem.Challenge.rw_br5015_01 = PySem.Challenge.rw_br5015_01 ∧ K = K := by
  k_with_none
  k_fill
  exact ⟨rfl, rfl⟩
section
variable {w : World} {A : Around} {E : Value → Shared → Prop} {s : Shared} {R : Result → Shared → Prop}
theorem bio_special : ∀ P, peek (K P) ⟨prg, P⟩ (specialOf (.ref 322) "__call__") = some (some (.builtin "type.__call__")) := fun _ => by kernel_rfl
theorem bio_bind : ∀ P, peek (K P) ⟨prg, P⟩ (bindSpecial (.builtin "type.__call__") (.ref 322)) = some (.builtin "type.__call__", [.ref 322]) := fun _ => by kernel_rfl
theorem bio_mro : ∀ P, peek (K P) ⟨prg, P⟩ (mroOf (.ref 322)) = some [.ref 322, .ref 80, .ref 65, .type "object"] := fun _ => by kernel_rfl
theorem bio_made : ∀ P, peek (K P) ⟨prg, P⟩ (Bind.madeBy (.ref 322)) = some none := fun _ => by kernel_rfl
theorem bio_load : ∀ P, peek (K P) ⟨prg, P⟩ (do let o ← load 322; match o.data with | .cls _ => pure true | _ => pure false) = some true := fun _ => by kernel_rfl
theorem bio_check (b : Array UInt8) (t : Tok) : ∀ P, peek (K P) ⟨prg, P⟩ (checkBuiltinCall "type.__call__" ⟨[.ref 322, .bytes b t], []⟩) = some () := fun _ => by kernel_rfl
end
section
variable {w : World} {mean : ExcName → Option Value} {mg mb : Str → Option Value}
  {dp un : Nat} {gd : Option (List Code)} {cn : Str} {cs : Scope} {a : Addr} {ccd : Value} {cl : List (Str × Addr)} {outer : List Env} {A₀ : Around} {base h₀ : Heap} {L : Addr} {m : Str → Option Value} {rest : List (Addr × Obj)} {s : Shared}
  {R : Result → Shared → Prop}
theorem bio_new {Q E : Value → Shared → Prop} (hB : Below A₀ base outer h₀) (F : Fr h₀ L s.heap m) (X₀ : (K w.params).In h₀) (N : News h₀ L s.heap rest)
  (T : Top topProg lo mean mg mb h₀) (hk : cs.kind = .function) (hd : dp + 60 < recursionLimit) (hu : un + 600 < cLine)
  (ret : ∀ tk', Q (.ref 62) { s with toks := tk' }) : wpAny (model prg w) (ktrTop dp un gd cn cs L a ccd cl outer) (getAttr (.ref 322) "__new__") Q E s := by
  k_steps
  exact ret _
theorem under_made {A : Around} {c : Code} (h : c.weight = 1) (he : c.envs = []) (hg : c.guards = []) (hu : c.cUnits = 1) : A.under c = { A with depth := A.depth + 1, units := A.units + 1 } := by
  obtain ⟨hd, d, fr, gs, u⟩ := A
  simp [Around.under, h, hu, he, hg, pushEnvs, pushGuards]
theorem weight_322 (b : Array UInt8) (t : Tok) : (Code.builtin "type.__call__" ⟨[.ref 322, .bytes b t], []⟩).weight = 1 := by kernel_rfl
theorem envs_322 (b : Array UInt8) (t : Tok) : (Code.builtin "type.__call__" ⟨[.ref 322, .bytes b t], []⟩).envs = [] := by kernel_rfl
theorem guards_322 (b : Array UInt8) (t : Tok) : (Code.builtin "type.__call__" ⟨[.ref 322, .bytes b t], []⟩).guards = [] := by kernel_rfl
theorem cUnits_322 (b : Array UInt8) (t : Tok) : (Code.builtin "type.__call__" ⟨[.ref 322, .bytes b t], []⟩).cUnits = 1 := by kernel_rfl
theorem bio_sub : ∀ P, peek (K P) ⟨prg, P⟩ (isSubtype (.ref 322) (.ref 322)) = some true := fun _ => by kernel_rfl
theorem bio_init : ∀ P, peek (K P) ⟨prg, P⟩ (typeLookup (.ref 322) "__init__") = some (some (.ref 109)) := fun _ => by kernel_rfl
theorem bio_initBind (x : Addr) : ∀ P, peek (K P) ⟨prg, P⟩ (bindSpecial (.ref 109) (.ref x)) = some (.ref 109, [.ref x]) := fun _ => by kernel_rfl
theorem typeOf_inst {M : Model} {A : Around} {E : Value → Shared → Prop} {s : Shared} {Q : Value → Shared → Prop} {x : Addr} {o : Obj} (e : s.heap.get? x = some o) (h : Q o.cls s) : wpAny M A (typeOf (.ref x)) Q E s := by
  show wpAny M A (loadPart x (some headPart) >>= fun o => pure o.cls) Q E s
  exact wpAny_bind (wpAny_loadPart e (wpAny_pure h))
def ob322 (P : Params) : Obj := ((K P).lookup 322).getD emptyDict
theorem ob322_in : ∀ P, (K P).lookup 322 = some (ob322 P) := fun _ => by kernel_rfl
theorem ob322_cls : ∀ P, (ob322 P).data = .cls (cd322 P) := fun _ => by kernel_rfl
theorem call322_C (bs : Array UInt8) (tb : Tok) (hbs : bs.size ≤ sizeLine) (hB : Below A₀ base outer h₀) (F : Fr h₀ L s.heap m) (X₀ : (K w.params).In h₀) (N : News h₀ L s.heap rest)
  (T : Top topProg lo mean mg mb h₀) (hk : cs.kind = .function) (hd : dp + 70 < recursionLimit) (hu : un + 700 < cLine)
  (ret : ∀ h' tk' y x dx u z, Fr h₀ L h' m → News h₀ L h' ((y, baObj bs) :: (x, instObj 322 dx) :: (dx, bdict w.params u y 0 z) :: rest) → x < y → dx < x → (∀ q ∈ rest, q.1 < dx) → R (.ok (.ret (.ref x))) { s with heap := h', toks := tk' }) :
  codeC (model prg w) (ktrTop dp un gd cn cs L a ccd cl outer) (.call (.ref 322) ⟨[.bytes bs tb], []⟩) R s := by
  have X : (K w.params).In s.heap := X₀.keeps F.keep
  refine codeC_of_tree rfl ?_
  show wpC _ _ (callAny (.ref 322) ⟨[.bytes bs tb], []⟩) _ _ s
  simp only [callAny]
  refine wpC_bindA (wpAny_load (X _ _ (ob322_in _)) ?_)
  rw [ob322_cls]
  unfold callAny.viaDunder
  refine wpC_bindA (wpAny_peek X (bio_special _) ?_)
  dsimp only
  refine wpC_bindA (wpAny_peek X (bio_bind _) ?_)
  dsimp only
  refine wpC_eq (a := true) rfl ?_
  rw [if_pos rfl]
  refine wpC_pure ⟨rfl, codeC_of_tree rfl ?_⟩
  show wpC _ _ (do checkBuiltinCall "type.__call__" ⟨[.ref 322, .bytes bs tb], []⟩; again (.builtin "type.__call__" ⟨[.ref 322, .bytes bs tb], []⟩)) _ _ _
  refine wpC_bindA (wpAny_peek X (bio_check _ _ _) ?_)
  refine wpC_pure ⟨Code.quiet_builtin _ (by decide +kernel), codeC_builtin (okC_id (by decide +kernel)) PySem.F.entry_type_call ?_⟩
  rw [under_made (weight_322 _ _) (envs_322 _ _) (guards_322 _ _) (cUnits_322 _ _)]
  show wpC _ (ktrTop (dp + 1) (un + 1) gd cn cs L a ccd cl outer) _ _ _ _
  unfold Builtin.«type.__call__»
  dsimp only
  rw [if_neg (by decide)]
  refine wpC_bindA (wpAny_peek X (bio_mro _) ?_)
  rw [if_neg (by decide)]
  refine wpC_bindA (wpAny_peek X (bio_made _) ?_)
  dsimp only
  have hB' : Below A₀ base outer h₀ := hB
  refine' wpC_bindA (bio_new hB F X₀ N T hk ?kd ?ku fun tk1 => ?_)
  case kd => omega
  case ku => omega
  refine' wpC_bindA (wpAny_holding (new_spec _ _ _ _ _ _ _ _ _ _ _ _ _ _ _ _ _ _ _ _ _ _ _ _ hB F X₀ N T hk ?kd ?ku fun h1 tk2 x dx F1 N1 hr hx => ?_))
  case kd => omega
  case ku => omega
  have X1 : (K w.params).In h1 := X₀.keeps F1.keep
  have hx1 := (N1 _ List.mem_cons_self).1
  dsimp only
  unfold isInstance
  refine wpC_bindA (wpAny_bind (typeOf_inst hx1 (wpAny_peek X1 (bio_sub _) ?_)))
  rw [if_neg (by decide)]
  unfold callSpecial? specialOf
  refine wpC_bind (wpC_holding ?_)
  refine wpC_bindA (wpAny_bind (typeOf_inst hx1 (wpAny_peek X1 (bio_init _) ?_)))
  refine wpC_holding (wpC_bindA (wpAny_peek X1 (bio_initBind _ _) ?_))
  dsimp only
  refine' wpC_bind (wpC_call (init_C bs tb x dx hbs hB F1 X₀ N1 hx hr T hk ?kd ?ku fun h2 tk3 y u z F2 N2 hy => ?_))
  case kd => omega
  case ku => omega
  refine wpC_pure ?_
  dsimp only
  rw [if_neg (by decide)]
  refine wpC_pure ?_
  exact ret _ _ y x dx u z F2 N2 hy hx hr
end
end
section
local macro_rules | `(tactic| k_room) => `(tactic| ((try simp only [depth_mark, depth_under_make, depth_under_kw, depth_in1, depth_deeper, depth_caller]); (try dsimp only [ktrTop]); (simp only [recursionLimit] at *); omega))
local macro_rules | `(tactic| k_units) => `(tactic| ((simp only [units_in1, units_deeper, Around.mark_units, units_caller, cLine_is] at *); (try dsimp only [ktrTop] at *); omega))
local macro_rules | `(tactic| k_all) => `(tactic| assumption)
theorem fill_CGa : PySem.Challenge.rw_br5015_01 = PySem.Challenge.rw_br5015_01 ∧ K = K := by
  k_with_none
  k_fill
  exact ⟨rfl, rfl⟩
theorem bt_slot_len : Slot "bytearray" "__len__" "bytearray.__len__" :=
  .of (owner := "bytearray") (n := "__len__") (by rw [typeLookup_type, builtinLookup_eq_fast]; kernel_rfl) (by decide +kernel) (by decide +kernel) (by decide +kernel)
    (by first | exact .inl (by decide +kernel) | exact .inr (by decide +kernel)) (by rw [isSubtype_type]; kernel_rfl)
theorem bt_entry_len : entryFor table "bytearray.__len__" = some Builtin.«bytearray.__len__» := by first | exact entryFor_of_fast (by kernel_rfl) | exact entryFor_of_tree (by kernel_rfl)
theorem bt_args_len (v : Value) : argsOk "bytearray.__len__" ⟨[v], []⟩ := by unfold argsOk; kernel_rfl
section
variable {prog : Program} {w : World} {A : Around} {E : Value → Shared → Prop} {s : Shared}
theorem call_len_bt {l : Addr} {b : Array UInt8} {Q : Value → Shared → Prop} (hl : s.heap.get? l = some (baObj b)) (hfit : (b.size : Int) < 2 ^ 63)
    (h : Q (.int b.size (s.toks + 1)) { s with toks := s.toks + 1 + 1 }) : wpAny (model prog w) A (call (.builtin "len") [.ref l]) Q E s := by
  have hT : s.TypeIs (.ref l) "bytearray" := ⟨_, hl, rfl⟩
  refine call_function_entry kind_len plain_len entry_len (args_len1 _) ?_
  unfold Builtin.«len»
  refine wpAny_bind (m := oneArg "len" _) (wpAny_pure ?_)
  refine wpAny_bind (m := callSpecial? (.ref l) (Str.ofString "__len__")) (wpAny_callSpecial?_slot (name := Str.ofString "__len__") hT bt_slot_len
    (wpAny_call_entry bt_slot_len hT bt_entry_len ?_ (bt_args_len _)))
  · unfold Builtin.«bytearray.__len__»
    refine wpAny_bind (wpAny_of_eq (a := (Value.ref l, [])) rfl ?_)
    dsimp only
    unfold Builtin.Bytes.payload Builtin.Bytes.payload?
    refine wpAny_bind (wpAny_bind (wpAny_bind (wpAny_load hl ?_)))
    dsimp only [baObj]
    refine wpAny_pure (wpAny_pure (wpAny_bind (wpAny_mkInt (wpAny_pure ⟨_, rfl, ?_⟩))))
    refine wpAny_bind (wpAny_holding (wpAny_pure ?_))
    refine wpAny_bind (wpAny_letGo ?_)
    show wpAny _ _ (if ((b.size : Nat) : Int) < 0 then _ else _) _ _ _
    rw [if_neg (by omega)]
    show wpAny _ _ (if ((b.size : Nat) : Int) ≥ 2 ^ 63 then _ else _) _ _ _
    rw [if_neg (by omega)]
    exact wpAny_bind (wpAny_mkInt (wpAny_pure ⟨_, rfl, h⟩))
end
end
section
local macro_rules | `(tactic| k_room) => `(tactic| ((try simp only [depth_mark, depth_under_make, depth_under_kw, depth_in1, depth_deeper, depth_caller]); (try dsimp only [ktrTop]); (simp only [recursionLimit] at *); omega))
local macro_rules | `(tactic| k_units) => `(tactic| ((simp only [units_in1, units_deeper, Around.mark_units, units_caller, cLine_is] at *); (try dsimp only [ktrTop] at *); omega))
local macro_rules | `(tactic| k_all) => `(tactic| assumption)
theorem fill_CH : PySem.Challenge.rw_br5015_01 = PySem.Challenge.rw_br5015_01 ∧ K = K := by
  k_with_none
  k_fill
  exact ⟨rfl, rfl⟩
abbrev fbLed (P : Params) (ks kd C X D Y B BD : Addr) (bs : Array UInt8) (t u : Nat → Tok) (t0 z1 z2 z3 : Tok) (rest : List (Addr × Obj)) : List (Addr × Obj) :=
  (ks, instObj 615 kd) :: (kd, dictOf [⟨PyData.keyHash P (Str.ofString "_io"), .str (Str.ofString "_io") t0, .ref X⟩] 1) :: (C, PySem.W.listOf #[] 0) :: (X, instObj 1047 D) :: (D, sdict P t z1 z2 B C .none) :: (Y, baObj bs) :: (B, instObj 322 BD) :: (BD, bdict P u Y 0 z3) :: rest
/-- the order in which from_bytes lays its objects -/
structure FbOrd (ks kd C X D Y B BD : Addr) (rest : List (Addr × Obj)) : Prop where
  a1 : kd < ks
  a2 : C < kd
  a3 : X < C
  a4 : D < X
  a5 : Y < D
  a6 : B < Y
  a7 : BD < B
  a8 : ∀ q ∈ rest, q.1 < BD
section
variable {w : World} {mean : ExcName → Option Value} {mg mb : Str → Option Value}
  {dp un : Nat} {gd : Option (List Code)} {cn : Str} {cs : Scope} {a : Addr} {ccd : Value} {cl : List (Str × Addr)} {outer : List Env} {A₀ : Around} {base h₀ : Heap} {L : Addr} {m : Str → Option Value} {rest : List (Addr × Obj)} {s : Shared}
  {R : Result → Shared → Prop}
theorem keep_cls (n : Addr) {A : Around} {s : Shared} {Q : Keeper → Shared → Prop} {E : Value → Shared → Prop} (X : (K w.params).In s.heap) (e : peek (K w.params) ⟨prg, w.params⟩ (keeperOf (.ref n)) = some .machine) (h : Q .machine s) : wpAny (model prg w) A (keeperOf (.ref n)) Q E s := wpAny_peek X e h
theorem keep322 : ∀ P, peek (K P) ⟨prg, P⟩ (keeperOf (.ref 322)) = some .machine := fun _ => by kernel_rfl
theorem keep1047 : ∀ P, peek (K P) ⟨prg, P⟩ (keeperOf (.ref 1047)) = some .machine := fun _ => by kernel_rfl
theorem keep615 : ∀ P, peek (K P) ⟨prg, P⟩ (keeperOf (.ref 615)) = some .machine := fun _ => by kernel_rfl
theorem fb_C (bs : Array UInt8) (tb : Tok) (hbs : bs.size = 4) (hB : Below A₀ base outer h₀) (F : Fr h₀ L s.heap m) (X₀ : (K w.params).In h₀) (N : News h₀ L s.heap rest)
  (T : Top topProg lo mean mg mb h₀) (hk : cs.kind = .function) (hd : dp + 120 < recursionLimit) (hu : un + 1200 < cLine)
  (ret : ∀ h' tk' ks kd C X D Y B BD t u t0 z1 z2 z3, Fr h₀ L h' m → News h₀ L h' (fbLed w.params ks kd C X D Y B BD bs t u t0 z1 z2 z3 rest) → FbOrd ks kd C X D Y B BD rest → R (.ok (.ret (.ref ks))) { s with heap := h', toks := tk' }) :
  codeC (model prg w) (ktrTop dp un gd cn cs L a ccd cl outer) (.call (.ref 599) ⟨[.ref 615, .bytes bs tb], []⟩) R s := by
  have hbs1 : bs.size ≤ sizeLine := by rw [hbs]; decide
  k_dflt (refine' enterC ?k1 ?k2 ?k3 ?k4 ?k5 ?kA ?kF ?kK ?k6 ?k7 ?k8 ?k9 ?kB ?_ ?c2 ?c3 ?c4 ?c5; (case kA => exact rfl); (case kF => exact rfl); (case kK => assumption); (case k1 => k_asm); (case k2 => k_asm); (case k3 => k_asm); (case k4 => k_asm); (case k5 => k_asm); (case k6 => k_is); (case k7 => k_is); (case k8 => k_room); (case k9 => first | exact BindsTo.of_eq rfl | exact binds_K (by k_in) rfl (by k_is) rfl rfl rfl | fail "kc_enter: no rule for these arguments"); (case c5 => decide); (case kB => exact locs rfl); (case c2 => exact rfl); (case c3 => exact rfl); (case c4 => exact rfl); k_whole; intro g1 L1 h1 FG1 F1 N1 B1 X1 T1 lv1 kp1; (try dsimp only); (try k_fold))
  refine wpC_execs_cons (wpC_Return ?_)
  rw [arm_eval_Call_Name']
  refine wpC_bindA ?_
  k_steps
  refine wpC_callWith1 (first := []) (x := eval _ _) ?_
  rw [arm_eval_Call_Name']
  refine wpC_bindA ?_
  k_steps
  refine wpC_callWith1 (first := []) (x := eval _ _) ?_
  rw [arm_eval_Call_Name']
  refine wpC_bindA ?_
  k_steps
  refine wpC_callWith1 (first := []) (x := eval _ _) (wpC_of ?_)
  k_steps
  rename Fr g1 _ _ _ => F2
  rename News g1 _ _ _ => N2
  refine keep_cls 322 (X1.keeps F2.keep) (keep322 _) ?_
  dsimp only
  rw [List.nil_append]
  refine' wpC_call (call322_C bs tb hbs1 B1 F2 X1 N2 T1 ?kk ?kd ?ku fun h3 tk3 y x dx u z F3 N3 o1 o2 o3 => ?_)
  case kk => rfl
  case kd => k_room
  case ku => k_units
  clear N2 F2
  dsimp only
  refine keep_cls 1047 (X1.keeps F3.keep) (keep1047 _) ?_
  dsimp only
  rw [List.nil_append]
  refine wpC_of ?_
  have n1 : @Ne Nat y dx := Nat.ne_of_gt (Nat.lt_trans o2 o1)
  have n2 : @Ne Nat y x := Nat.ne_of_gt o1
  have n3 : @Ne Nat x dx := Nat.ne_of_gt o2
  have n6 : ∀ q ∈ rest, q.1 ≠ dx := fun q hq => Nat.ne_of_lt (o3 q hq)
  (k_with "call builtin:len" => k_dflt (refine' call_len_bt (b := bs) ?kl ?kf ?_; (case kl => exact News.get (by k_asm) (by k_mem)); (case kf => (rw [hbs]; decide)); (try rw [hbs]); (try dsimp only)))
  k_steps
  rename Fr g1 _ _ _ => F4
  rename News g1 _ _ _ => N4
  refine keep_cls 615 (X1.keeps F4.keep) (keep615 _) ?_
  dsimp only
  rw [List.nil_append]
  refine wpC_of ?_
  k_steps
  rename Fr g1 _ _ _ => F5
  rename News g1 _ _ _ => N5
  rename (y < _ ∧ x < _ ∧ dx < _ ∧ AllLt _ rest) => e1
  rename (_ < _ ∧ _ < _ ∧ y < _ ∧ x < _ ∧ dx < _ ∧ AllLt _ rest) => e2
  rename (_ < _ ∧ _ < _ ∧ _ < _ ∧ y < _ ∧ x < _ ∧ dx < _ ∧ AllLt _ rest) => e3
  rename (_ < _) => e4
  rename (_ < _) => e5
  refine lv1 _ _ (leaveK_ F5 N5 fun F6 N6 => ?_)
  refine ret _ _ _ _ _ _ _ _ _ _ (fun i => if i = 0 then _ else if i = 1 then _ else if i = 2 then _ else if i = 3 then _ else if i = 4 then _ else if i = 5 then _ else if i = 6 then _ else if i = 7 then _ else _) (fun i => if i = 0 then _ else _) _ _ _ _ F6 N6 ?_
  exact ⟨by assumption, e3.1, e2.1, by assumption, e1.1, o1, o2, o3⟩
end
end
section
local macro_rules | `(tactic| k_room) => `(tactic| ((try simp only [depth_mark, depth_under_make, depth_under_kw, depth_in1, depth_deeper, depth_caller]); (try dsimp only [ktrTop]); (simp only [recursionLimit] at *); omega))
local macro_rules | `(tactic| k_units) => `(tactic| ((simp only [units_in1, units_deeper, Around.mark_units, units_caller, cLine_is] at *); (try dsimp only [ktrTop] at *); omega))
local macro_rules | `(tactic| k_all) => `(tactic| assumption)
theorem fill_CI : PySem.Challenge.rw_br5015_01 = PySem.Challenge.rw_br5015_01 ∧ K = K := by
  k_with_none
  k_fill
  exact ⟨rfl, rfl⟩
theorem int_no_bytes : typeLookup (.type "int") "__bytes__" = pure none := by rw [typeLookup_type, builtinLookup_eq_fast]; kernel_rfl
theorem int_index : typeLookup (.type "int") "__index__" = pure (some (.builtin "int.__index__")) := by rw [typeLookup_type, builtinLookup_eq_fast]; kernel_rfl
section
variable {prog : Program} {w : World} {A : Around} {E : Value → Shared → Prop} {s : Shared}
theorem b4_new {ti : Tok} {Q : Value → Shared → Prop}
    (hQ : ∀ b t, b.size = 4 → Q (.bytes b t) { s with toks := s.toks + 1 }) :
    codeAny (model prog w) A (.call (.builtin "bytes.__new__") ⟨[.type "bytes", .int 4 ti], []⟩) (wants Q E) s := by
  refine codeAny_of_tree ?_
  show wpAny _ A.in1 (do checkBuiltinCall "bytes.__new__" ⟨[.type "bytes", .int 4 ti], []⟩; again (.builtin "bytes.__new__" ⟨[.type "bytes", .int 4 ti], []⟩)) _ _ s
  refine wpAny_bind (wpAny_of_eq (PySem.F.bm_newCall _) (wpAny_pure ⟨plainId_quiet PySem.F.bm_plain _, codeAny_builtin PySem.F.bm_entry ?_⟩))
  rw [Around.under_plainId PySem.F.bm_plain _]
  have hT : ∀ s' : Shared, s'.TypeIs (.int 4 ti) "int" := fun _ => rfl
  unfold Builtin.«bytes.__new__»
  refine wpAny_bind (wpAny_of_eq (a := true) rfl ?_)
  refine PySem.bm_if_false rfl ?_
  refine wpAny_bind (wpAny_of_eq PySem.F.bm_sub ?_)
  refine PySem.bm_if_false rfl ?_
  refine wpAny_bind (wpAny_of_eq (PySem.F.bm_bind _) ?_)
  refine wpAny_bind (wpAny_of_eq (a := ()) rfl ?_)
  refine wpAny_bind (wpAny_of_eq (a := ()) rfl ?_)
  refine PySem.bm_if_false rfl ?_
  refine wpAny_bind (wpAny_specialOf (hT _) int_no_bytes ?_)
  refine wpAny_bind (wpAny_of_eq (a := false) rfl ?_)
  refine PySem.bm_if_false rfl ?_
  refine wpAny_bind (wpAny_specialOf (hT _) int_index ?_)
  refine PySem.bm_if_false rfl ?_
  refine wpAny_bind (wpAny_of_eq (a := Except.ok 4) rfl ?_)
  dsimp only
  refine PySem.bm_if_false (by decide +kernel) ?_
  rw [if_neg (by decide), if_neg (by decide)]
  refine PySem.bm_if_false (by decide +kernel) ?_
  refine wpAny_bind (wpAny_rule ?_)
  refine wpAny_bind (wpAny_mkBytes ?_ (by decide))
  exact wpAny_pure (hQ _ _ (by decide))
theorem call_b4 {ti : Tok} {Q : Value → Shared → Prop} (hQ : ∀ b t, b.size = 4 → Q (.bytes b t) { s with toks := s.toks + 1 }) : wpAny (model prog w) A (call (.type "bytes") [.int 4 ti]) Q E s := by
  refine callType_codes (Q₁ := fun obj s₁ => s₁.TypeIs obj "bytes" ∧ Q obj s₁) PySem.F.bm_called (PySem.F.bm_typeCall _) PySem.F.entry_object_init
    (b4_new fun b t hb => ⟨PySem.W.typeIs_bytes _ _ _, hQ b t hb⟩) fun obj s₁ h₁ => ?_
  exact ⟨h₁.1, PySem.F.args_object_init_2 obj _, object_init_meets PySem.F.bm_called.init.lookup PySem.F.bm_called.made (by decide) prog w A.in1 _ s₁ ⟨h₁.1, rfl, h₁.2⟩⟩
end
end
section
local macro_rules | `(tactic| k_room) => `(tactic| ((try simp only [depth_mark, depth_under_make, depth_under_kw, depth_in1, depth_deeper, depth_caller]); (try dsimp only [ktrTop]); (simp only [recursionLimit] at *); omega))
local macro_rules | `(tactic| k_units) => `(tactic| ((simp only [units_in1, units_deeper, Around.mark_units, units_caller, cLine_is] at *); (try dsimp only [ktrTop] at *); omega))
local macro_rules | `(tactic| k_all) => `(tactic| assumption)
theorem fill_CT : PySem.Challenge.rw_br5015_01 = PySem.Challenge.rw_br5015_01 ∧ K = K := by
  k_with_none
  k_fill
  exact ⟨rfl, rfl⟩
/-! the top in the clean logic: the claim's caller stands alone on its stack -/
theorem ends_C {prog : Program} {w : World} {t : Sem Fin} {s : Shared} {R : Result → Shared → Prop} (hreg : s.asleep)
    (h : wpC (model prog w) callerA t (fun fin s' => ∃ f, fin = .done f ∧ (R (.ok f) s' ∧ leftWithCleanup s'.gens = false)) (fun e s' => R (.error e) s' ∧ leftWithCleanup s'.gens = false) s) :
    ∃ n r s' s'', runN (denote table) prog w n s ⟨t, .builtin "claim.caller" {}, default, []⟩ = .halted (outcomeOf r) s' ∧
      schedN (denote table) prog w n (.single s ⟨t, .builtin "claim.caller" {}, default, []⟩) = .halted (outcomeOf r) s' ∧ s'.forget = s''.forget ∧ R r s'' := by
  have h0 := h ⟨.builtin "claim.caller" {}, none, none, [], none⟩ default caller_in (by decide +kernel) (by intro x hx; cases hx)
  obtain ⟨n, r, s₁, s₂, hs, hn, hfo, hR⟩ := wp_halts_full (M := model prog w) (R := R) hreg (Sem.wp_mono _ _ t (fun fin p' s' h' => by
    obtain ⟨f, rfl, hf⟩ := h'
    exact hf) (fun _ _ _ h' => h') _ _ h0)
  exact ⟨n, r, s₂, s₁, hn, hs, hfo, hR⟩
theorem callFrom_C {c : ClaimW} {tree : List Value → Sem Fin} {w : World} {s : Shared} {free : Addr → Prop} {gens : Prop} {kept : Heap → Prop} (hz : s.asleep) (hgens : s.gens = #[])
    (hspec : ∀ args, c.pre args = true → WData.layableAll args = true →
      ∀ ord : List DictEntry → List DictEntry, (∀ l, (ord l).Perm l) →
      ∃ vs s₁, layAllW c.records (classAt s.heap) w.params ord args s = some (vs, s₁) ∧
        wpC (model c.prog w) callerA (tree vs) (fun fin s' => ∃ f, fin = .done f ∧ (c.Ends s args vs s₁ (.ok f) s' ∧ s'.os = s.os ∧ AllBare s'.gens ∧ kept s'.heap))
          (fun e s' => c.Ends s args vs s₁ (.error e) s' ∧ s'.os = s.os ∧ AllBare s'.gens ∧ kept s'.heap) s₁) :
    c.CallFrom (fun vs => ⟨tree vs, .builtin "claim.caller" {}, default, []⟩) w free gens kept s := by
  intro args hpre hlay ord hord
  obtain ⟨vs, s₁, hlaid, hcode⟩ := hspec args hpre hlay ord hord
  have hal := layAllW_rest _ _ _ hlaid
  obtain ⟨k, r, s', s'', hrun, hsched, hfo, hcase, hos, hkp⟩ := ends_C (prog := c.prog) (w := w) (t := tree vs) (s := s₁)
    (R := fun r s' => c.Ends s args vs s₁ r s' ∧ s'.os = s.os ∧ kept s'.heap) (Shared.asleep_of_life hal.2.2.2 hz)
    (wpC_mono hcode (by
      rintro fin s' ⟨f, e, h1, h2, h3, h4⟩
      exact ⟨f, e, ⟨h1, h2, h4⟩, leftWithCleanup_false_of_bare h3⟩) (by
      rintro e s' ⟨h1, h2, h3, h4⟩
      exact ⟨⟨h1, h2, h4⟩, leftWithCleanup_false_of_bare h3⟩))
  obtain ⟨eh, _, _, eo, _⟩ := Shared.forget_eq hfo
  have hcase := hcase.congr eh
  have hkp : kept s'.heap := by first | exact eh ▸ hkp | (rw [eh] at hkp; exact hkp) | (rw [← eh] at hkp; exact hkp)
  rw [← eo] at hos
  have hlife : s'.heap.life = s.heap.life := (runN_life _ _ _ hrun).trans hal.2.2.2
  refine ⟨vs, s₁, hlaid, k, _, s', hsched, ?_, (fun _ i x hx => by rw [hgens] at hx; simp at hx), hkp, by rw [hlife], Shared.rest_eq hos⟩
  rcases hcase with ⟨v, rfl, d1, d2, d3, d4, d5⟩ | ⟨e, ob, cls, rfl, d1, d2, d3, d4, d5⟩
  · exact .inl ⟨v, rfl, d1, d2, d3, fun b o y _ => d4 b o y, d5⟩
  · exact .inr ⟨e, ob, cls, rfl, d1, d2, d3, d4, fun b o y _ => d5 b o y⟩
/-- what the walk of the law owes, in the clean logic -/
abbrev WalkC (q : Program) (loose : List Str) (XP : (Str → Option Value) → Heap → Prop) (YP : World → Heap → Prop) (r : RowW) (d : DefRec) (kwd : List (Str × Expr)) : Prop :=
  ∀ (w : World) (s₀ s₁ : Shared) (mg mb : Str → Option Value), Ground q loose r.records XP w s₀ mg mb s₁.heap → YP w s₁.heap → ∀ (a : Addr) (o : Obj) (pm cd doc dV kV : Value), s₁.heap.get? a = some o →
    o.data = .func { docDef d.name d.params d.body d.scope pm cd doc with defaults := dV, kwdefaults := kV } → s₁.heap.CodeRec cd d.name → Dflts mg s₁.heap d.params kwd dV kV → mg d.name = some (.ref a) → s₁.gens = #[] →
    ∀ (args : List WData) (vals : List Value) (as : List Addr), r.claim.pre args = true → WData.layableAll args = true → ReadsAllW r.records (classAt s₀.heap) s₁.heap vals args as → WellAll w.params s₁.heap vals args → (∀ a ∈ as, (a == sysModules) = false) →
      wpC (model r.prog w) callerA (PySem.call (.ref a) vals) (fun v s' => GoodWG r.claim (classAt s₀.heap) (ExcName.means s₀.heap) args s₁ (.ok (.ret v)) s')
        (fun e s' => GoodWG r.claim (classAt s₀.heap) (ExcName.means s₀.heap) args s₁ (.error e) s') s₁
theorem holds_C {r : OpenRow} {q : Program} {loose : List Str} {Xt : Shared → Bool} {XP : (Str → Option Value) → Heap → Prop} {α : Type} {Yf : Shared → α} {Ya : World → α} {YP : World → Heap → Prop} {d : DefRec} {kwd : List (Str × Expr)} {N : Nat}
    (left : LeftO r.prog q loose Xt Yf Ya N) (hY : ∀ w s, Yf s = Ya w → YP w s.heap) (hYk : ∀ w h h', YP w h → (∀ b o, h.get? b = some o → h'.get? b = some o) → YP w h')
    (hX : ∀ s, Xt s = true → XP (s.heap.nsMap mainGlobals) s.heap) (hXk : ∀ mg h h', XP mg h → (∀ b o, h.get? b = some o → h'.get? b = some o) → XP mg h')
    (hdef : defOf q r.name = some (d, kwd)) (hp : r.prog.theDef r.name = some (d.params, d.body, d.scope)) (hk : kwWritten? d.params.kwonlyargs d.params.kw_defaults = some kwd) (hRf : ∀ s, Xt s = true → RecFacts r.records s.heap) (hwr : (!r.writes || r.records.isEmpty) = true)
    (k1 : r.wellSaid = true) (ok : (chainsOk q && opensWell r.prog && (frees r.toRowW && r.within.isEmpty)) = true) (hb : r.prog.bare) (hw : r.toRowW.promised)
    (call : WalkC q loose XP YP r.toRowW d kwd) : r.Holds := by
  refine ⟨k1, hw, ?_⟩
  obtain ⟨ok, k5⟩ := Bool.and_eq_true_iff.mp ok
  obtain ⟨hch, o1⟩ := Bool.and_eq_true_iff.mp ok
  obtain ⟨k5, k6⟩ := Bool.and_eq_true_iff.mp k5
  obtain ⟨hsame, hu, ha, hap, hm⟩ := frees_parts k5
  refine ⟨⟨hb, o1, by show r.toRowW.makers.map _ = []; rw [hm]; rfl⟩, hw.witness, fun w => ⟨(left.behind hX hch w).1, fun s' hs' => ?_⟩⟩
  obtain ⟨s₀, hf, hg0, s, hT, hz, hgens, hg, G00, y⟩ := (left.behind (XP := fun mg h => XP mg h ∧ RecFacts r.records h) (fun s hs => ⟨hX s hs, hRf s hs⟩) hch w).2 s' hs'
  have G0 : Ground q loose [] XP w s (s.heap.nsMap mainGlobals) (s.heap.nsMap builtinsNs) s.heap := ⟨G00.T, G00.B, G00.D, G00.TE, G00.TD, G00.W, G00.X.1, G00.cls, G00.has, G00.apart, G00.once, G00.K⟩
  have RF := G00.X.2
  have hT' := hT
  refine ⟨s₀, hf, hg0, s, hT, fun n hn => ?_, RF.1, RF.2.1, ?_⟩
  · obtain rfl : n = r.name := by split at hn <;> simp_all
    exact pinned_of_view hg G0 hdef hp hk
  have hgens : s.gens = #[] := Array.eq_empty_of_size_eq_zero (beq_iff_eq.mp hgens)
  have G : Ground q loose r.toRowW.records XP w s _ _ s.heap := RF.ground G0
  refine callFrom_C (c := r.toRowW.claim) hz hgens fun args hpre hlay ord hord => ?_
  obtain ⟨⟨vs, s₁⟩, hlaid⟩ := Option.isSome_iff_exists.mp (layAllW_isSome (P := w.params) (ord := ord) G.has args r.toRowW.args s (pre_splitW hpre).1)
  have keeps := layAllW_keeps _ _ _ hlaid
  have hal := layAllW_rest _ _ _ hlaid
  obtain ⟨as, hrd, hin, hold⟩ := reads_layAllW hord _ _ _ hlaid hlay s₁.heap (fun _ _ e => e)
  have L : Laid r.toRowW.records w s s₁ args vs as := ⟨⟨ord, hord, hlaid⟩, hrd, hin, hold, keeps, hal.1.trans hgens, hal.2.2.1⟩
  have G₁ := G.keeps hXk keeps
  obtain ⟨a, o, pm, cd, doc, dV, kV, h1, h2, h3, h4, h5⟩ := G₁.fn hdef
  have h := call w s s₁ _ _ G₁ (hYk _ _ _ (hY w s y) keeps) a o pm cd doc dV kV h2 h3 h4 h5 (defOf_name hdef ▸ h1) L.gens args vs as hpre hlay L.reads L.well (L.low G.low)
  have hi := ident_freeW hu ha hap
  have hwi : r.toRowW.claim.within = [] := List.isEmpty_iff.mp k6
  refine ⟨vs, s₁, hlaid, ?_⟩
  refine wpC_bindA (wpAny_nsGet G₁.T.g ?_)
  rw [h1]
  refine wpC_bind (wpC_mono h (fun v s' g => wpC_pure ⟨_, rfl, ?_⟩) fun e s' g => ?_)
  · have z := g.laid (c := r.toRowW.claim) hsame hwi hi L
    exact ⟨z.1, z.2.1, z.2.2, fun q => ⟨namesKept_of hT' hg _ keeps g.2.1.old, noTable hwr q⟩⟩
  · have z := g.laid (c := r.toRowW.claim) hsame hwi hi L
    exact ⟨z.1, z.2.1, z.2.2, fun q => ⟨namesKept_of hT' hg _ keeps g.2.1.old, noTable hwr q⟩⟩
end
section
local macro_rules | `(tactic| k_room) => `(tactic| ((try simp only [depth_mark, depth_under_make, depth_under_kw, depth_in1, depth_deeper, depth_caller]); (try dsimp only [ktrTop]); (simp only [recursionLimit] at *); omega))
local macro_rules | `(tactic| k_units) => `(tactic| ((simp only [units_in1, units_deeper, Around.mark_units, units_caller, cLine_is] at *); (try dsimp only [ktrTop] at *); omega))
local macro_rules | `(tactic| k_all) => `(tactic| assumption)
theorem fill_CU : PySem.Challenge.rw_br5015_01 = PySem.Challenge.rw_br5015_01 ∧ K = K := by
  k_with_none
  k_fill
  exact ⟨rfl, rfl⟩
theorem enter_callC {M : Model} {A : Around} {s : Shared} {f : Value} {pos : List Value} {kw : List (Str × Value)} {c : ClaimW} {cl : Str → Option Addr} {mean : ExcName → Option Value} {args : List WData} {s₁ : Shared}
    (h : codeC M A (.call f ⟨pos, kw⟩) (GoodWG c cl mean args s₁) s) : wpC M A (PySem.call f pos kw) (fun v s' => GoodWG c cl mean args s₁ (.ok (.ret v)) s') (fun e s' => GoodWG c cl mean args s₁ (.error e) s') s :=
  wpC_call (codeC_mono h fun res s' g => by rcases g.1 with ⟨v, _, _, rfl, _⟩ | ⟨e, _, _, rfl, _⟩ <;> exact g)
/-- what `kn_post` says of one result, by a model in which every code ends with it -/
theorem kn_imp {s₁ : Shared} {cw : ClaimW} {cl : Str → Option Addr} {mean : ExcName → Option Value} {args : List WData} {tabs : List (Addr × Addr)} (prog : Program) (w : World) (hT : TabsAt tabs s₁.heap) (hr : ∀ a x, cw.raises a x = false) (r : Result) (s' : Shared)
    (h : GoodW cw cl mean args { s₁ with heap := ghostOf s₁.heap tabs } r s' ∧ GrownAll tabs s'.heap) : GoodWG cw cl mean args s₁ r s' := by
  have k := kn_post (M := { den := fun _ => (match r with | .ok f => pure (.done f) | .error e => throw e : Sem Fin), prog := prog, w := w }) (A := callerA) (cd := .builtin "claim.caller" {}) (s := s') (s₁ := s₁) (cw := cw) (cl := cl) (mean := mean) (args := args) (tabs := tabs) hT hr
  have k1 := k (fun Γ p hc hΓ => by
    rw [wpCode_iff_wp]
    cases r with
    | ok f => exact h
    | error e => exact h) ⟨.builtin "claim.caller" {}, none, none, [], none⟩ default rfl ⟨rfl, by decide, fun l hl => by cases hl; rfl, fun g hg => by cases hg; rfl, by decide⟩
  rw [wpCode_iff_wp] at k1
  cases r with
  | ok f => exact k1
  | error e => exact k1
theorem kn_postC {prog : Program} {w : World} {A : Around} {cd : Code} {s s₁ : Shared} {cw : ClaimW} {cl : Str → Option Addr} {mean : ExcName → Option Value} {args : List WData} {tabs : List (Addr × Addr)} (hT : TabsAt tabs s₁.heap) (hr : ∀ a x, cw.raises a x = false)
    (h : codeC (model prog w) A cd (fun r s' => GoodW cw cl mean args { s₁ with heap := ghostOf s₁.heap tabs } r s' ∧ GrownAll tabs s'.heap) s) : codeC (model prog w) A cd (GoodWG cw cl mean args s₁) s :=
  codeC_mono h fun r s' h' => kn_imp prog w hT hr r s' h'
theorem call_fullC {prog : Program} {w : World} {A : Around} {R : Result → Shared → Prop} {s : Shared} {name : Str} {params : Arguments} {body : List Stmt} {scope : Scope}
    {dV kV pm cd doc : Value} {a : Addr} {o : Obj} {args : Args} {binds : List (Str × Value)}
    (hroom : A.depth < recursionLimit) (ho : s.heap.get? a = some o) (hdata : o.data = .func { docDef name params body scope pm cd doc with defaults := dV, kwdefaults := kV }) (hlim : s.heap.NoLimit) (hcd : s.heap.CodeRec cd name)
    (hbind : BindsTo s { docDef name params body scope pm cd doc with defaults := dV, kwdefaults := kV } args binds)
    (hloc : ∀ x ∈ binds, scope.names.lookup x.1 = some .local)
    (h : ∀ h₁, Fr s.heap s.heap.objs.size h₁ (fun x => binds.reverse.lookup x) →
      wpC (model prog w) (A.deeper (envOf name scope s.heap.objs.size a cd)) (execs body (envOf name scope s.heap.objs.size a cd))
        (fun f s' => R (.ok (.ret (match f with | .ret v => v | _ => .none))) s')
        (fun e s' => wpAny (model prog w) (A.deeper (envOf name scope s.heap.objs.size a cd)) (leaving (envOf name scope s.heap.objs.size a cd) e)
          (fun _ s'' => R (.error e) s'') (fun e' s'' => R (.error e') s'') s')
        { s with heap := h₁, toks := s.toks + binds.length })
    (hco : scope.isCoroutine = false := by rfl) (hgen : scope.isGenerator = false := by rfl) (hk : scope.kind = .function := by rfl)
    (hcell : ∀ x ∈ scope.names, x.2 ≠ .cell := by decide) :
    codeC (model prog w) A (.call (.ref a) args) R s :=
  codeC_call_def hroom ho hdata hlim hcd rfl hbind hcell hloc (fun h₁ hns hkeep => h h₁ ⟨hns, hkeep, Nat.le_refl _⟩) hco hgen hk
end
section
local macro_rules | `(tactic| k_room) => `(tactic| ((try simp only [depth_mark, depth_under_make, depth_under_kw, depth_in1, depth_deeper, depth_caller]); (try dsimp only [ktrTop]); (simp only [recursionLimit] at *); omega))
local macro_rules | `(tactic| k_units) => `(tactic| ((simp only [units_in1, units_deeper, Around.mark_units, units_caller, cLine_is] at *); (try dsimp only [ktrTop] at *); omega))
local macro_rules | `(tactic| k_all) => `(tactic| assumption)
theorem fill_CW : PySem.Challenge.rw_br5015_01 = PySem.Challenge.rw_br5015_01 ∧ K = K := by
  k_with_none
  k_fill
  exact ⟨rfl, rfl⟩
/-! a list comprehension in the clean logic: its turns, with an invariant over ledgers -/
section
variable {prog : Program} {w : World} {A : Around} {s : Shared} {h₀ : Heap} {L : Addr} {m : Str → Option Value} {env cenv : Env} {R : Result → Shared → Prop}
theorem compLoop_C {elt iter : Expr} {x : Str} {px : Pos} {scope : Scope} {pos : Pos} {I C D : Addr} {n : Nat} {P : Nat → Value → Prop} {St : Nat → Heap → Prop} {J : Nat → List Value → List (Addr × Obj) → Prop}
    (W : Walks prog w A I [I] [I] n P St) (hsz : n ≤ sizeLine) (hIo : ∀ i h, St i h → ∃ o, h.get? I = some o) (hSt : ∀ i h h' o, St i h → h.get? I = some o → h'.get? I = some o → St i h')
    (hcL : cenv.locals = C) (hkind : cenv.scope.kind = .function) (hx : cenv.kindOf x = some .local) (hIL : L ≠ I) (hI₀ : h₀.get? I = none) (hC₀ : h₀.get? C = none) (hD₀ : h₀.get? D = none) (hCL : C ≠ L) (hDL : D ≠ L) (hCI : I ≠ C) (hDI : I ≠ D) (hCD : C ≠ D)
    (helt : ∀ i ys news, i < n → J i ys news → ∀ oI oC h tk, (∃ m₂, LCg.NsObj oC m₂) → Fr h₀ L h m → News h₀ L h ((I, oI) :: (C, oC) :: (D, LCg.lst ys) :: news) → LCg.Off3 I C D news →
      wpC (model prog w) A (eval elt cenv) (LCg.CompEnd h₀ L m { s with heap := h, toks := tk } I oI C oC D (LCg.lst ys) (fun _ => True) (fun y news' => J (i + 1) (ys ++ [y]) news')) (fun _ _ => False) { s with heap := h, toks := tk })
    (hR : ∀ h tk ys m' news, Fr h₀ L h m → h.Ns C m' → News h₀ L h ((D, LCg.lst ys) :: news) → LCg.Off3 I C D news → J n ys news → ys.length = n → R (.ok .next) { s with heap := h, toks := tk }) :
    ∀ k i, k = n - i → i ≤ n → ∀ h tk ys m' news, ys.length = i → St i h → Fr h₀ L h m → h.Ns C m' → News h₀ L h ((D, LCg.lst ys) :: news) → LCg.Off3 I C D news → J i ys news →
      codeC (model prog w) A (.compLoop (.ListComp elt [⟨.Name x px, iter, [], 0⟩] scope pos) 0 (.ref I) (.ref D) cenv) R { s with heap := h, toks := tk } := by
  intro k
  induction k with
  | zero =>
    intro i hk hi h tk ys m' news hyl hst F hn N off hJ
    obtain rfl : i = n := by omega
    refine codeC_of_tree rfl ?_
    show wpC _ A ((compTurn (.ListComp elt [⟨.Name x px, iter, [], 0⟩] scope pos) 0 (.ref I) (.ref D) cenv).onRaise (fun x => do noteFrame x cenv; theTreesLotGoes x)) _ _ _
    refine wpC_onRaise (wpC_mono (E' := _) ?_ (fun _ _ h' => h') (E := fun _ _ => False) fun _ _ h' => h'.elim)
    rw [compTurn_list1]
    refine wpC_bindA (wpAny_standAt (wpC_bindA (W.done _ _ _ hst fun h₂ tk₂ hk₂ => ?_)))
    refine wpC_pure ?_
    exact hR h₂ tk₂ ys m' news (LCg.fr_but F hk₂ hIL hI₀) (hn.at' fun o e => hk₂ _ o (by simpa using Ne.symm hCI) e) (LCg.news_but N hk₂ fun p hp => by
      rcases List.mem_cons.mp hp with rfl | hp
      · exact Ne.symm hDI
      · exact (off.mem p hp).1) off hJ hyl
  | succ k ih =>
    intro i hk hi h tk ys m' news hyl hst F hn N off hJ
    have hlt : i < n := by omega
    refine codeC_of_tree rfl ?_
    show wpC _ A ((compTurn (.ListComp elt [⟨.Name x px, iter, [], 0⟩] scope pos) 0 (.ref I) (.ref D) cenv).onRaise (fun x => do noteFrame x cenv; theTreesLotGoes x)) _ _ _
    refine wpC_onRaise (wpC_mono (E' := _) ?_ (fun _ _ h' => h') (E := fun _ _ => False) fun _ _ h' => h'.elim)
    rw [compTurn_list1]
    refine wpC_bindA (wpAny_standAt (wpC_bindA (W.item i _ _ _ hlt hst fun v h₂ tk₂ hPv hst₂ hk₂ => ?_)))
    refine wpC_eq (a := ()) rfl ?_
    refine wpC_bindA (wpAny_assign_Name (wpAny_storeName_local (m := m') hx (by rw [hcL]; exact hn.at' fun o e => hk₂ _ o (by simpa using Ne.symm hCI) e) (fun h₃ hn₃ hs₃ => ?_) (by rw [hkind]; rfl)))
    rw [hcL] at hn₃ hs₃
    have hst₃ : St (i + 1) h₃ := W.frame _ _ _ hst₂ fun b hb o e => hs₃.extBut b o (fun q => hCI (by rw [← List.mem_singleton.mp hb]; exact q)) e
    obtain ⟨oI, heI⟩ := hIo _ _ hst₃
    obtain ⟨oC, heC, hoC⟩ := LCg.ns_obj hn₃
    have F₃ : Fr h₀ L h₃ m := (LCg.fr_but F hk₂ hIL hI₀).change hs₃ hCL hC₀
    have off3 := off.mem
    have N₂ : News h₀ L h₂ ((D, LCg.lst ys) :: news) := LCg.news_but N hk₂ fun p hp => by
      rcases List.mem_cons.mp hp with rfl | hp
      · exact Ne.symm hDI
      · exact (off3 p hp).1
    have N₃ : News h₀ L h₃ ((I, oI) :: (C, oC) :: (D, LCg.lst ys) :: news) := fun p hp => by
      rcases List.mem_cons.mp hp with rfl | hp
      · exact ⟨heI, Ne.symm hIL, hI₀⟩
      · rcases List.mem_cons.mp hp with rfl | hp
        · exact ⟨heC, hCL, hC₀⟩
        · have z := N₂ p hp
          refine ⟨hs₃.extBut _ _ ?_ z.1, z.2⟩
          rcases List.mem_cons.mp hp with rfl | hp
          · exact Ne.symm hCD
          · exact (off3 p hp).2.1
    refine wpC_bind (wpC_bind (wpC_mono (helt i ys news hlt hJ oI oC h₃ _ ⟨_, hoC⟩ F₃ N₃ off) (fun y s₄ h₄ => ?_) fun _ _ e => e))
    obtain ⟨h₄, tk₄, news₄, rfl, F₄, N₄, off₄, _, R₄⟩ := h₄
    have zI := (N₄ (I, oI) List.mem_cons_self).1
    have zC := (N₄ (C, oC) (List.mem_cons_of_mem _ List.mem_cons_self)).1
    have zD := (N₄ (D, LCg.lst ys) (List.mem_cons_of_mem _ (List.mem_cons_of_mem _ List.mem_cons_self))).1
    have N₄' : News h₀ L h₄ news₄ := fun p hp => N₄ p (List.mem_cons_of_mem _ (List.mem_cons_of_mem _ (List.mem_cons_of_mem _ hp)))
    have hst₄ : St (i + 1) h₄ := hSt _ _ _ _ hst₃ heI zI
    refine wpC_bindA (append_at (hsz := by show ys.toArray.size ≤ sizeLine; rw [List.size_toArray, hyl]; exact Nat.le_trans hi hsz) zD fun h₅ hs₅ hD₅ => ?_)
    have off4 := off₄.mem
    refine wpC_pure (wpC_pure ⟨rfl, ?_⟩)
    refine ih (i + 1) (by omega) hlt h₅ tk₄ (ys ++ [y]) _ news₄ (by rw [List.length_append, List.length_singleton, hyl]) (hSt _ _ _ _ hst₄ zI (hs₅.extBut _ _ hDI zI)) (F₄.change hs₅ hDL hD₀) ((hoC.ns zC).sameBut hs₅ hCD) (fun p hp => ?_) off₄ R₄
    rcases List.mem_cons.mp hp with rfl | hp
    · exact ⟨hD₅.trans (congrArg some (LCg.lst_snoc ys y)), hDL, hD₀⟩
    · exact ⟨hs₅.extBut _ _ (off4 p hp).2.2 (N₄' p hp).1, (N₄' p hp).2⟩
end
end
section
local macro_rules | `(tactic| k_room) => `(tactic| ((try simp only [depth_mark, depth_under_make, depth_under_kw, depth_in1, depth_deeper, depth_caller]); (try dsimp only [ktrTop]); (simp only [recursionLimit] at *); omega))
local macro_rules | `(tactic| k_units) => `(tactic| ((simp only [units_in1, units_deeper, Around.mark_units, units_caller, cLine_is] at *); (try dsimp only [ktrTop] at *); omega))
local macro_rules | `(tactic| k_all) => `(tactic| assumption)
theorem fill_CX : PySem.Challenge.rw_br5015_01 = PySem.Challenge.rw_br5015_01 ∧ K = K := by
  k_with_none
  k_fill
  exact ⟨rfl, rfl⟩
section
variable {prog : Program} {w : World} {A : Around} {s : Shared} {E : Value → Shared → Prop} {h₀ : Heap} {L : Addr} {m : Str → Option Value} {env : Env}
theorem compStart_C {elt target iter : Expr} {ifs : List Expr} {rest : List Comprehension} {scope : Scope} {pos : Pos} {it acc : Value} {cenv : Env} {R : Result → Shared → Prop} {s : Shared}
    (h0 : codeC (model prog w) A (.compLoop (.ListComp elt (⟨target, iter, ifs, 0⟩ :: rest) scope pos) 0 it acc cenv) R s)
    (h : wpAny (model prog w) A (pyIter it) (fun it' s' => codeC (model prog w) A (.compLoop (.ListComp elt (⟨target, iter, ifs, 0⟩ :: rest) scope pos) 0 it' acc cenv) R s') (fun _ _ => False) s) :
    codeC (model prog w) A (.compStart (.ListComp elt (⟨target, iter, ifs, 0⟩ :: rest) scope pos) 0 it acc cenv) R s := by
  refine codeC_of_tree rfl ?_
  show wpC _ A ((compStart (.ListComp elt (⟨target, iter, ifs, 0⟩ :: rest) scope pos) 0 it acc cenv).onRaise (fun x => do noteFrame x cenv; standAt theWindowsPlace)) _ _ s
  refine wpC_onRaise (wpC_mono (E' := _) ?_ (fun _ _ h' => h') (E := fun _ _ => False) fun _ _ h' => h'.elim)
  unfold compStart
  show wpC _ _ (ask >>= _) _ _ s
  refine wpC_bindA (wpAny_askSetting ?_)
  dsimp only
  split
  · first
      | exact wpC_bind (wpC_pure (wpC_pure (And.intro rfl h0)))
      | exact wpC_pure (And.intro rfl h0)
  · refine wpC_bindA (wpAny_rule ?_)
    show wpC _ _ (standAt iter.pos >>= fun _ => pyIter it >>= fun it' => again (.compLoop (.ListComp elt (⟨target, iter, ifs, 0⟩ :: rest) scope pos) 0 it' acc cenv)) _ _ _
    refine wpC_bindA (wpAny_standAt (wpC_bindA (wpAny_mono h (fun it' s' h' => wpC_pure (And.intro rfl h')) fun _ _ e => e)))
/-- what the range of a comprehension comes to: the range, the ledger, the turns and the way on -/
structure CompIn (prog : Program) (w : World) (A : Around) (h₀ : Heap) (L : Addr) (m : Str → Option Value) (env : Env) (elt : Expr) (scope : Scope) (y : Str) (Q : Flow → Shared → Prop) (xv : Value) (s₁ : Shared) : Prop where
  all : ∃ (r : Addr) (b : Int) (t u v : Tok) (n : Nat) (news : List (Addr × Obj)) (J : Nat → List Value → List (Addr × Obj) → Prop), xv = .ref r ∧ Fr h₀ L s₁.heap m ∧ News h₀ L s₁.heap news ∧ IsRange s₁.heap r 0 b 1 t u v ∧ Builtin.Range.small 0 b 1 = true ∧ Builtin.Range.rangeSize 0 b 1 = ((n : Nat) : Int) ∧ n ≤ sizeLine ∧ J 0 [] news ∧
    (∀ I C D, I ≠ C → I ≠ D → C ≠ D → ∀ i ys news, i < n → J i ys news → ∀ oI oC h tk, (∃ m₂, LCg.NsObj oC m₂) → Fr h₀ L h m → News h₀ L h ((I, oI) :: (C, oC) :: (D, LCg.lst ys) :: news) → LCg.Off3 I C D news →
      wpC (model prog w) A (eval elt (compEnv scope C env)) (LCg.CompEnd h₀ L m { s₁ with heap := h, toks := tk } I oI C oC D (LCg.lst ys) (fun _ => True) (fun y news' => J (i + 1) (ys ++ [y]) news')) (fun _ _ => False) { s₁ with heap := h, toks := tk }) ∧
    (∀ D h tk ys news, Fr h₀ L h (fun z => if z = y then some (.ref D) else m z) → News h₀ L h ((D, LCg.lst ys) :: news) → LCg.Off1 D news → J n ys news → ys.length = n → Q .next { s₁ with heap := h, toks := tk })
theorem Assign_ListComp_C {elt iter : Expr} {x y : Str} {px py : Pos} {scope : Scope} {pos p : Pos} {Q : Flow → Shared → Prop} (hh : A.handled = none) (hswap : swapsWith (.ListComp elt [⟨.Name x px, iter, [], 0⟩] scope pos) (some (.Name y py)) p.line env = pure true)
    (hLe : env.locals = L) (hy : env.kindOf y = some .local) (hke : env.scope.kind = .function)
    (hfree : ∀ z ∈ scope.names, z.2 ≠ .free) (hcell : ∀ z ∈ scope.names, z.2 ≠ .cell) (hkind : scope.kind = .function) (hnames : ∀ z ∈ scope.names, z.2 = .local → scope.names.lookup z.1 = some .local) (hx : scope.names.lookup x = some .local)
    (h : wpAny (model prog w) A (eval iter env) (fun xv s₁ => CompIn prog w A h₀ L m env elt scope y Q xv s₁) E s)
    (hs : ∀ x, foldedSetIterable iter env x = pure x := by intro _; rfl) :
    wpC (model prog w) A (exec (.Assign [.Name y py] (.ListComp elt [⟨.Name x px, iter, [], 0⟩] scope pos) p) env) Q E s := by
  rw [exec_Assign_Name_used _ _ _ _ hswap]
  refine wpC_bindA (wpAny_standAt ?_)
  refine wpC_bind ?_
  show wpC _ _ (comprehension (.ListComp elt [⟨.Name x px, iter, [], 0⟩] scope pos) scope env (firstIterPos [⟨.Name x px, iter, [], 0⟩] pos) (newList []) (firstAsync [⟨.Name x px, iter, [], 0⟩]) (firstIter [⟨.Name x px, iter, [], 0⟩] env) (some (assign (.Name y py) env)) >>= fun _ => pure ()) _ _ _
  refine wpC_bind ?_
  unfold comprehension
  rw [closureFor_none hfree, show clausesOf (.ListComp elt [⟨.Name x px, iter, [], 0⟩] scope pos) = [⟨.Name x px, iter, [], 0⟩] from rfl]
  refine wpC_bindA (wpAny_mono h (fun xv s₁ hC => ?_) fun _ _ e => e)
  obtain ⟨r, b, t, u, v, n, news, J, rfl, F, N, hr, hsm, hn, hsz, hJ, helt, hend⟩ := hC.all
  refine wpC_bindA (wpAny_standAt ?_)
  refine wpC_eq (hs _) ?_
  refine wpC_bindA (wpAny_holding (wpAny_pyIter_range hr hsm ?_))
  have upI : ∀ c o, s₁.heap.get? c = some o → (s₁.heap.push { cls := .type "range_iterator", data := .fields #[rawInt 0, rawInt (Builtin.Range.rangeSize 0 b 1), rawInt 1] }).get? c = some o := fun _ _ e => Heap.get?_push_of_some _ e
  have hitI := Heap.get?_push_size s₁.heap (o := { cls := .type "range_iterator", data := .fields #[rawInt 0, rawInt (Builtin.Range.rangeSize 0 b 1), rawInt 1] }) rfl
  have F1 := F.keeps upI
  have N1 := N.grown upI
  have hIL : L ≠ s₁.heap.objs.size := Nat.ne_of_lt F.ns.lt
  have hI₀ : h₀.get? s₁.heap.objs.size = none := next_is_new F
  have offI : ∀ p ∈ news, p.1 < s₁.heap.objs.size := fun p hp => Heap.lt_size (N p hp).1
  have hszI : s₁.heap.objs.size < (s₁.heap.push { cls := .type "range_iterator", data := .fields #[rawInt 0, rawInt (Builtin.Range.rangeSize 0 b 1), rawInt 1] }).objs.size := by rw [Heap.size_push]; exact Nat.lt_succ_self _
  generalize s₁.heap.push { cls := .type "range_iterator", data := .fields #[rawInt 0, rawInt (Builtin.Range.rangeSize 0 b 1), rawInt 1] } = g1 at upI hitI F1 N1 hszI ⊢
  generalize s₁.heap.objs.size = I at hitI hIL hI₀ offI hszI ⊢
  refine wpC_bindA (wpAny_standAt ?_)
  refine wpC_bindA (wpAny_newObj_type ?_)
  refine wpC_bind (wpC_pure ?_)
  refine wpC_bindA (wpAny_newFunctionEnv hcell (by intro z hz; simp at hz) (fun h₁ hns₁ hsb₁ => ?_) hkind)
  dsimp only at hns₁ hsb₁ ⊢
  generalize hH2 : g1.push { cls := .type "list", dict := none, data := .seq ([] : List Value).toArray } = H2 at hns₁ hsb₁ ⊢
  have hC : H2.objs.size = g1.objs.size + 1 := by rw [← hH2, Heap.size_push]
  have up2 : ∀ c o, g1.get? c = some o → h₁.get? c = some o := fun c o e => hsb₁.extBut c o (Nat.ne_of_lt (by rw [hC]; exact Nat.lt_succ_of_lt (Heap.lt_size e))) (Heap.get?_push_of_some _ (hH2 ▸ Heap.get?_push_of_some _ e))
  have hacc : h₁.get? g1.objs.size = some (LCg.lst []) := hsb₁.extBut _ _ (Nat.ne_of_lt (by rw [hC]; exact Nat.lt_succ_self _)) (Heap.get?_push_of_some _ (hH2 ▸ Heap.get?_push_size _ rfl))
  have F2 := F1.keeps up2
  have N2 := N1.grown up2
  have none2 : ∀ a, g1.objs.size ≤ a → h₀.get? a = none := fun a ha => by
    cases e : h₀.get? a with
    | none => rfl
    | some o' => exact absurd (Heap.lt_size (F1.keep a o' e)) (Nat.not_lt.mpr ha)
  have hD₀ := none2 _ (Nat.le_refl _)
  have hC₀ : h₀.get? H2.objs.size = none := none2 _ (by rw [hC]; exact Nat.le_succ _)
  have hLlt : L < g1.objs.size := F1.ns.lt
  have hDL : g1.objs.size ≠ L := Nat.ne_of_gt hLlt
  have hCL : H2.objs.size ≠ L := Nat.ne_of_gt (by rw [hC]; exact Nat.lt_succ_of_lt hLlt)
  have hCI : I ≠ H2.objs.size := Nat.ne_of_lt (by rw [hC]; exact Nat.lt_succ_of_lt hszI)
  have hDI : I ≠ g1.objs.size := Nat.ne_of_lt hszI
  have hCD : H2.objs.size ≠ g1.objs.size := by rw [hC]; exact Nat.succ_ne_self _
  have off₀ : LCg.Off3 I H2.objs.size g1.objs.size news := LCg.Off3.of fun p hp => by
    have z := offI p hp
    have z1 := Nat.lt_trans z hszI
    exact ⟨Nat.ne_of_lt z, Nat.ne_of_lt (by rw [hC]; exact Nat.lt_succ_of_lt z1), Nat.ne_of_lt z1⟩
  have hitI2 := up2 _ _ hitI
  generalize g1.objs.size = D at hacc hD₀ hDL hDI hCD off₀ ⊢
  generalize H2.objs.size = C at hns₁ hC₀ hCL hCI hCD off₀ ⊢
  rw [map_eq_self (l := scope.names) (fun z hz => by
    obtain ⟨nz, kz⟩ := z
    have : (kz == NameKind.free) = false := by simpa using hfree _ hz
    simp [this])]
  refine wpC_holding (wpC_bind (wpC_attempt (wpC_holding (wpC_run ?_ (by intro z; cases z)))))
  refine codeC_mono (R := fun r s' => r = .ok .next ∧ ∃ h tk ys m' news', s' = { s₁ with heap := h, toks := tk } ∧ Fr h₀ L h m ∧ h.Ns C m' ∧ News h₀ L h ((D, LCg.lst ys) :: news') ∧ LCg.Off3 I C D news' ∧ J n ys news' ∧ ys.length = n) ?_ ?_
  · have st0 : IsRangeIter h₁ I (0 + ((0 : Nat) : Int) * 1) ((n : Int) - ((0 : Nat) : Int)) 1 := by
      show h₁.get? I = _
      rw [hitI2, hn]
      simp
    have loop := compLoop_C (prog := prog) (w := w) (A := A) (s := s₁) (h₀ := h₀) (L := L) (m := m) (cenv := compEnv scope C env) (elt := elt) (iter := iter) (x := x) (px := px) (scope := scope) (pos := pos) (I := I) (C := C) (D := D) (J := J)
      (R := fun r s' => r = .ok .next ∧ ∃ h tk ys m' news', s' = { s₁ with heap := h, toks := tk } ∧ Fr h₀ L h m ∧ h.Ns C m' ∧ News h₀ L h ((D, LCg.lst ys) :: news') ∧ LCg.Off3 I C D news' ∧ J n ys news' ∧ ys.length = n)
      (LCg.range_walks hh 0 n) hsz (fun i h st => ⟨_, st⟩) (fun i h h' o st e e' => by
        have st' : h.get? I = some _ := st
        show h'.get? I = some _
        rw [e', ← e]; exact st') rfl hkind hx hIL hI₀ hC₀ hD₀ hCL hDL hCI hDI hCD
      (helt I C D hCI hDI hCD) (fun h tk ys m' news' f1 f2 f3 f4 f5 f6 => ⟨rfl, h, tk, ys, m', news', rfl, f1, f2, f3, f4, f5, f6⟩) n 0 rfl (Nat.zero_le _) h₁ s₁.toks [] _ news rfl st0 F2 hns₁ (fun p hp => by
        rcases List.mem_cons.mp hp with rfl | hp
        · exact ⟨hacc, hDL, hD₀⟩
        · exact N2 p hp) off₀ hJ
    refine compStart_C loop ?_
    exact (LCg.range_walks hh 0 n).self 0 _ _ _ st0 loop
  · rintro r s' ⟨rfl, h2, tk, ys, m', news', rfl, f1, f2, f3, f4, f5, f6⟩
    refine wpC_of (wpAny_bind (wpAny_rule (wpAny_bind (wpAny_holding (wpAny_assign_Name (wpAny_storeName_local (m := m) hy (by rw [hLe]; exact f1.ns) (fun h₃ hn₃ hs₃ => ?_) (by rw [hke]; rfl)))))))
    rw [hLe] at hn₃ hs₃
    have hvk : ∀ z ∈ (scope.names.filter fun z => (z.2 == .local || z.2 == .cell) && z.1 != (".0" : Str)).reverse, z.2 = .local → Env.kindOf (compEnv scope C env) z.1 = some .local := fun z hz hl => hnames z (List.mem_filter.mp (List.mem_reverse.mp hz)).1 hl
    have hv' : ∀ z ∈ (scope.names.filter fun z => (z.2 == .local || z.2 == .cell) && z.1 != (".0" : Str)).reverse.drop 1 ++ (scope.names.filter fun z => (z.2 == .local || z.2 == .cell) && z.1 != (".0" : Str)).reverse.take 1,
        z.2 = .local → Env.kindOf (compEnv scope C env) z.1 = some .local := fun z hz hl => by
      rcases List.mem_append.mp hz with h1 | h1
      · exact hvk z (List.mem_of_mem_drop h1) hl
      · exact hvk z (List.mem_of_mem_take h1) hl
    have fC : h₃.Ns C m' := f2.sameBut hs₃ hCL
    refine wpAny_bind (wpAny_comp_letGo (cenv := compEnv scope C env) hkind _ _ m' hv' fC fun h' m'' _ hs' => wpAny_pure (wpC_pure (wpC_pure ?_)))
    have F3 := f1.set hn₃ hs₃
    refine hend D h' _ ys news' (F3.change hs' hCL hC₀) (fun p hp => ?_) f4.one f5 f6
    have z := f3 p hp
    refine ⟨hs'.extBut _ _ ?_ (hs₃.extBut _ _ z.2.1 z.1), z.2⟩
    rcases List.mem_cons.mp hp with rfl | hp
    · exact Ne.symm hCD
    · exact (f4.mem p hp).2.1
end
end
section
local macro_rules | `(tactic| k_room) => `(tactic| ((try simp only [depth_mark, depth_under_make, depth_under_kw, depth_in1, depth_deeper, depth_caller]); (try dsimp only [ktrTop]); (simp only [recursionLimit] at *); omega))
local macro_rules | `(tactic| k_units) => `(tactic| ((simp only [units_in1, units_deeper, Around.mark_units, units_caller, cLine_is] at *); (try dsimp only [ktrTop] at *); omega))
local macro_rules | `(tactic| k_all) => `(tactic| assumption)
theorem fill_CY : PySem.Challenge.rw_br5015_01 = PySem.Challenge.rw_br5015_01 ∧ K = K := by
  k_with_none
  k_fill
  exact ⟨rfl, rfl⟩
/-- the law's frame -/
abbrev lawEnv (L fa : Addr) (cd : Value) : Env := envOf (S "law") (fscope (st 26)) L fa cd
section
variable {M : Model} {A : Around} {E : Value → Shared → Prop} {s : Shared} {env : Env}
theorem wpC_MethodCall {o : Expr} {name : Str} {apos pos : Pos} {args : List Expr} {pl : Sem Bool} {Q : Value → Shared → Prop}
    (h : wpAny M A (eval o env) (fun ov s₁ => wpAny M A (getMethod ov name pl) (fun fx s₂ => wpC M A (callWith pos fx.1 fx.2 (backTo pos (starEach args env)) []) Q E s₂) E s₁) E s)
    (he : eval (.Call (.Attribute o name apos) args [] pos) env = (do
      let ov ← eval o env
      standAt apos.atName
      let (f, first) ← holding [ov] (getMethod ov name pl)
      callWith pos f first (backTo pos (starEach args env)) []) := by rfl) :
    wpC M A (eval (.Call (.Attribute o name apos) args [] pos) env) Q E s := by
  rw [he]
  refine wpC_bindA (wpAny_mono h (fun ov s₁ h₁ => wpC_bindA (wpAny_standAt (wpC_bindA (wpAny_holding (wpAny_mono h₁ (fun fx s₂ h₂ => ?_) fun _ _ x => x))))) fun _ _ x => x)
  exact h₂
theorem wpC_AttrOfCall {f : Expr} {args : List Expr} {kws : List Keyword} {cpos : Pos} {attr : Str} {pos : Pos} {Q : Value → Shared → Prop}
    (h : wpC M A (eval (.Call f args kws cpos) env) (fun o s₁ => wpAny M A (getAttr o attr true) (fun r s₂ => wpAny M A (letTemporaryGo (.Call f args kws cpos) o r) (fun _ s₃ => Q r s₃) E s₂) E s₁) E s)
    (he : attributeBase (.Call f args kws cpos) attr env (eval (.Call f args kws cpos) env) = eval (.Call f args kws cpos) env := by rfl) :
    wpC M A (eval (.Attribute (.Call f args kws cpos) attr pos) env) Q E s := by
  rw [arm_eval_Attribute, he]
  refine wpC_bind (wpC_mono h (fun o s₁ h₁ => wpC_of ?_) fun _ _ x => x)
  exact wpAny_bind (wpAny_standAt (wpAny_bind (wpAny_holding (wpAny_mono h₁ (fun r s₂ h₂ => wpAny_bind (wpAny_mono h₂ (fun _ s₃ h₃ => wpAny_pure h₃) fun _ _ x => x)) fun _ _ x => x))))
end
theorem bytes_free {w : World} {mean : ExcName → Option Value} {mg mb : Str → Option Value} {h₀ : Heap} (T : Top topProg lo mean mg mb h₀) : mg "bytes" = none :=
  T.free _ (by decide +kernel) (by decide +kernel) (by decide +kernel) (by decide +kernel) (by decide +kernel)
theorem keep_meth {w : World} {q : Addr} {A : Around} {s : Shared} {Q : Keeper → Shared → Prop} {E : Value → Shared → Prop} (X : (K w.params).In s.heap) (hq : s.heap.get? q = some (methodObj (.ref 599) (.ref 615))) (h : Q .boundFrame s) : wpAny (model prg w) A (keeperOf (.ref q)) Q E s := by
  unfold keeperOf
  dsimp only
  refine wpAny_bind (wpAny_load hq ?_)
  dsimp only [methodObj]
  rw [if_neg (by decide)]
  show wpAny _ _ (load 599 >>= _) _ _ _
  have e : ∀ P, peek (K P) ⟨prg, P⟩ (do let o ← load 599; return match o.data with | .func _ => Keeper.boundFrame | _ => .caller) = some .boundFrame := fun _ => by kernel_rfl
  exact wpAny_peek X (e _) h
theorem call_meth {w : World} {q : Addr} {A : Around} {s : Shared} {R : Result → Shared → Prop} {v : Value} (hq : s.heap.get? q = some (methodObj (.ref 599) (.ref 615))) (h : codeC (model prg w) A (.call (.ref 599) ⟨[.ref 615, v], []⟩) R s) :
    codeC (model prg w) A (.call (.ref q) ⟨[v], []⟩) R s := by
  refine codeC_of_tree rfl ?_
  show wpC _ _ (callAny (.ref q) ⟨[v], []⟩) _ _ s
  simp only [callAny]
  refine wpC_bindA (wpAny_load hq ?_)
  dsimp only [methodObj]
  rw [if_pos (by decide)]
  exact wpC_pure ⟨rfl, h⟩
/-- the element of the list of streams, and the scope in which it is read -/
def eltOf : Stmt → Expr | .Assign _ (.ListComp e _ _ _) _ => e | _ => .Constant .none 0 default
def scopeOf : Stmt → Scope | .Assign _ (.ListComp _ _ s _) _ => s | _ => default
abbrev stStmt : Stmt := ((fbody (st 26))[5]?).getD (.Pass default)
section
variable {w : World} {mean : ExcName → Option Value} {mg mb : Str → Option Value} {h₀ : Heap} {L fa : Addr} {cd : Value} {s : Shared} {m : Str → Option Value} {rest : List (Addr × Obj)} {Q E : Value → Shared → Prop}
theorem elt_C (C : Addr) (hB : Below callerA h₀ [] h₀) (F : Fr h₀ L s.heap m) (X₀ : (K w.params).In h₀) (N : News h₀ L s.heap rest)
  (T : Top topProg lo mean mg mb h₀)
  (ret : ∀ h' tk' ks kd Cl X D Y B BD bs t u t0 z1 z2 z3, Fr h₀ L h' m → News h₀ L h' (fbLed w.params ks kd Cl X D Y B BD bs t u t0 z1 z2 z3 rest) → FbOrd ks kd Cl X D Y B BD rest → Q (.ref X) { s with heap := h', toks := tk' }) :
  wpC (model prg w) (callerA.deeper (lawEnv L fa cd)) (eval (eltOf stStmt) (compEnv (scopeOf stStmt) C (lawEnv L fa cd))) Q E s := by
  show wpC _ _ (eval (.Attribute (.Call (.Attribute (.Name _ _) _ _) [.Call (.Name _ _) [.Constant _ _ _] [] _] [] _) _ _) _) _ _ _
  refine wpC_AttrOfCall (wpC_MethodCall ?_)
  k_steps
  rename Fr _ _ _ _ => F1
  rename News _ _ _ _ => N1
  rename ∀ _, _ ∈ rest → _ < _ => l1
  rename Addr => q1
  have hq := (N1 _ List.mem_cons_self).1
  have X1 := X₀.keeps F1.keep
  refine wpC_callWith1 (first := []) (x := eval _ _) (wpC_of ?_)
  show wpAny _ _ (eval (.Call (.Name _ _) [.Constant _ _ _] [] _) _) _ _ _
  rw [arm_eval_Call_Name']
  refine wpAny_bind (Name_function_global rfl rfl (loadGlobal_builtin (T.g.keeps F1.keep) (bytes_free (w := w) T) (T.b.keeps F1.keep) ((T.builtins _ (by decide)).trans PyProof.Rows.boot_bytes) ?_))
  (k_with "call type:bytes" => k_dflt (refine call_b4 fun b t hb => ?_))
  k_steps
  refine keep_meth X1 hq ?_
  dsimp only
  unfold callMarked
  refine wpC_keep (wpC_call (call_meth hq ?_))
  refine' fb_C b t hb hB F1 X₀ N1 T ?kk ?kd ?ku fun h2 tk2 ks kd Cl X D Y B BD t2 u t0 z1 z2 z3 F2 N2 o2 => ?_
  case kk => rfl
  case kd => decide
  case ku => decide
  dsimp only
  have o3 := o2.a8
  have N3 : News h₀ L h2 ((ks, instObj 615 kd) :: (kd, dictOf [⟨PyData.keyHash w.params (Str.ofString "_io"), .str (Str.ofString "_io") t0, .ref X⟩] 1) :: []) := fun p hp => N2 p (by
    rcases List.mem_cons.mp hp with h | h
    · exact h ▸ List.mem_cons_self
    · rcases List.mem_cons.mp h with h | h
      · exact List.mem_cons_of_mem _ (h ▸ List.mem_cons_self)
      · cases h)
  have N4 : Hid (News h₀ L h2 (fbLed w.params ks kd Cl X D Y B BD b t2 u t0 z1 z2 z3 rest)) := fun p hp => N2 p (by
    simp only [fbLed, List.mem_cons] at hp ⊢
    rcases hp with h | h | h | h | h | h | h | h | h
    all_goals simp [h])
  clear N2 N1 hq F1
  k_steps
  refine wpAny_letTemporaryGo ?_
  exact ret _ _ _ _ _ _ _ _ _ _ _ _ _ _ _ _ _ F2 N4 ⟨o2.a1, o2.a2, o2.a3, o2.a4, o2.a5, o2.a6, o2.a7, fun q hq => o3 q (List.mem_cons_of_mem _ hq)⟩
end
/-! the streams in their order: what the list of streams leaves behind it -/
structure Rec8 where
  ks : Addr
  kd : Addr
  C : Addr
  X : Addr
  D : Addr
  Y : Addr
  B : Addr
  BD : Addr
  bs : Array UInt8
  t : Nat → Tok
  u : Nat → Tok
  t0 : Tok
  z1 : Tok
  z2 : Tok
  z3 : Tok
def Rec8.led (P : Params) (r : Rec8) (rest : List (Addr × Obj)) : List (Addr × Obj) := fbLed P r.ks r.kd r.C r.X r.D r.Y r.B r.BD r.bs r.t r.u r.t0 r.z1 r.z2 r.z3 rest
def Rec8.ord (r : Rec8) (rest : List (Addr × Obj)) : Prop := FbOrd r.ks r.kd r.C r.X r.D r.Y r.B r.BD rest
/-- newest first -/
noncomputable def strLed (P : Params) (base : List (Addr × Obj)) : List Rec8 → List (Addr × Obj)
  | [] => base
  | r :: rs => r.led P (strLed P base rs)
noncomputable def StrOrd (P : Params) (base : List (Addr × Obj)) : List Rec8 → Prop
  | [] => True
  | r :: rs => r.ord (strLed P base rs) ∧ StrOrd P base rs
def StrJ (P : Params) (base : List (Addr × Obj)) (i : Nat) (ys : List Value) (news : List (Addr × Obj)) : Prop :=
  ∃ rs : List Rec8, rs.length = i ∧ ys.reverse = rs.map (fun r => Value.ref r.X) ∧ news = strLed P base rs ∧ StrOrd P base rs
section
variable {w : World} {mean : ExcName → Option Value} {mg mb : Str → Option Value} {h₀ : Heap} {L fa : Addr} {cd : Value} {s : Shared} {m : Str → Option Value} {base : List (Addr × Obj)}
theorem turn_C (hB : Below callerA h₀ [] h₀) (X₀ : (K w.params).In h₀) (T : Top topProg lo mean mg mb h₀) (I C D : Addr) (i : Nat) (ys : List Value) (news : List (Addr × Obj)) (J : StrJ w.params base i ys news) (oI oC : Obj) (h : Heap) (tk : Nat)
  (F : Fr h₀ L h m) (N : News h₀ L h ((I, oI) :: (C, oC) :: (D, LCg.lst ys) :: news)) (off : LCg.Off3 I C D news) :
  wpC (model prg w) (callerA.deeper (lawEnv L fa cd)) (eval (eltOf stStmt) (compEnv (scopeOf stStmt) C (lawEnv L fa cd)))
    (LCg.CompEnd h₀ L m { s with heap := h, toks := tk } I oI C oC D (LCg.lst ys) (fun _ => True) (fun y news' => StrJ w.params base (i + 1) (ys ++ [y]) news')) (fun _ _ => False) { s with heap := h, toks := tk } := by
  refine elt_C (s := { s with heap := h, toks := tk }) C hB F X₀ N T fun h' tk' ks kd Cl X D' Y B BD bs t u t0 z1 z2 z3 F' N' o => ?_
  obtain ⟨rs, h1, h2, rfl, h4⟩ := J
  have oI' := o.a8 _ List.mem_cons_self
  have oC' := o.a8 _ (List.mem_cons_of_mem _ List.mem_cons_self)
  have oD' := o.a8 _ (List.mem_cons_of_mem _ (List.mem_cons_of_mem _ List.mem_cons_self))
  have oN : ∀ q ∈ strLed w.params base rs, q.1 < BD := fun q hq => o.a8 _ (List.mem_cons_of_mem _ (List.mem_cons_of_mem _ (List.mem_cons_of_mem _ hq)))
  let r : Rec8 := ⟨ks, kd, Cl, X, D', Y, B, BD, bs, t, u, t0, z1, z2, z3⟩
  have hr : r.ord (strLed w.params base rs) := ⟨o.a1, o.a2, o.a3, o.a4, o.a5, o.a6, o.a7, oN⟩
  refine LCg.CompEnd.intro F' N' (r.led w.params (strLed w.params base rs)) (fun p hp => ?_) ?_ trivial ⟨r :: rs, by rw [List.length_cons, h1], by rw [List.reverse_append, h2]; rfl, rfl, hr, h4⟩
  · simp only [Rec8.led, fbLed, List.mem_cons, r] at hp ⊢
    rcases hp with h | h | h | h | h | h | h | h | h | h | h | h
    all_goals simp [h]
  · refine LCg.Off3.of fun p hp => ?_
    have big : ∀ a, BD ≤ a → a ≠ I ∧ a ≠ C ∧ a ≠ D := fun a ha => ⟨Nat.ne_of_gt (Nat.lt_of_lt_of_le oI' ha), Nat.ne_of_gt (Nat.lt_of_lt_of_le oC' ha), Nat.ne_of_gt (Nat.lt_of_lt_of_le oD' ha)⟩
    have b1 := Nat.le_of_lt o.a7
    have b2 := Nat.le_trans b1 (Nat.le_of_lt o.a6)
    have b3 := Nat.le_trans b2 (Nat.le_of_lt o.a5)
    have b4 := Nat.le_trans b3 (Nat.le_of_lt o.a4)
    have b5 := Nat.le_trans b4 (Nat.le_of_lt o.a3)
    have b6 := Nat.le_trans b5 (Nat.le_of_lt o.a2)
    have b7 := Nat.le_trans b6 (Nat.le_of_lt o.a1)
    simp only [Rec8.led, fbLed, List.mem_cons, r] at hp
    rcases hp with h | h | h | h | h | h | h | h | h
    · exact h ▸ big _ b7
    · exact h ▸ big _ b6
    · exact h ▸ big _ b5
    · exact h ▸ big _ b4
    · exact h ▸ big _ b3
    · exact h ▸ big _ b2
    · exact h ▸ big _ b1
    · exact h ▸ big _ (Nat.le_refl _)
    · exact off.mem p h
end
end
section
local macro_rules | `(tactic| k_room) => `(tactic| ((try simp only [depth_mark, depth_under_make, depth_under_kw, depth_in1, depth_deeper, depth_caller]); (try dsimp only [ktrTop]); (simp only [recursionLimit] at *); omega))
local macro_rules | `(tactic| k_units) => `(tactic| ((simp only [units_in1, units_deeper, Around.mark_units, units_caller, cLine_is] at *); (try dsimp only [ktrTop] at *); omega))
local macro_rules | `(tactic| k_all) => `(tactic| assumption)
theorem fill_CV : PySem.Challenge.rw_br5015_01 = PySem.Challenge.rw_br5015_01 ∧ K = K := by
  k_with_none
  k_fill
  exact ⟨rfl, rfl⟩
theorem fmod_nat (x : Int) (n : Nat) : ∃ e : Nat, x.fmod ((n : Int) + 2) = (e : Int) ∧ e < n + 2 := by
  have h1 : 0 ≤ x.fmod ((n : Int) + 2) := Int.fmod_nonneg_of_pos _ (by omega)
  have h2 : x.fmod ((n : Int) + 2) < (n : Int) + 2 := Int.fmod_lt_of_pos _ (by omega)
  exact ⟨(x.fmod ((n : Int) + 2)).toNat, by omega, by omega⟩
abbrev M5 (nd b n e : Nat) (t1 tb tn te : Tok) (LD SC : Addr) : Str → Option Value := fun y =>
  if y = Str.ofString "more" then some (.int (e : Int) te) else if y = Str.ofString "none" then some (.int (n : Int) tn) else if y = Str.ofString "bomb" then some (.int (b : Int) tb) else
  if y = Str.ofString "last" then some (.ref LD) else if y = Str.ofString "nodes" then some (.int (nd : Int) t1) else List.lookup y [((S "script"), Value.ref SC)].reverse
section
variable {w : World} {mean : ExcName → Option Value} {mg mb : Str → Option Value} {h₀ : Heap} {L fa SC : Addr} {cd : Value} {s : Shared} {Q : Flow → Shared → Prop} {E : Value → Shared → Prop} {vals : List Value} {ns : List Int}
theorem law_C (hB : Below callerA h₀ [] h₀) (F : Fr h₀ L s.heap (fun y => List.lookup y [((S "script"), Value.ref SC)].reverse)) (X₀ : (K w.params).In h₀) (N : News h₀ L s.heap [(1152, tabObj #[])])
  (T : Top topProg lo mean mg mb h₀) (hT9 : CodeHd h₀ 1156 1152) (hL : h₀.IsList SC vals.toArray) (hI : IntsAre vals ns) (hlen : ns.length ≤ 63)
  (nxt : ∀ (nd b n e : Nat) (t1 tb tn te : Tok) (LD SL : Addr) (h : Heap) (tk : Nat) (rs : List Rec8), nd ≤ 5 → 2 * nd ≤ ns.length → b < nd + 2 → n < nd + 2 → e < nd + 2 → rs.length = nd + 2 → StrOrd w.params [(1152, tabObj #[])] rs →
    Fr h₀ L h (fun z => if z = Str.ofString "streams" then some (.ref SL) else M5 nd b n e t1 tb tn te LD SC z) → News h₀ L h ((SL, LCg.lst (rs.reverse.map fun r => Value.ref r.X)) :: strLed w.params [(1152, tabObj #[])] rs) → LCg.Off1 SL (strLed w.params [(1152, tabObj #[])] rs) →
    wpC (model prg w) (callerA.deeper (lawEnv L fa cd)) (execs ((fbody (st 26)).drop 6) (lawEnv L fa cd)) Q E { s with heap := h, toks := tk }) :
  wpC (model prg w) (callerA.deeper (lawEnv L fa cd)) (execs (fbody (st 26)) (lawEnv L fa cd)) Q E s := by
  refine wpC_execs_cons (wpC_of ?_)
  k_steps
  obtain ⟨nd, hnd, hnd5⟩ : ∃ nd : Nat, (if (5 : Int) < (↑ns.length : Int).fdiv 2 then (5 : Int) else (↑ns.length : Int).fdiv 2) = (nd : Int) ∧ nd = min (ns.length / 2) 5 := by
    refine ⟨_, ?_, rfl⟩
    have e : (↑ns.length : Int).fdiv 2 = ((ns.length / 2 : Nat) : Int) := by rw [Int.fdiv_eq_ediv_of_nonneg _ (by decide)]; rfl
    rw [e]
    split <;> omega
  rename Fr _ _ _ _ => F1
  rename News _ _ _ _ => N1
  rw [hnd] at F1
  generalize (if 5 < (↑ns.length : Int).fdiv 2 then s.toks + 1 + 1 + 1 + 1 else s.toks + 1 + 1 + 1) = t1 at F1
  refine wpC_execs_cons (wpC_of ?_)
  k_steps
  rename Fr _ _ _ _ => F2
  rename News _ _ _ _ => N2
  rename IntsAre _ _ => hI2
  rename List Value => ws2
  obtain ⟨x0, x1, x2, hx⟩ : ∃ x0 x1 x2, List.drop ((ns ++ [1, 4, 2]).length - 3) (ns ++ [1, 4, 2]) = [x0, x1, x2] := by
    have hl : (List.drop ((ns ++ [1, 4, 2]).length - 3) (ns ++ [1, 4, 2])).length = 3 := by
      rw [List.length_drop, List.length_append]
      simp only [List.length_cons, List.length_nil]
      omega
    generalize List.drop ((ns ++ [1, 4, 2]).length - 3) (ns ++ [1, 4, 2]) = l at hl
    match l, hl with
    | [a, b, c], _ => exact ⟨a, b, c, rfl⟩
  rw [hx] at hI2
  obtain ⟨ta, tb, tc, hw3⟩ : ∃ ta tb tc, ws2 = [.int x0 ta, .int x1 tb, .int x2 tc] := by
    clear F2 N2
    rcases hI2 with _ | ⟨_, ta, _ | ⟨_, tb, _ | ⟨_, tc, h5⟩⟩⟩
    cases h5
    exact ⟨_, _, _, rfl⟩
  subst hw3
  refine wpC_execs_cons (wpC_of ?_)
  k_steps
  refine wpC_execs_cons (wpC_of ?_)
  k_steps
  refine wpC_execs_cons (wpC_of ?_)
  k_steps
  rename Fr _ _ _ _ => F3
  rename News _ _ _ _ => N3
  dsimp only at F3 N3 ⊢
  obtain ⟨e, he, hel⟩ := fmod_nat ([x0, x1, x2].getD (Int.toNat 2) 0) nd
  obtain ⟨n, hn, hnl⟩ := fmod_nat ([x0, x1, x2].getD (Int.toNat 1) 0) nd
  obtain ⟨b, hb, hbl⟩ := fmod_nat ([x0, x1, x2].getD (Int.toNat 0) 0) nd
  rw [he, hn, hb] at F3
  have N4 : News h₀ L _ [(1152, tabObj #[])] := fun p hp => N3 p (List.mem_cons_of_mem _ (List.mem_cons_of_mem _ (List.mem_cons_of_mem _ hp)))
  clear N3
  obtain ⟨tb, tn, te, LD, F4⟩ : ∃ tb tn te LD, Fr h₀ L _ (M5 nd b n e t1 tb tn te LD SC) := ⟨_, _, _, _, F3⟩
  clear F3
  refine wpC_execs_cons ?_
  refine Assign_ListComp_C (L := L) (h₀ := h₀) (m := M5 nd b n e t1 tb tn te LD SC) rfl (by rfl) rfl (by rfl) (by rfl) (by decide) (by decide) (by rfl) (by decide) (by rfl) ?_
  k_steps
  rename IsRange _ _ _ _ _ _ _ _ => hR
  rename Fr _ _ _ _ => F5
  rename News _ _ _ _ => N5
  have hnd5' : nd ≤ 5 := by rw [hnd5]; exact Nat.min_le_right _ _
  have hndl : 2 * nd ≤ ns.length := by
    have := Nat.min_le_left (ns.length / 2) 5
    omega
  refine ⟨_, _, _, _, _, nd + 2, [(1152, tabObj #[])], StrJ w.params [(1152, tabObj #[])], rfl, F5, N5, hR, ?_, ?_, ?_, ⟨[], rfl, rfl, rfl, trivial⟩, fun I C D h1 h2 h3 i ys news hi hJ oI oC h tk hns F N off => turn_C hB X₀ T I C D i ys news hJ oI oC h tk F N off, fun D h tk ys news F N off hJ hlen => ?_⟩
  · exact (by decide +kernel : ∀ k : Nat, k ≤ 5 → Builtin.Range.small 0 ((k : Int) + 2) 1 = true) nd hnd5'
  · exact (by decide +kernel : ∀ k : Nat, k ≤ 5 → Builtin.Range.rangeSize 0 ((k : Int) + 2) 1 = ((k + 2 : Nat) : Int)) nd hnd5'
  · exact Nat.le_trans (Nat.add_le_add_right hnd5' 2) (by decide)
  · obtain ⟨rs, r1, r2, rfl, r4⟩ := hJ
    have hys : ys = rs.reverse.map fun r => Value.ref r.X := by rw [← List.reverse_reverse ys, r2, List.map_reverse]
    subst hys
    exact nxt nd b n e t1 tb tn te LD D h tk rs hnd5' hndl hbl hnl hel r1 r4 F N off
end
end
section
local macro_rules | `(tactic| k_room) => `(tactic| ((try simp only [depth_mark, depth_under_make, depth_under_kw, depth_in1, depth_deeper, depth_caller]); (try dsimp only [ktrTop]); (simp only [recursionLimit] at *); omega))
local macro_rules | `(tactic| k_units) => `(tactic| ((simp only [units_in1, units_deeper, Around.mark_units, units_caller, cLine_is] at *); (try dsimp only [ktrTop] at *); omega))
local macro_rules | `(tactic| k_all) => `(tactic| assumption)
theorem fill_LA : PySem.Challenge.rw_br5015_01 = PySem.Challenge.rw_br5015_01 ∧ K = K := by
  k_with_none
  k_fill
  exact ⟨rfl, rfl⟩
/-! the law's lists, made by its second comprehension -/
noncomputable def lsLed (base : List (Addr × Obj)) : List Addr → List (Addr × Obj)
  | [] => base
  | a :: as => (a, LCg.lst []) :: lsLed base as
noncomputable def LsOrd (base : List (Addr × Obj)) : List Addr → Prop
  | [] => True
  | a :: as => (∀ q ∈ lsLed base as, q.1 < a) ∧ LsOrd base as
def LstJ (base : List (Addr × Obj)) (i : Nat) (ys : List Value) (news : List (Addr × Obj)) : Prop :=
  ∃ as : List Addr, as.length = i ∧ ys.reverse = as.map Value.ref ∧ news = lsLed base as ∧ LsOrd base as
abbrev liStmt : Stmt := ((fbody (st 26))[6]?).getD (.Pass default)
section
variable {w : World} {h₀ : Heap} {L fa : Addr} {cd : Value} {s : Shared} {m : Str → Option Value} {base : List (Addr × Obj)}
theorem turnL_C (I C D : Addr) (i : Nat) (ys : List Value) (news : List (Addr × Obj)) (J : LstJ base i ys news) (oI oC : Obj) (h : Heap) (tk : Nat)
  (F : Fr h₀ L h m) (N : News h₀ L h ((I, oI) :: (C, oC) :: (D, LCg.lst ys) :: news)) (off : LCg.Off3 I C D news) :
  wpC (model prg w) (callerA.deeper (lawEnv L fa cd)) (eval (eltOf liStmt) (compEnv (scopeOf liStmt) C (lawEnv L fa cd)))
    (LCg.CompEnd h₀ L m { s with heap := h, toks := tk } I oI C oC D (LCg.lst ys) (fun _ => True) (fun y news' => LstJ base (i + 1) (ys ++ [y]) news')) (fun _ _ => False) { s with heap := h, toks := tk } := by
  show wpC _ _ (eval (.List [] _) _) _ _ _
  rw [arm_eval_List]
  refine wpC_of (wpAny_bind (wpAny_standAt (wpAny_bind (wpAny_pure (wpAny_newObj_type ?_)))))
  have N1 := News.push (o := LCg.lst []) F N rfl
  have F1 := F.push (LCg.lst [])
  have big : ∀ q ∈ (I, oI) :: (C, oC) :: (D, LCg.lst ys) :: news, q.1 < h.objs.size := fun q hq => Heap.lt_size (N q hq).1
  obtain ⟨as, h1, h2, rfl, h4⟩ := J
  refine LCg.CompEnd.intro F1 N1 (lsLed base (h.objs.size :: as)) (fun p hp => ?_) ?_ trivial ⟨h.objs.size :: as, by rw [List.length_cons, h1], by rw [List.reverse_append, h2]; rfl, rfl, fun q hq => big q (List.mem_cons_of_mem _ (List.mem_cons_of_mem _ (List.mem_cons_of_mem _ hq))), h4⟩
  · simp only [lsLed, List.mem_cons] at hp ⊢
    rcases hp with h | h | h | h | h
    all_goals simp [h]
  · refine LCg.Off3.of fun p hp => ?_
    rcases List.mem_cons.mp hp with rfl | hp
    · exact ⟨Nat.ne_of_gt (big _ List.mem_cons_self), Nat.ne_of_gt (big _ (List.mem_cons_of_mem _ List.mem_cons_self)), Nat.ne_of_gt (big _ (List.mem_cons_of_mem _ (List.mem_cons_of_mem _ List.mem_cons_self)))⟩
    · exact off.mem p hp
end
theorem rep1 (nd : Nat) (v : Value) : (List.replicate ((nd : Int) + 2).toNat [v]).flatten = List.replicate (nd + 2) v := by
  have e : ((nd : Int) + 2).toNat = nd + 2 := by omega
  rw [e]
  generalize nd + 2 = k
  induction k with
  | zero => rfl
  | succ k ih => rw [List.replicate_succ, List.flatten_cons, ih, List.replicate_succ]; rfl
theorem rep1_size {nd : Nat} (h : nd ≤ 5) (v : Value) : [v].length * ((nd : Int) + 2).toNat ≤ 256 := by
  have e : ((nd : Int) + 2).toNat = nd + 2 := by omega
  rw [e]
  show 1 * (nd + 2) ≤ 256
  omega
theorem made_W {w : World} {A : Around} {s : Shared} {Q E : Value → Shared → Prop} {h₀ : Heap} {L : Addr} {m : Str → Option Value} {news : List (Addr × Obj)} {x : Str} {t : Tok} (F : Fr h₀ L s.heap m) (N : News h₀ L s.heap news)
    (hQ : ∀ h' e ob vs, Fr h₀ L h' m → News h₀ L h' ((e, ob) :: news) → (∀ p ∈ news, p.1 ≠ e) → ob.cls = .type "LookupError" → ob.data = .fields vs → vs[1]? = some .none → (∃ a0, vs[0]? = some a0) → Q (.ref e) { s with heap := h' }) :
    wpAny (model prg w) A (call (.type "LookupError") [.str x t]) Q E s := by
  refine call_exc excClass_LookupError (fun h' e hx => ?_) (Nat.le_trans (Nat.le_refl 1) (by decide))
  obtain ⟨ob, t, he, hc, hd⟩ := hx.there
  have hL : e ≠ L := fun q => by
    obtain ⟨o, _, _, z, _⟩ := F.ns
    have := hx.new
    rw [q, z] at this; cases this
  have h0 : h₀.get? e = none := by
    cases q : h₀.get? e with
    | none => rfl
    | some o =>
      have := hx.new
      rw [F.keep _ _ q] at this; cases this
  refine hQ h' e ob _ (F.keeps hx.keeps) (fun p hp => ?_) (fun p hp q => ?_) hc hd rfl ⟨_, rfl⟩
  · rcases List.mem_cons.mp hp with rfl | hp
    · exact ⟨he, hL, h0⟩
    · exact ⟨hx.keeps _ _ (N p hp).1, (N p hp).2⟩
  · have := hx.new
    rw [← q, (N p hp).1] at this; cases this
abbrev M6 (nd b n e : Nat) (t1 tb tn te : Tok) (LD SL SC : Addr) : Str → Option Value := fun z => if z = Str.ofString "streams" then some (.ref SL) else M5 nd b n e t1 tb tn te LD SC z
abbrev ins (x : String) (a : Addr) (m : Str → Option Value) : Str → Option Value := fun y => if y = Str.ofString x then some (.ref a) else m y
section
variable {w : World} {mean : ExcName → Option Value} {mg mb : Str → Option Value} {h₀ : Heap} {L fa SC : Addr} {cd : Value} {s : Shared} {Q : Flow → Shared → Prop} {E : Value → Shared → Prop}
  {nd b n e : Nat} {t1 tb tn te : Tok} {LD SL LLa PSa ATa SNa MD PL TW : Addr} {rest : List (Addr × Obj)}
theorem lists_S (hB : Below callerA h₀ [] h₀) (X₀ : (K w.params).In h₀) (T : Top topProg lo mean mg mb h₀) (hnd : nd ≤ 5)
  (F : Fr h₀ L s.heap (M6 nd b n e t1 tb tn te LD SL SC)) (N : News h₀ L s.heap rest)
  (nxt : ∀ h tk LLa as, Fr h₀ L h (ins "lists" LLa (M6 nd b n e t1 tb tn te LD SL SC)) → News h₀ L h ((LLa, LCg.lst (as.reverse.map Value.ref)) :: lsLed rest as) → as.length = nd + 2 → LsOrd rest as → LCg.Off1 LLa (lsLed rest as) →
    wpC (model prg w) (callerA.deeper (lawEnv L fa cd)) (execs ((fbody (st 26)).drop 7) (lawEnv L fa cd)) Q E { s with heap := h, toks := tk }) :
  wpC (model prg w) (callerA.deeper (lawEnv L fa cd)) (execs ((fbody (st 26)).drop 6) (lawEnv L fa cd)) Q E s := by
  show wpC _ _ (execs (.Assign [.Name _ _] (.ListComp _ [⟨.Name _ _, _, [], 0⟩] _ _) _ :: (fbody (st 26)).drop 7) _) _ _ _
  refine wpC_execs_cons ?_
  refine Assign_ListComp_C (L := L) (h₀ := h₀) (m := M6 nd b n e t1 tb tn te LD SL SC) rfl (by rfl) rfl (by rfl) (by rfl) (by decide) (by decide) (by rfl) (by decide) (by rfl) ?_
  k_steps
  rename IsRange _ _ _ _ _ _ _ _ => hR
  rename Fr _ _ _ _ => F5
  rename News _ _ _ _ => N5
  refine ⟨_, _, _, _, _, nd + 2, rest, LstJ rest, rfl, F5, N5, hR, ?_, ?_, ?_, ⟨[], rfl, rfl, rfl, trivial⟩, fun I C D h1 h2 h3 i ys news hi hJ oI oC h tk hns F N off => turnL_C I C D i ys news hJ oI oC h tk F N off, fun D h tk ys news F N off hJ hlen => ?_⟩
  · exact (by decide +kernel : ∀ k : Nat, k ≤ 5 → Builtin.Range.small 0 ((k : Int) + 2) 1 = true) nd hnd
  · exact (by decide +kernel : ∀ k : Nat, k ≤ 5 → Builtin.Range.rangeSize 0 ((k : Int) + 2) 1 = ((k + 2 : Nat) : Int)) nd hnd
  · exact Nat.le_trans (Nat.add_le_add_right hnd 2) (by decide)
  obtain ⟨as, r1, r2, rfl, r4⟩ := hJ
  have hys : ys = as.reverse.map Value.ref := by rw [← List.reverse_reverse ys, r2, List.map_reverse]
  subst hys
  exact nxt _ _ _ _ F N r1 r4 off
theorem places_S (hB : Below callerA h₀ [] h₀) (X₀ : (K w.params).In h₀) (T : Top topProg lo mean mg mb h₀) (hnd : nd ≤ 5)
  (F : Fr h₀ L s.heap (ins "lists" LLa (M6 nd b n e t1 tb tn te LD SL SC))) (N : News h₀ L s.heap rest)
  (nxt : ∀ h tk PSa, Fr h₀ L h (ins "places" PSa (ins "lists" LLa (M6 nd b n e t1 tb tn te LD SL SC))) → News h₀ L h ((PSa, PySem.W.listOf (List.replicate (nd + 2) Value.none).toArray 0) :: rest) → (∀ q ∈ rest, q.1 < PSa) →
    wpC (model prg w) (callerA.deeper (lawEnv L fa cd)) (execs ((fbody (st 26)).drop 8) (lawEnv L fa cd)) Q E { s with heap := h, toks := tk }) :
  wpC (model prg w) (callerA.deeper (lawEnv L fa cd)) (execs ((fbody (st 26)).drop 7) (lawEnv L fa cd)) Q E s := by
  show wpC _ _ (execs (.Assign [.Name _ _] (.BinOp _ _ _ _) _ :: (fbody (st 26)).drop 8) _) _ _ _
  have hlt : Hid (∀ q ∈ rest, q.1 < s.heap.objs.size) := fun q hq => Heap.lt_size (N q hq).1
  refine wpC_execs_cons (wpC_of ?_)
  (k_with "binaryOp Mult ref int" => k_dflt (refine' KMa.mul ?F ?N ?l ?lo ?hi (rep1_size hnd _) (rep1 nd _) ?_; (case F => k_asm); (case N => k_asm); (case l => exact News.isList (by k_asm) (by k_mem)); (case lo => omega); (case hi => omega); intro D9 h9 F9 N9 l9))
  k_steps
  rename Fr _ _ _ _ => F8
  rename News _ _ _ _ => N8
  exact nxt _ _ _ F8 (fun p hp => N8 p (by
    rcases List.mem_cons.mp hp with h | h
    · exact h ▸ List.mem_cons_self
    · exact List.mem_cons_of_mem _ (List.mem_cons_of_mem _ h))) (fun q hq => l9 _ (List.mem_cons_of_mem _ hq))
theorem ats_S (hB : Below callerA h₀ [] h₀) (X₀ : (K w.params).In h₀) (T : Top topProg lo mean mg mb h₀) (hnd : nd ≤ 5)
  (F : Fr h₀ L s.heap (ins "places" PSa (ins "lists" LLa (M6 nd b n e t1 tb tn te LD SL SC)))) (N : News h₀ L s.heap rest)
  (nxt : ∀ h tk ATa tz, Fr h₀ L h (ins "ats" ATa (ins "places" PSa (ins "lists" LLa (M6 nd b n e t1 tb tn te LD SL SC)))) → News h₀ L h ((ATa, PySem.W.listOf (List.replicate (nd + 2) (Value.int 0 tz)).toArray 0) :: rest) → (∀ q ∈ rest, q.1 < ATa) →
    wpC (model prg w) (callerA.deeper (lawEnv L fa cd)) (execs ((fbody (st 26)).drop 9) (lawEnv L fa cd)) Q E { s with heap := h, toks := tk }) :
  wpC (model prg w) (callerA.deeper (lawEnv L fa cd)) (execs ((fbody (st 26)).drop 8) (lawEnv L fa cd)) Q E s := by
  show wpC _ _ (execs (.Assign [.Name _ _] (.BinOp _ _ _ _) _ :: (fbody (st 26)).drop 9) _) _ _ _
  refine wpC_execs_cons (wpC_of ?_)
  (k_with "binaryOp Mult ref int" => k_dflt (refine' KMa.mul ?F ?N ?l ?lo ?hi (rep1_size hnd _) (rep1 nd _) ?_; (case F => k_asm); (case N => k_asm); (case l => exact News.isList (by k_asm) (by k_mem)); (case lo => omega); (case hi => omega); intro D9 h9 F9 N9 l9))
  k_steps
  rename Fr _ _ _ _ => F8
  rename News _ _ _ _ => N8
  exact nxt _ _ _ _ F8 (fun p hp => N8 p (by
    rcases List.mem_cons.mp hp with h | h
    · exact h ▸ List.mem_cons_self
    · exact List.mem_cons_of_mem _ (List.mem_cons_of_mem _ h))) (fun q hq => l9 _ (List.mem_cons_of_mem _ hq))
end
end
section
local macro_rules | `(tactic| k_room) => `(tactic| ((try simp only [depth_mark, depth_under_make, depth_under_kw, depth_in1, depth_deeper, depth_caller]); (try dsimp only [ktrTop]); (simp only [recursionLimit] at *); omega))
local macro_rules | `(tactic| k_units) => `(tactic| ((simp only [units_in1, units_deeper, Around.mark_units, units_caller, cLine_is] at *); (try dsimp only [ktrTop] at *); omega))
local macro_rules | `(tactic| k_all) => `(tactic| assumption)
theorem fill_LB : PySem.Challenge.rw_br5015_01 = PySem.Challenge.rw_br5015_01 ∧ K = K := by
  k_with_none
  k_fill
  exact ⟨rfl, rfl⟩
section
variable {w : World} {mean : ExcName → Option Value} {mg mb : Str → Option Value} {h₀ : Heap} {L fa SC : Addr} {cd : Value} {s : Shared} {Q : Flow → Shared → Prop} {E : Value → Shared → Prop}
  {nd b n e : Nat} {t1 tb tn te : Tok} {LD SL LLa PSa ATa SNa MD PL TW : Addr} {rest : List (Addr × Obj)}
theorem seen_S (hB : Below callerA h₀ [] h₀) (X₀ : (K w.params).In h₀) (T : Top topProg lo mean mg mb h₀)
  (F : Fr h₀ L s.heap (ins "ats" ATa (ins "places" PSa (ins "lists" LLa (M6 nd b n e t1 tb tn te LD SL SC))))) (N : News h₀ L s.heap rest)
  (nxt : ∀ h tk SNa, Fr h₀ L h (ins "seen" SNa (ins "ats" ATa (ins "places" PSa (ins "lists" LLa (M6 nd b n e t1 tb tn te LD SL SC))))) → News h₀ L h ((SNa, PySem.W.listOf #[] 0) :: rest) → (∀ q ∈ rest, q.1 < SNa) →
    wpC (model prg w) (callerA.deeper (lawEnv L fa cd)) (execs ((fbody (st 26)).drop 10) (lawEnv L fa cd)) Q E { s with heap := h, toks := tk }) :
  wpC (model prg w) (callerA.deeper (lawEnv L fa cd)) (execs ((fbody (st 26)).drop 9) (lawEnv L fa cd)) Q E s := by
  show wpC _ _ (execs (.Assign [.Name _ _] (.List _ _) _ :: (fbody (st 26)).drop 10) _) _ _ _
  have hlt : Hid (∀ q ∈ rest, q.1 < s.heap.objs.size) := fun q hq => Heap.lt_size (N q hq).1
  refine wpC_execs_cons (wpC_of ?_)
  k_steps
  rename Fr _ _ _ _ => F8
  rename News _ _ _ _ => N8
  rename ∀ _, _ ∈ rest → _ => l8
  exact nxt _ _ _ F8 N8 l8
theorem made_S (hB : Below callerA h₀ [] h₀) (X₀ : (K w.params).In h₀) (T : Top topProg lo mean mg mb h₀)
  (F : Fr h₀ L s.heap (ins "seen" SNa (ins "ats" ATa (ins "places" PSa (ins "lists" LLa (M6 nd b n e t1 tb tn te LD SL SC)))))) (N : News h₀ L s.heap rest)
  (nxt : ∀ h tk MD oM vM, Fr h₀ L h (ins "made" MD (ins "seen" SNa (ins "ats" ATa (ins "places" PSa (ins "lists" LLa (M6 nd b n e t1 tb tn te LD SL SC)))))) → News h₀ L h ((MD, oM) :: rest) → (∀ q ∈ rest, q.1 ≠ MD) → oM.cls = .type "LookupError" → oM.data = .fields vM → vM[1]? = some .none → (∃ a0, vM[0]? = some a0) →
    wpC (model prg w) (callerA.deeper (lawEnv L fa cd)) (execs ((fbody (st 26)).drop 11) (lawEnv L fa cd)) Q E { s with heap := h, toks := tk }) :
  wpC (model prg w) (callerA.deeper (lawEnv L fa cd)) (execs ((fbody (st 26)).drop 10) (lawEnv L fa cd)) Q E s := by
  show wpC _ _ (execs (.Assign [.Name _ _] (.Call _ _ _ _) _ :: (fbody (st 26)).drop 11) _) _ _ _
  have hlt : Hid (∀ q ∈ rest, q.1 < s.heap.objs.size) := fun q hq => Heap.lt_size (N q hq).1
  refine wpC_execs_cons (wpC_of ?_)
  (k_with "call type:LookupError" => k_dflt (refine' made_W ?F ?N ?_; (case F => k_asm); (case N => k_asm); intro h8 MD oM vM F8 N8 n8 c8 d8 v8 a8))
  k_steps
  rename Fr _ _ _ _ => F8
  rename News _ _ _ _ => N8
  exact nxt _ _ _ _ _ F8 N8 n8 c8 d8 v8 a8
theorem plan_S (hB : Below callerA h₀ [] h₀) (X₀ : (K w.params).In h₀) (T : Top topProg lo mean mg mb h₀)
  (F : Fr h₀ L s.heap (ins "made" MD (ins "seen" SNa (ins "ats" ATa (ins "places" PSa (ins "lists" LLa (M6 nd b n e t1 tb tn te LD SL SC))))))) (N : News h₀ L s.heap rest)
  (nxt : ∀ h tk PL oP, Fr h₀ L h (ins "plan" PL (ins "made" MD (ins "seen" SNa (ins "ats" ATa (ins "places" PSa (ins "lists" LLa (M6 nd b n e t1 tb tn te LD SL SC))))))) → News h₀ L h ((PL, oP) :: rest) → (∀ q ∈ rest, q.1 < PL) → (∃ k1 k2 k3 k4, oP.IsDictOf (strKind prg w) (strPairs [(.str (Str.ofString "bomb") k1, .int (b : Int) tb), (.str (Str.ofString "more") k2, .int (e : Int) te), (.str (Str.ofString "end") k3, .str (Str.ofString "") k4)])) →
    wpC (model prg w) (callerA.deeper (lawEnv L fa cd)) (execs ((fbody (st 26)).drop 12) (lawEnv L fa cd)) Q E { s with heap := h, toks := tk }) :
  wpC (model prg w) (callerA.deeper (lawEnv L fa cd)) (execs ((fbody (st 26)).drop 11) (lawEnv L fa cd)) Q E s := by
  show wpC _ _ (execs (.Assign [.Name _ _] (.Dict _ _ _) _ :: (fbody (st 26)).drop 12) _) _ _ _
  have hlt : Hid (∀ q ∈ rest, q.1 < s.heap.objs.size) := fun q hq => Heap.lt_size (N q hq).1
  refine wpC_execs_cons (wpC_of ?_)
  k_steps
  rename Fr _ _ _ _ => F8
  rename News _ _ _ _ => N8
  rename Obj.IsDictOf _ _ _ => hP
  exact nxt _ _ _ _ F8 N8 hlt ⟨_, _, _, _, hP⟩
theorem twin_S (hB : Below callerA h₀ [] h₀) (X₀ : (K w.params).In h₀) (T : Top topProg lo mean mg mb h₀)
  (F : Fr h₀ L s.heap (ins "plan" PL (ins "made" MD (ins "seen" SNa (ins "ats" ATa (ins "places" PSa (ins "lists" LLa (M6 nd b n e t1 tb tn te LD SL SC)))))))) (N : News h₀ L s.heap rest)
  (nxt : ∀ h tk TW oP, Fr h₀ L h (ins "twin" TW (ins "plan" PL (ins "made" MD (ins "seen" SNa (ins "ats" ATa (ins "places" PSa (ins "lists" LLa (M6 nd b n e t1 tb tn te LD SL SC)))))))) → News h₀ L h ((TW, oP) :: rest) → (∀ q ∈ rest, q.1 < TW) → (∃ k1 k2 k3 k4, oP.IsDictOf (strKind prg w) (strPairs [(.str (Str.ofString "bomb") k1, .int (b : Int) tb), (.str (Str.ofString "more") k2, .int (e : Int) te), (.str (Str.ofString "end") k3, .str (Str.ofString "") k4)])) →
    wpC (model prg w) (callerA.deeper (lawEnv L fa cd)) (execs ((fbody (st 26)).drop 13) (lawEnv L fa cd)) Q E { s with heap := h, toks := tk }) :
  wpC (model prg w) (callerA.deeper (lawEnv L fa cd)) (execs ((fbody (st 26)).drop 12) (lawEnv L fa cd)) Q E s := by
  show wpC _ _ (execs (.Assign [.Name _ _] (.Dict _ _ _) _ :: (fbody (st 26)).drop 13) _) _ _ _
  have hlt : Hid (∀ q ∈ rest, q.1 < s.heap.objs.size) := fun q hq => Heap.lt_size (N q hq).1
  refine wpC_execs_cons (wpC_of ?_)
  k_steps
  rename Fr _ _ _ _ => F8
  rename News _ _ _ _ => N8
  rename Obj.IsDictOf _ _ _ => hP
  exact nxt _ _ _ _ F8 N8 hlt ⟨_, _, _, _, hP⟩
end
end
section
local macro_rules | `(tactic| k_room) => `(tactic| ((try simp only [depth_mark, depth_under_make, depth_under_kw, depth_in1, depth_deeper, depth_caller]); (try dsimp only [ktrTop]); (simp only [recursionLimit] at *); omega))
local macro_rules | `(tactic| k_units) => `(tactic| ((simp only [units_in1, units_deeper, Around.mark_units, units_caller, cLine_is] at *); (try dsimp only [ktrTop] at *); omega))
local macro_rules | `(tactic| k_all) => `(tactic| assumption)
theorem fill_LC : PySem.Challenge.rw_br5015_01 = PySem.Challenge.rw_br5015_01 ∧ K = K := by
  k_with_none
  k_fill
  exact ⟨rfl, rfl⟩
section
variable {w : World} {mean : ExcName → Option Value} {mg mb : Str → Option Value} {h₀ : Heap} {L fa SC : Addr} {cd : Value} {s : Shared} {Q : Flow → Shared → Prop} {E : Value → Shared → Prop}
  {nd b n e : Nat} {t1 tb tn te : Tok} {LD SL LLa PSa ATa SNa MD PL TW SP : Addr} {rest : List (Addr × Obj)} {svs : List Value}
abbrev M7 (nd b n e : Nat) (t1 tb tn te : Tok) (LD SL SC LLa PSa ATa SNa MD PL TW : Addr) : Str → Option Value :=
  ins "twin" TW (ins "plan" PL (ins "made" MD (ins "seen" SNa (ins "ats" ATa (ins "places" PSa (ins "lists" LLa (M6 nd b n e t1 tb tn te LD SL SC)))))))
theorem spare_S (hB : Below callerA h₀ [] h₀) (X₀ : (K w.params).In h₀) (T : Top topProg lo mean mg mb h₀) (hnd : nd ≤ 5)
  (F : Fr h₀ L s.heap (M7 nd b n e t1 tb tn te LD SL SC LLa PSa ATa SNa MD PL TW)) (N : News h₀ L s.heap rest) (hSL : (SL, LCg.lst svs) ∈ rest) (hlen : svs.length = nd + 2) (hSP : svs[nd + 1]? = some (.ref SP))
  (nxt : ∀ h tk, Fr h₀ L h (ins "spare" SP (M7 nd b n e t1 tb tn te LD SL SC LLa PSa ATa SNa MD PL TW)) → News h₀ L h rest →
    wpC (model prg w) (callerA.deeper (lawEnv L fa cd)) (execs ((fbody (st 26)).drop 14) (lawEnv L fa cd)) Q E { s with heap := h, toks := tk }) :
  wpC (model prg w) (callerA.deeper (lawEnv L fa cd)) (execs ((fbody (st 26)).drop 13) (lawEnv L fa cd)) Q E s := by
  show wpC _ _ (execs (.Assign [.Name _ _] (.Subscript _ _ _) _ :: (fbody (st 26)).drop 14) _) _ _ _
  have e1 : ((nd : Int) + 1).toNat = nd + 1 := by omega
  have hget : svs.toArray[((nd : Int) + 1).toNat]? = some (.ref SP) := by rw [e1]; simpa using hSP
  have hsz : svs.toArray.size = nd + 2 := by simpa using hlen
  refine wpC_execs_cons (wpC_of ?_)
  (k_with "subscriptTail" => k_dflt (refine' tail_any (Heap.IsList.typeIs (News.isList ?N hSL)) slot_list_getitem.lookup (wpAny_getItem_list (News.isList ?N hSL) (by omega) (by omega) hget ?_) (by with_unfolding_all rfl); (case N => k_asm)))
  k_steps
  rename Fr _ _ _ _ => F8
  rename News _ _ _ _ => N8
  exact nxt _ _ F8 N8
end
end
section
local macro_rules | `(tactic| k_room) => `(tactic| ((try simp only [depth_mark, depth_under_make, depth_under_kw, depth_in1, depth_deeper, depth_caller]); (try dsimp only [ktrTop]); (simp only [recursionLimit] at *); omega))
local macro_rules | `(tactic| k_units) => `(tactic| ((simp only [units_in1, units_deeper, Around.mark_units, units_caller, cLine_is] at *); (try dsimp only [ktrTop] at *); omega))
local macro_rules | `(tactic| k_all) => `(tactic| assumption)
theorem fill_LD : PySem.Challenge.rw_br5015_01 = PySem.Challenge.rw_br5015_01 ∧ K = K := by
  k_with_none
  k_fill
  exact ⟨rfl, rfl⟩
section
variable {w : World} {mean : ExcName → Option Value} {mg mb : Str → Option Value}
  {dp un : Nat} {gd : Option (List Code)} {cn : Str} {cs : Scope} {a : Addr} {ccd : Value} {cl : List (Str × Addr)} {outer : List Env} {A₀ : Around} {base h₀ : Heap} {L : Addr} {m : Str → Option Value} {rest : List (Addr × Obj)} {s : Shared}
  {Q E : Value → Shared → Prop}
/-- hand_back: the stream gets a handler with its place -/
theorem back_spec {X D B C LM : Addr} {t : Nat → Tok} {z1 z2 tp : Tok} {p : Int} (hB : Below A₀ base outer h₀) (F : Fr h₀ L s.heap m) (X₀ : (K w.params).In h₀) (N : News h₀ L s.heap ((X, instObj 1047 D) :: (D, sdict w.params t z1 z2 B C .none) :: rest))
  (T : Top topProg lo mean mg mb h₀) (hk : cs.kind = .function) (hd : dp + 40 < recursionLimit) (hu : un + 400 < cLine) (o1 : @Ne Nat X D) (o6 : ∀ q ∈ rest, q.1 ≠ D)
  (ret : ∀ h' H HD t' z tk', Fr h₀ L h' m → News h₀ L h' ((H, instObj 1075 HD) :: (HD, hdict w.params t' p z LM) :: (X, instObj 1047 D) :: (D, sdict w.params t z1 z2 B C (.ref H)) :: rest) → X < HD → D < HD → (∀ q ∈ rest, q.1 < HD) → HD < H → Q .none { s with heap := h', toks := tk' }) :
  wpAny (model prg w) (ktrTop dp un gd cn cs L a ccd cl outer) (call (.ref 1150) [.ref X, .int p tp, .ref LM]) Q E s := by
  refine wpAny_call ?_
  k_dflt ktr_enter
  k_steps
  rename Fr _ _ _ _ => F9
  rename News _ _ _ _ => N9
  rename (X < _ ∧ D < _ ∧ AllLt _ rest) => l8
  rename (_ < _) => l9
  exact ret _ _ _ (fun i => if i = 0 then _ else _) _ _ F9 N9 l8.1 l8.2.1 (of_allLt l8.2.2) l9
end
end
section
local macro_rules | `(tactic| k_room) => `(tactic| ((try simp only [depth_mark, depth_under_make, depth_under_kw, depth_in1, depth_deeper, depth_caller]); (try dsimp only [ktrTop]); (simp only [recursionLimit] at *); omega))
local macro_rules | `(tactic| k_units) => `(tactic| ((simp only [units_in1, units_deeper, Around.mark_units, units_caller, cLine_is] at *); (try dsimp only [ktrTop] at *); omega))
local macro_rules | `(tactic| k_all) => `(tactic| assumption)
theorem fill_LE : PySem.Challenge.rw_br5015_01 = PySem.Challenge.rw_br5015_01 ∧ K = K := by
  k_with_none
  k_fill
  exact ⟨rfl, rfl⟩
section
variable {w : World} {A : Around} {s : Shared} {Q : Flow → Shared → Prop} {E : Value → Shared → Prop} {g₀ : Heap} {L : Addr} {m : Str → Option Value} {env : Env} {news : List (Addr × Obj)}
/-- a for loop over a range, with an invariant over names and ledger; its body never leaves it -/
theorem forR_W {x : Str} {px : Pos} {body : List Stmt} {r : Addr} {a b : Int} {t u v : Tok} {n : Nat} (P : Nat → (Str → Option Value) → List (Addr × Obj) → Prop)
    (hh : A.handled = none) (hx : env.kindOf x = some .local) (hke : env.scope.kind = .function) (hL : env.locals = L)
    (F : Fr g₀ L s.heap m) (N : News g₀ L s.heap news) (hr : IsRange s.heap r a b 1 t u v) (hsm : Builtin.Range.small a b 1 = true) (hn : Builtin.Range.rangeSize a b 1 = ((n : Nat) : Int)) (hP : P 0 m news)
    (hbody : ∀ i mi news h tk it oI tv, i < n → P i mi news → Fr g₀ L h (fun y => if y = x then some (.int (a + (i : Int)) tv) else mi y) → News g₀ L h ((it, oI) :: news) → (∀ q ∈ news, q.1 ≠ it) →
      wpAny (model prg w) A (execs body env) (fun fl s₂ => fl = .next ∧ ∃ h2 tk2 m2 news2, s₂ = { s with heap := h2, toks := tk2 } ∧ Fr g₀ L h2 m2 ∧ News g₀ L h2 ((it, oI) :: news2) ∧ (∀ q ∈ news2, q.1 ≠ it) ∧ P (i + 1) m2 news2) (fun _ _ => False) { s with heap := h, toks := tk })
    (hdone : ∀ h tk mi news, P n mi news → Fr g₀ L h mi → News g₀ L h news → Q .next { s with heap := h, toks := tk }) :
    wpAny (model prg w) A (pyIter (.ref r)) (fun it s₂ => codeAny (model prg w) A (.forLoop (.Name x px) it body [] env) (fun r s' => match r with | .ok fl => Q fl s' | .error e => cameBackBy (model prg w) A env E e s') s₂) E s := by
  refine wpAny_pyIter_range hr hsm ?_
  have N1 := N.grown (h' := s.heap.push { cls := .type "range_iterator", data := .fields #[rawInt a, rawInt (Builtin.Range.rangeSize a b 1), rawInt 1] }) (fun _ _ e => Heap.get?_push_of_some _ e)
  have F1 := F.push { cls := .type "range_iterator", data := .fields #[rawInt a, rawInt (Builtin.Range.rangeSize a b 1), rawInt 1] }
  have hit := Heap.get?_push_size s.heap (o := { cls := .type "range_iterator", data := .fields #[rawInt a, rawInt (Builtin.Range.rangeSize a b 1), rawInt 1] }) rfl
  have off : ∀ q ∈ news, q.1 ≠ s.heap.objs.size := fun q hq => Nat.ne_of_lt (Heap.lt_size (N q hq).1)
  have hIL : L ≠ s.heap.objs.size := Nat.ne_of_lt F.ns.lt
  have hI₀ : g₀.get? s.heap.objs.size = none := next_is_new F
  generalize s.heap.push { cls := .type "range_iterator", data := .fields #[rawInt a, rawInt (Builtin.Range.rangeSize a b 1), rawInt 1] } = g1 at N1 F1 hit ⊢
  generalize s.heap.objs.size = it at hit off hIL hI₀ ⊢
  have W := LCg.range_walks (prog := prg) (w := w) (A := A) (I := it) hh a n
  refine codeAny_forLoop (fun k s' => ∃ i h tk mi news, k = n - i ∧ i ≤ n ∧ s' = { s with heap := h, toks := tk } ∧ IsRangeIter h it (a + (i : Nat) * 1) ((n : Int) - (i : Nat)) 1 ∧ Fr g₀ L h mi ∧ News g₀ L h news ∧ (∀ q ∈ news, q.1 ≠ it) ∧ P i mi news) ?_ n
    ⟨0, g1, s.toks, m, news, rfl, Nat.zero_le _, rfl, ?_, F1, N1, off, hP⟩
  · rintro k s' ⟨i, h, tk, mi, nw, rfl, hi, rfl, st, Fi, Ni, offi, Pi⟩
    by_cases hlt : i < n
    · refine W.item i _ _ _ hlt st fun v h2 tk2 hPv st2 hk2 => ?_
      obtain ⟨tv, rfl⟩ := hPv
      have F2 := LCg.fr_but Fi hk2 hIL hI₀
      have N2 : News g₀ L h2 nw := LCg.news_but Ni hk2 fun p hp => offi p hp
      refine wpAny_assign_Name (wpAny_storeName_local (m := mi) hx (by rw [hL]; exact F2.ns) (fun h3 hn3 hs3 => ?_) (by rw [hke]; rfl))
      rw [hL] at hn3 hs3
      have F3 := F2.set hn3 hs3
      have st3 : h3.get? it = _ := (hs3.extBut _ _ (Ne.symm hIL) st2)
      have N3 : News g₀ L h3 ((it, _) :: nw) := fun p hp => by
        rcases List.mem_cons.mp hp with rfl | hp
        · exact ⟨st3, Ne.symm hIL, hI₀⟩
        · have z := N2 p hp
          exact ⟨hs3.extBut _ _ z.2.1 z.1, z.2⟩
      refine wpAny_mono (hbody i mi nw h3 _ it _ tv hlt Pi F3 N3 offi) (fun fl s₂ hfl => ?_) fun _ _ e => e.elim
      obtain ⟨rfl, h4, tk4, m4, nw4, rfl, F4, N4, off4, P4⟩ := hfl
      exact ⟨n - (i + 1), by omega, i + 1, h4, tk4, m4, nw4, rfl, hlt, rfl, (N4 _ List.mem_cons_self).1, F4, fun p hp => N4 p (List.mem_cons_of_mem _ hp), off4, P4⟩
    · obtain rfl : i = n := Nat.le_antisymm hi (Nat.not_lt.mp hlt)
      refine W.done _ _ _ st fun h2 tk2 hk2 => wpAny_execs_nil ?_
      exact hdone h2 _ mi nw Pi (LCg.fr_but Fi hk2 hIL hI₀) (LCg.news_but Ni hk2 fun p hp => offi p hp)
  · show g1.get? it = _
    rw [hit, hn]
    simp
end
end
section
local macro_rules | `(tactic| k_room) => `(tactic| ((try simp only [depth_mark, depth_under_make, depth_under_kw, depth_in1, depth_deeper, depth_caller]); (try dsimp only [ktrTop]); (simp only [recursionLimit] at *); omega))
local macro_rules | `(tactic| k_units) => `(tactic| ((simp only [units_in1, units_deeper, Around.mark_units, units_caller, cLine_is] at *); (try dsimp only [ktrTop] at *); omega))
local macro_rules | `(tactic| k_all) => `(tactic| assumption)
theorem fill_LF : PySem.Challenge.rw_br5015_01 = PySem.Challenge.rw_br5015_01 ∧ K = K := by
  k_with_none
  k_fill
  exact ⟨rfl, rfl⟩
/-! the geometry of the streams: a tag by search among the special addresses -/
def tagOf (dom : List (Nat × Nat)) (sp : Nat × Nat → Addr) (a : Addr) : Nat × Nat := (dom.find? fun p => decide (sp p = a)).getD (9, 0)
theorem tagOf_sp {dom : List (Nat × Nat)} {sp : Nat × Nat → Addr} (inj : ∀ p ∈ dom, ∀ q ∈ dom, sp p = sp q → p = q) {p : Nat × Nat} (hp : p ∈ dom) : tagOf dom sp (sp p) = p := by
  unfold tagOf
  cases h : dom.find? fun q => decide (sp q = sp p) with
  | none => exact absurd (decide_eq_true rfl) (List.find?_eq_none.mp h p hp)
  | some q =>
    have h1 := List.mem_of_find?_eq_some h
    have h2 := List.find?_some h
    exact inj q h1 p hp (of_decide_eq_true h2)
theorem tagOf_lt {dom : List (Nat × Nat)} {sp : Nat × Nat → Addr} {a : Addr} (h : (tagOf dom sp a).1 < 9) : ∃ p ∈ dom, a = sp p := by
  unfold tagOf at h
  cases e : dom.find? fun q => decide (sp q = a) with
  | none => rw [e] at h; exact absurd h (by decide)
  | some q => exact ⟨q, List.mem_of_find?_eq_some e, by
    have z := List.find?_some e
    exact (of_decide_eq_true z).symm⟩
def domOf (N : Nat) : List (Nat × Nat) := ((List.range 5).flatMap fun c => (List.range N).map fun k => (c, k)) ++ [(5, 0), (6, 0), (7, 0), (8, 0)]
theorem mem_domOf {N c k : Nat} (hc : c < 5) (hk : k < N) : (c, k) ∈ domOf N :=
  List.mem_append_left _ (List.mem_flatMap.mpr ⟨c, List.mem_range.mpr hc, List.mem_map.mpr ⟨k, List.mem_range.mpr hk, rfl⟩⟩)
theorem of_mem_domOf {N : Nat} {p : Nat × Nat} (h : p ∈ domOf N) : (p.1 < 5 ∧ p.2 < N) ∨ p = (5, 0) ∨ p = (6, 0) ∨ p = (7, 0) ∨ p = (8, 0) := by
  rcases List.mem_append.mp h with h | h
  · obtain ⟨c, hc, h⟩ := List.mem_flatMap.mp h
    obtain ⟨k, hk, rfl⟩ := List.mem_map.mp h
    exact .inl ⟨List.mem_range.mp hc, List.mem_range.mp hk⟩
  · exact .inr (by simpa using h)
def spOf (X D B BD C : Nat → Addr) (SL SN PL MD : Addr) (p : Nat × Nat) : Addr :=
  match p.1 with | 0 => X p.2 | 1 => D p.2 | 2 => B p.2 | 3 => BD p.2 | 4 => C p.2 | 5 => SL | 6 => SN | 7 => PL | _ => MD
def geoOf (N : Nat) (X D B BD C Y H : Nat → Addr) (SL SN PL MD : Addr) (pl : Nat → Option Int) : Geo :=
  { N, X, D, B, BD, C, Y, H, SL, SN, PL, MD, pl, tag := tagOf (domOf N) (spOf X D B BD C SL SN PL MD) }
theorem geoOk_of {N : Nat} {X D B BD C Y H : Nat → Addr} {SL SN PL MD : Addr} {pl : Nat → Option Int} (n2 : 2 ≤ N) (n7 : N ≤ 7) (pl5 : ∀ k q, pl k = some q → 0 ≤ q ∧ q ≤ 5)
    (inj : ∀ p ∈ domOf N, ∀ q ∈ domOf N, spOf X D B BD C SL SN PL MD p = spOf X D B BD C SL SN PL MD q → p = q) : GeoOk (geoOf N X D B BD C Y H SL SN PL MD pl) where
  n2 := n2
  n7 := n7
  pl5 := pl5
  tX := fun k hk => tagOf_sp inj (mem_domOf (c := 0) (by decide) hk)
  tD := fun k hk => tagOf_sp inj (mem_domOf (c := 1) (by decide) hk)
  tB := fun k hk => tagOf_sp inj (mem_domOf (c := 2) (by decide) hk)
  tE := fun k hk => tagOf_sp inj (mem_domOf (c := 3) (by decide) hk)
  tC := fun k hk => tagOf_sp inj (mem_domOf (c := 4) (by decide) hk)
  tSL := tagOf_sp inj (p := (5, 0)) (List.mem_append_right _ (by simp))
  tSN := tagOf_sp inj (p := (6, 0)) (List.mem_append_right _ (by simp))
  tPL := tagOf_sp inj (p := (7, 0)) (List.mem_append_right _ (by simp))
  tMD := tagOf_sp inj (p := (8, 0)) (List.mem_append_right _ (by simp))
  full := fun a h => by
    obtain ⟨p, hp, rfl⟩ := tagOf_lt h
    obtain ⟨c, k⟩ := p
    rcases of_mem_domOf hp with ⟨h1, h2⟩ | h | h | h | h
    · refine .inl ⟨k, h2, ?_⟩
      dsimp only at h1
      match c, h1 with
      | 0, _ => exact .inl rfl
      | 1, _ => exact .inr (.inl rfl)
      | 2, _ => exact .inr (.inr (.inl rfl))
      | 3, _ => exact .inr (.inr (.inr (.inl rfl)))
      | 4, _ => exact .inr (.inr (.inr (.inr rfl)))
    · cases h; exact .inr (.inl rfl)
    · cases h; exact .inr (.inr (.inl rfl))
    · cases h; exact .inr (.inr (.inr (.inl rfl)))
    · cases h; exact .inr (.inr (.inr (.inr rfl)))
def slot (r : Rec8) : Nat → Addr | 0 => r.X | 1 => r.D | 2 => r.B | 3 => r.BD | _ => r.C
theorem slot_ge {r : Rec8} {rest : List (Addr × Obj)} (o : r.ord rest) (c : Nat) : r.BD ≤ slot r c := by
  have b1 := Nat.le_of_lt o.a7
  have b2 := Nat.le_trans b1 (Nat.le_of_lt o.a6)
  have b3 := Nat.le_trans b2 (Nat.le_of_lt o.a5)
  have b4 := Nat.le_trans b3 (Nat.le_of_lt o.a4)
  have b5 := Nat.le_trans b4 (Nat.le_of_lt o.a3)
  match c with
  | 0 => exact b4
  | 1 => exact b3
  | 2 => exact b1
  | 3 => exact Nat.le_refl _
  | _ + 4 => exact b5
theorem slot_mem {P : Params} {base : List (Addr × Obj)} {c : Nat} : ∀ {rs : List Rec8} {r : Rec8}, r ∈ rs → ∃ o, (slot r c, o) ∈ strLed P base rs
  | r :: rs, _, .head _ => by
    show ∃ o, (slot r c, o) ∈ fbLed P r.ks r.kd r.C r.X r.D r.Y r.B r.BD r.bs r.t r.u r.t0 r.z1 r.z2 r.z3 (strLed P base rs)
    match c with
    | 0 => exact ⟨_, .tail _ (.tail _ (.tail _ (.head _)))⟩
    | 1 => exact ⟨_, .tail _ (.tail _ (.tail _ (.tail _ (.head _))))⟩
    | 2 => exact ⟨_, .tail _ (.tail _ (.tail _ (.tail _ (.tail _ (.tail _ (.head _))))))⟩
    | 3 => exact ⟨_, .tail _ (.tail _ (.tail _ (.tail _ (.tail _ (.tail _ (.tail _ (.head _)))))))⟩
    | _ + 4 => exact ⟨_, .tail _ (.tail _ (.head _))⟩
  | r :: rs, r', .tail _ h => by
    obtain ⟨o, h⟩ := slot_mem (P := P) (base := base) (c := c) h
    exact ⟨o, .tail _ (.tail _ (.tail _ (.tail _ (.tail _ (.tail _ (.tail _ (.tail _ h)))))))⟩
theorem slot_lt {P : Params} {base : List (Addr × Obj)} {r r' : Rec8} {rs : List Rec8} (o : r.ord (strLed P base rs)) (h : r' ∈ rs) (c c' : Nat) : slot r' c' < slot r c := by
  obtain ⟨ob, hm⟩ := slot_mem (P := P) (base := base) (c := c') h
  exact Nat.lt_of_lt_of_le (o.a8 _ hm) (slot_ge o c)
theorem slot_self {r : Rec8} {rest : List (Addr × Obj)} (o : r.ord rest) {c c' : Nat} (hc : c < 5) (hc' : c' < 5) (e : slot r c = slot r c') : c = c' := by
  have b1 : r.BD < r.B := o.a7
  have b2 : r.B < r.D := Nat.lt_trans o.a6 o.a5
  have b3 : r.D < r.X := o.a4
  have b4 : r.X < r.C := o.a3
  have x1 := Nat.lt_trans b1 b2
  have x2 := Nat.lt_trans x1 b3
  have x3 := Nat.lt_trans x2 b4
  have x4 := Nat.lt_trans b2 b3
  have x5 := Nat.lt_trans x4 b4
  have x6 := Nat.lt_trans b3 b4
  match c, c', hc, hc' with
  | 0, 0, _, _ => rfl
  | 1, 1, _, _ => rfl
  | 2, 2, _, _ => rfl
  | 3, 3, _, _ => rfl
  | 4, 4, _, _ => rfl
  | 0, 1, _, _ => exact absurd e (Nat.ne_of_gt b3)
  | 0, 2, _, _ => exact absurd e (Nat.ne_of_gt x4)
  | 0, 3, _, _ => exact absurd e (Nat.ne_of_gt x2)
  | 0, 4, _, _ => exact absurd e (Nat.ne_of_lt b4)
  | 1, 0, _, _ => exact absurd e (Nat.ne_of_lt b3)
  | 1, 2, _, _ => exact absurd e (Nat.ne_of_gt b2)
  | 1, 3, _, _ => exact absurd e (Nat.ne_of_gt x1)
  | 1, 4, _, _ => exact absurd e (Nat.ne_of_lt x6)
  | 2, 0, _, _ => exact absurd e (Nat.ne_of_lt x4)
  | 2, 1, _, _ => exact absurd e (Nat.ne_of_lt b2)
  | 2, 3, _, _ => exact absurd e (Nat.ne_of_gt b1)
  | 2, 4, _, _ => exact absurd e (Nat.ne_of_lt x5)
  | 3, 0, _, _ => exact absurd e (Nat.ne_of_lt x2)
  | 3, 1, _, _ => exact absurd e (Nat.ne_of_lt x1)
  | 3, 2, _, _ => exact absurd e (Nat.ne_of_lt b1)
  | 3, 4, _, _ => exact absurd e (Nat.ne_of_lt x3)
  | 4, 0, _, _ => exact absurd e (Nat.ne_of_gt b4)
  | 4, 1, _, _ => exact absurd e (Nat.ne_of_gt x6)
  | 4, 2, _, _ => exact absurd e (Nat.ne_of_gt x5)
  | 4, 3, _, _ => exact absurd e (Nat.ne_of_gt x3)
theorem slot_inj {P : Params} {base : List (Addr × Obj)} {c c' : Nat} (hc : c < 5) (hc' : c' < 5) : ∀ {rs : List Rec8} {i j : Nat} {r r' : Rec8}, StrOrd P base rs → rs[i]? = some r → rs[j]? = some r' → slot r c = slot r' c' → i = j ∧ c = c'
  | _ :: _, 0, 0, _, _, o, h1, h2, e => by
    cases h1; cases h2
    exact ⟨rfl, slot_self o.1 hc hc' e⟩
  | _ :: _, 0, j + 1, _, _, o, h1, h2, e => by
    cases h1
    exact absurd e (Nat.ne_of_gt (slot_lt o.1 (List.mem_of_getElem? (by simpa using h2)) c c'))
  | _ :: _, i + 1, 0, _, _, o, h1, h2, e => by
    cases h2
    exact absurd e (Nat.ne_of_lt (slot_lt o.1 (List.mem_of_getElem? (by simpa using h1)) c' c))
  | _ :: rs, i + 1, j + 1, _, _, o, h1, h2, e => by
    obtain ⟨h, k⟩ := slot_inj hc hc' (rs := rs) (i := i) (j := j) o.2 (by simpa using h1) (by simpa using h2) e
    exact ⟨by rw [h], k⟩
theorem ls_mem {base : List (Addr × Obj)} : ∀ {as : List Addr} {a : Addr}, a ∈ as → (a, LCg.lst []) ∈ lsLed base as
  | _ :: _, _, .head _ => .head _
  | _ :: _, _, .tail _ h => .tail _ (ls_mem h)
theorem ls_inj {base : List (Addr × Obj)} : ∀ {as : List Addr} {i j : Nat} {a : Addr}, LsOrd base as → as[i]? = some a → as[j]? = some a → i = j
  | _ :: _, 0, 0, _, _, _, _ => rfl
  | _ :: _, 0, j + 1, _, o, h1, h2 => by
    cases h1
    exact absurd (o.1 _ (ls_mem (List.mem_of_getElem? (by simpa using h2)))) (Nat.lt_irrefl _)
  | _ :: _, i + 1, 0, _, o, h1, h2 => by
    cases h2
    exact absurd (o.1 _ (ls_mem (List.mem_of_getElem? (by simpa using h1)))) (Nat.lt_irrefl _)
  | _ :: as, i + 1, j + 1, _, o, h1, h2 => by
    rw [ls_inj (as := as) (i := i) (j := j) o.2 (by simpa using h1) (by simpa using h2)]
theorem ls_base {base : List (Addr × Obj)} {p : Addr × Obj} (h : p ∈ base) : ∀ as : List Addr, p ∈ lsLed base as
  | [] => h
  | _ :: as => .tail _ (ls_base h as)
theorem ls_lt {base : List (Addr × Obj)} {p : Addr × Obj} (h : p ∈ base) : ∀ {as : List Addr} {a : Addr}, LsOrd base as → a ∈ as → p.1 < a
  | _ :: as, _, o, .head _ => o.1 _ (ls_base h as)
  | _ :: _, _, o, .tail _ hm => ls_lt h o.2 hm
end
section
local macro_rules | `(tactic| k_room) => `(tactic| ((try simp only [depth_mark, depth_under_make, depth_under_kw, depth_in1, depth_deeper, depth_caller]); (try dsimp only [ktrTop]); (simp only [recursionLimit] at *); omega))
local macro_rules | `(tactic| k_units) => `(tactic| ((simp only [units_in1, units_deeper, Around.mark_units, units_caller, cLine_is] at *); (try dsimp only [ktrTop] at *); omega))
local macro_rules | `(tactic| k_all) => `(tactic| assumption)
local macro_rules | `(tactic| k_ne) => `(tactic| ((try dsimp only); first | (refine neA ?_; with_reducible assumption) | (refine neA' ?_; with_reducible assumption)))
theorem fill_ZP : PySem.Challenge.rw_br5015_01 = PySem.Challenge.rw_br5015_01 ∧ K = K := by
  k_with_none
  k_fill
  exact ⟨rfl, rfl⟩
/-! the plain law: a walk that was stopped by a missing handler is stopped by it again; the third walk does not end with the bomb -/
def Eqv (σ τ : St) : Prop := σ.kids = τ.kids ∧ σ.bomb = τ.bomb ∧ σ.more = τ.more
theorem Eqv.refl (σ : St) : Eqv σ σ := ⟨rfl, rfl, rfl⟩
theorem Eqv.trans {a b c : St} (h : Eqv a b) (k : Eqv b c) : Eqv a c := ⟨h.1.trans k.1, h.2.1.trans k.2.1, h.2.2.trans k.2.2⟩
theorem Eqv.symm {a b : St} (h : Eqv a b) : Eqv b a := ⟨h.1.symm, h.2.1.symm, h.2.2.symm⟩
def EqR (a b : St × Res) : Prop := a.2 = b.2 ∧ Eqv a.1 b.1
theorem hand_eqv {sp : Nat} {σ τ : St} (h : Eqv σ τ) (k p : Nat) (q : Int) : EqR (hand sp σ k p q) (hand sp τ k p q) := by
  obtain ⟨h1, h2, h3⟩ := h
  unfold hand
  dsimp only
  rw [h2, h3]
  split
  · exact ⟨rfl, h1, rfl, rfl⟩
  · split
    · exact ⟨rfl, by show put σ.kids p _ = put τ.kids p _; rw [h1], rfl, rfl⟩
    · exact ⟨rfl, h1, rfl, rfl⟩
theorem loopK_eqv {step : St → Nat → St × Res} {k : Nat} (hs : ∀ σ τ j, Eqv σ τ → EqR (step σ j) (step τ j)) : ∀ m σ τ i, Eqv σ τ → EqR (loopK step m σ k i) (loopK step m τ k i)
  | 0, σ, τ, _, h => ⟨rfl, h⟩
  | m + 1, σ, τ, i, h => by
    unfold loopK
    rw [← h.1]
    cases e : (σ.kids k)[i]? with
    | none => exact ⟨rfl, h⟩
    | some j =>
      dsimp only
      have z := hs σ τ j h
      generalize step σ j = a at z
      generalize step τ j = b at z
      obtain ⟨a1, a2⟩ := a
      obtain ⟨b1, b2⟩ := b
      obtain ⟨z1, z2⟩ := z
      dsimp only at z1 z2
      subst z1
      cases a2 with
      | done => exact loopK_eqv hs m a1 b1 (i + 1) z2
      | bomb => exact ⟨rfl, z2⟩
      | none => exact ⟨rfl, z2⟩
theorem walk_eqv {pl : Nat → Option Int} {sp : Nat} : ∀ n σ τ k par, Eqv σ τ → EqR (walk pl sp n σ k par) (walk pl sp n τ k par)
  | 0, _, _, _, _, h => ⟨rfl, h⟩
  | n + 1, σ, τ, k, par, h => by
    have z := loopK_eqv (k := k) (step := fun σ j => walk pl sp n σ j (some k)) (fun σ τ j h => walk_eqv n σ τ j (some k) h) 8 σ τ 0 h
    unfold walk
    generalize loopK (fun σ j => walk pl sp n σ j (some k)) 8 σ k 0 = a at z
    generalize loopK (fun σ j => walk pl sp n σ j (some k)) 8 τ k 0 = b at z
    obtain ⟨a1, a2⟩ := a
    obtain ⟨b1, b2⟩ := b
    obtain ⟨z1, z2⟩ := z
    dsimp only at z1 z2
    subst z1
    cases a2 with
    | bomb => exact ⟨rfl, z2⟩
    | none => exact ⟨rfl, z2⟩
    | done =>
      dsimp only
      have z3 : Eqv { a1 with kids := put a1.kids k [], at_ := put a1.at_ k (σ.at_ k) } { b1 with kids := put b1.kids k [], at_ := put b1.at_ k (τ.at_ k) } := ⟨by show put a1.kids k [] = put b1.kids k []; rw [z2.1], z2.2.1, z2.2.2⟩
      cases par with
      | none => exact ⟨rfl, z3⟩
      | some p =>
        dsimp only
        cases pl k with
        | none => exact ⟨rfl, z3⟩
        | some q => exact hand_eqv z3 k p q
/-- a stream that is done: no child, not to fire anything any more -/
def Calm (pl : Nat → Option Int) (σ : St) (j : Nat) : Prop := σ.kids j = [] ∧ σ.bomb ≠ (j : Int) ∧ σ.more ≠ (j : Int) ∧ ∃ q, pl j = some q
theorem neg_ne (j : Nat) : (-1 : Int) ≠ (j : Int) := fun h => by
  have := Int.natCast_nonneg j
  omega
theorem hand_calm {pl : Nat → Option Int} {sp : Nat} {σ : St} {j k p : Nat} {q : Int} (h : Calm pl σ j) (hp : p ≠ j) : Calm pl (hand sp σ k p q).1 j := by
  obtain ⟨h1, h2, h3, h4⟩ := h
  unfold hand
  dsimp only
  split
  · exact ⟨h1, neg_ne j, h3, h4⟩
  · split
    · exact ⟨by show put σ.kids p _ j = []; rw [put_ne (Ne.symm hp)]; exact h1, h2, neg_ne j, h4⟩
    · exact ⟨h1, h2, h3, h4⟩
theorem loopK_calm {pl : Nat → Option Int} {step : St → Nat → St × Res} {k j : Nat} (hs : ∀ σ c, Calm pl σ j → Calm pl (step σ c).1 j) : ∀ m σ i, Calm pl σ j → Calm pl (loopK step m σ k i).1 j
  | 0, σ, _, h => h
  | m + 1, σ, i, h => by
    unfold loopK
    split
    · exact h
    · rename_i c hc
      have z := hs σ c h
      split
      · rename_i σ' e; rw [e] at z; exact loopK_calm hs m σ' (i + 1) z
      · rename_i σ' r _ e; rw [e] at z; exact z
theorem loopK_nil {step : St → Nat → St × Res} {m : Nat} {σ : St} {k i : Nat} (h : σ.kids k = []) : loopK step m σ k i = (σ, .done) := by
  cases m with
  | zero => rfl
  | succ m => unfold loopK; rw [h]; rfl
theorem walk_calm {pl : Nat → Option Int} {sp j : Nat} : ∀ n σ x par, Calm pl σ j → par ≠ some j → Calm pl (walk pl sp n σ x par).1 j
  | 0, _, _, _, h, _ => h
  | n + 1, σ, x, par, h, hp => by
    have z : Calm pl (loopK (fun σ c => walk pl sp n σ c (some x)) 8 σ x 0).1 j := by
      by_cases e : x = j
      · rw [loopK_nil (e ▸ h.1)]; exact h
      · exact loopK_calm (fun σ c h => walk_calm n σ c (some x) h fun q => e (Option.some.inj q)) 8 σ 0 h
    unfold walk
    generalize loopK (fun σ c => walk pl sp n σ c (some x)) 8 σ x 0 = a at z
    obtain ⟨a1, a2⟩ := a
    dsimp only at z
    cases a2 with
    | bomb => exact z
    | none => exact z
    | done =>
      have z3 : Calm pl { a1 with kids := put a1.kids x [], at_ := put a1.at_ x (σ.at_ x) } j := ⟨by
        show put a1.kids x [] j = []
        by_cases e : j = x
        · subst e; rw [put_self]
        · rw [put_ne e]; exact z.1, z.2⟩
      dsimp only
      cases par with
      | none => exact z3
      | some p =>
        dsimp only
        cases pl x with
        | none => exact z3
        | some q => exact hand_calm z3 fun e => hp (by rw [e])
theorem walk_again {pl : Nat → Option Int} {sp n : Nat} {σ : St} {j p : Nat} (h : Calm pl σ j) : EqR (walk pl sp (n + 1) σ j (some p)) (σ, .done) := by
  obtain ⟨h1, h2, h3, q, h4⟩ := h
  unfold walk
  rw [loopK_nil h1]
  dsimp only
  rw [h4]
  dsimp only
  unfold hand
  dsimp only
  rw [if_neg h2, if_neg h3]
  refine ⟨rfl, ?_, rfl, rfl⟩
  show put σ.kids j [] = σ.kids
  funext i
  by_cases e : i = j
  · subst e; rw [put_self, h1]
  · rw [put_ne e]
theorem walk_done_calm {pl : Nat → Option Int} {sp n : Nat} {σ : St} {j p : Nat} (hp : p ≠ j) (h : (walk pl sp (n + 1) σ j (some p)).2 = .done) : Calm pl (walk pl sp (n + 1) σ j (some p)).1 j := by
  unfold walk at h ⊢
  generalize loopK (fun σ c => walk pl sp n σ c (some j)) 8 σ j 0 = a at h ⊢
  obtain ⟨a1, a2⟩ := a
  cases a2 with
  | bomb => cases h
  | none => cases h
  | done =>
    dsimp only at h ⊢
    cases e : pl j with
    | none => rw [e] at h; cases h
    | some q =>
      rw [e] at h
      dsimp only at h ⊢
      unfold hand at h ⊢
      dsimp only at h ⊢
      split at h
      · cases h
      · rename_i hb
        rw [if_neg hb]
        split at h
        · rename_i hm
          rw [if_pos hm]
          exact ⟨by show put (put a1.kids j []) p _ j = []; rw [put_ne (Ne.symm hp), put_self], hb, neg_ne j, q, e⟩
        · rename_i hm
          rw [if_neg hm]
          exact ⟨by show put a1.kids j [] j = []; rw [put_self], hb, hm, q, e⟩
theorem walk_grow {N sp : Nat} {pl : Nat → Option Int} (hpl : ∀ k q, pl k = some q → 0 ≤ q ∧ q ≤ 5) (hsp : sp + 1 = N) : ∀ n σ x par, Inv N σ → x < N → (∀ p, par = some p → p < x) → ∀ k, k < x → ∃ e, (walk pl sp n σ x par).1.kids k = σ.kids k ++ e
  | 0, σ, x, par, _, _, _, k, _ => ⟨[], by simp [walk]⟩
  | n + 1, σ, x, par, I, hx, hp, k, hk => by
    have hI : ∀ σ j, Inv N σ → x < j → j < N → Inv N (walk pl sp n σ j (some x)).1 := fun σ j hσ h1 h2 => walk_inv hpl hsp n σ j (some x) hσ h2 fun p e => by cases e; exact h1
    have lp : ∀ m σ i, Inv N σ → ∃ e, (loopK (fun σ j => walk pl sp n σ j (some x)) m σ x i).1.kids k = σ.kids k ++ e := by
      intro m
      induction m with
      | zero => intro σ i _; exact ⟨[], by simp [loopK]⟩
      | succ m ih =>
        intro σ i I
        unfold loopK
        split
        · exact ⟨[], by simp⟩
        · rename_i j hj
          have hm := I.up x j (List.mem_of_getElem? hj)
          obtain ⟨e, he⟩ := walk_grow hpl hsp n σ j (some x) I hm.2 (fun p e => by cases e; exact hm.1) k (by omega)
          have hi := hI σ j I hm.1 hm.2
          split
          · rename_i σ' e'
            rw [e'] at he hi
            obtain ⟨e2, he2⟩ := ih σ' (i + 1) hi
            exact ⟨e ++ e2, by rw [he2]; dsimp only at he; rw [he, List.append_assoc]⟩
          · rename_i σ' r _ e'
            rw [e'] at he
            exact ⟨e, he⟩
    obtain ⟨e, he⟩ := lp 8 σ 0 I
    unfold walk
    generalize loopK (fun σ j => walk pl sp n σ j (some x)) 8 σ x 0 = a at he
    obtain ⟨a1, a2⟩ := a
    dsimp only at he
    cases a2 with
    | bomb => exact ⟨e, he⟩
    | none => exact ⟨e, he⟩
    | done =>
      dsimp only
      have z : put a1.kids x [] k = σ.kids k ++ e := by rw [put_ne (by omega)]; exact he
      cases par with
      | none => exact ⟨e, z⟩
      | some p =>
        dsimp only
        cases pl x with
        | none => exact ⟨e, z⟩
        | some q =>
          dsimp only
          unfold hand
          dsimp only
          split
          · exact ⟨e, z⟩
          · split
            · by_cases h : k = p
              · subst h
                exact ⟨e ++ [sp], by show put _ k _ k = _; rw [put_self, z, List.append_assoc]⟩
              · exact ⟨e, by show put _ p _ k = _; rw [put_ne h]; exact z⟩
            · exact ⟨e, z⟩
theorem get_grow {α : Type} {l e : List α} {i : Nat} {c : α} (h : l[i]? = some c) : (l ++ e)[i]? = some c := by
  have hi : i < l.length := by
    by_cases h' : i < l.length
    · exact h'
    · rw [List.getElem?_eq_none (by omega)] at h; cases h
  rw [List.getElem?_append_left hi]; exact h
theorem grow_get {α : Type} {l e : List α} {i j : Nat} {c d : α} (h : l[j]? = some d) (hij : i ≤ j) (hc : (l ++ e)[i]? = some c) : l[i]? = some c := by
  have hi : j < l.length := by
    by_cases h' : j < l.length
    · exact h'
    · rw [List.getElem?_eq_none (by omega)] at h; cases h
  rw [List.getElem?_append_left (by omega)] at hc; exact hc
/-- the loop comes again to the stream that stopped it -/
theorem loop_again {pl : Nat → Option Int} {sp n k j i' : Nat} : ∀ m i τ, i ≤ i' → i' < i + m → (∀ t c, t < i' → (τ.kids k)[t]? = some c → n = 0 ∨ Calm pl τ c) → (τ.kids k)[i']? = some j → (∀ τ', Eqv τ' τ → (walk pl sp n τ' j (some k)).2 = .none) →
    (loopK (fun σ j => walk pl sp n σ j (some k)) m τ k i).2 = .none
  | 0, i, τ, h1, h2, _, _, _ => by omega
  | m + 1, i, τ, h1, h2, hc, hj, hn => by
    unfold loopK
    by_cases e : i = i'
    · subst e
      rw [hj]
      dsimp only
      have z := hn τ (Eqv.refl τ)
      generalize walk pl sp n τ j (some k) = a at z
      obtain ⟨a1, a2⟩ := a
      dsimp only at z
      subst z
      rfl
    · have hlt : i < i' := by omega
      obtain ⟨c, hci⟩ : ∃ c, (τ.kids k)[i]? = some c := by
        have hl : i' < (τ.kids k).length := by
          by_cases h' : i' < (τ.kids k).length
          · exact h'
          · rw [List.getElem?_eq_none (by omega)] at hj; cases hj
        exact ⟨_, List.getElem?_eq_getElem (by omega : i < (τ.kids k).length)⟩
      rw [hci]
      dsimp only
      have z : EqR (walk pl sp n τ c (some k)) (τ, .done) := by
        rcases hc i c hlt hci with h0 | h0
        · subst h0; exact ⟨rfl, Eqv.refl τ⟩
        · cases n with
          | zero => exact ⟨rfl, Eqv.refl τ⟩
          | succ n => exact walk_again h0
      generalize walk pl sp n τ c (some k) = a at z
      obtain ⟨a1, a2⟩ := a
      obtain ⟨z1, z2⟩ := z
      dsimp only at z1 z2
      subst z1
      dsimp only
      refine loop_again (i' := i') (j := j) m (i + 1) a1 (by omega) (by omega) (fun t d ht hd => ?_) (by rw [z2.1]; exact hj) fun τ' h => hn τ' (h.trans z2)
      rw [z2.1] at hd
      rcases hc t d ht hd with h0 | h0
      · exact .inl h0
      · exact .inr ⟨by rw [z2.1]; exact h0.1, by rw [z2.2.1]; exact h0.2.1, by rw [z2.2.2]; exact h0.2.2⟩
theorem stop_again {N sp : Nat} {pl : Nat → Option Int} (hpl : ∀ k q, pl k = some q → 0 ≤ q ∧ q ≤ 5) (hsp : sp + 1 = N) : ∀ n σ k par, Inv N σ → k < N → (∀ p, par = some p → p < k) → (walk pl sp n σ k par).2 = .none →
    ∀ τ, Eqv τ (walk pl sp n σ k par).1 → (walk pl sp n τ k par).2 = .none
  | 0, _, _, _, _, _, _, h => by cases h
  | n + 1, σ, k, par, I, hk, hp, h => by
    have hI : ∀ σ j, Inv N σ → k < j → j < N → Inv N (walk pl sp n σ j (some k)).1 := fun σ j hσ h1 h2 => walk_inv hpl hsp n σ j (some k) hσ h2 fun p e => by cases e; exact h1
    have lp : ∀ m σ i, Inv N σ → (loopK (fun σ j => walk pl sp n σ j (some k)) m σ k i).2 = .none → (∀ t c, t < i → (σ.kids k)[t]? = some c → n = 0 ∨ Calm pl σ c) →
        ∃ i' j, i' < i + m ∧ ((loopK (fun σ j => walk pl sp n σ j (some k)) m σ k i).1.kids k)[i']? = some j ∧ (∀ t c, t < i' → ((loopK (fun σ j => walk pl sp n σ j (some k)) m σ k i).1.kids k)[t]? = some c → n = 0 ∨ Calm pl (loopK (fun σ j => walk pl sp n σ j (some k)) m σ k i).1 c) ∧
          ∀ τ, Eqv τ (loopK (fun σ j => walk pl sp n σ j (some k)) m σ k i).1 → (walk pl sp n τ j (some k)).2 = .none := by
      intro m
      induction m with
      | zero => intro σ i _ h; cases h
      | succ m ih =>
        intro σ i I hl hc
        unfold loopK at hl ⊢
        cases hj : (σ.kids k)[i]? with
        | none => rw [hj] at hl; cases hl
        | some j =>
          rw [hj] at hl
          dsimp only at hl ⊢
          have hm := I.up k j (List.mem_of_getElem? hj)
          have hi := hI σ j I hm.1 hm.2
          obtain ⟨e, he⟩ := walk_grow hpl hsp n σ j (some k) I hm.2 (fun p e => by cases e; exact hm.1) k hm.1
          have hca : ∀ t c, t < i → ((walk pl sp n σ j (some k)).1.kids k)[t]? = some c → n = 0 ∨ Calm pl (walk pl sp n σ j (some k)).1 c := fun t c ht hq => by
            rw [he] at hq
            have hq := grow_get hj (Nat.le_of_lt ht) hq
            rcases hc t c ht hq with h0 | h0
            · exact .inl h0
            · exact .inr (walk_calm n σ j (some k) h0 fun z => by
                have := (I.up k c (List.mem_of_getElem? hq)).1
                cases z; omega)
          have hdn : (walk pl sp n σ j (some k)).2 = .done → n = 0 ∨ Calm pl (walk pl sp n σ j (some k)).1 j := fun hd => by
            cases n with
            | zero => exact .inl rfl
            | succ n => exact .inr (walk_done_calm (Nat.ne_of_lt hm.1) hd)
          have hst := stop_again hpl hsp n σ j (some k) I hm.2 fun p e => by cases e; exact hm.1
          have hgt : ((walk pl sp n σ j (some k)).1.kids k)[i]? = some j := by rw [he]; exact get_grow hj
          generalize walk pl sp n σ j (some k) = a at hl hi he hca hdn hst hgt ⊢
          obtain ⟨a1, a2⟩ := a
          cases a2 with
          | bomb => cases hl
          | none => exact ⟨i, j, by show i < i + (m + 1); omega, hgt, hca, hst rfl⟩
          | done =>
            dsimp only at hl hi he hca hdn hst hgt ⊢
            obtain ⟨i', j', x1, x2, x3, x4⟩ := ih a1 (i + 1) hi hl (fun t c ht hq => by
              by_cases ht' : t < i
              · exact hca t c ht' hq
              · have : t = i := by omega
                subst this
                rw [hgt] at hq
                cases hq
                exact hdn rfl)
            exact ⟨i', j', by show i' < i + (m + 1); omega, x2, x3, x4⟩
    intro τ hτ
    have z := lp 8 σ 0 I
    unfold walk at h hτ ⊢
    generalize loopK (fun σ j => walk pl sp n σ j (some k)) 8 σ k 0 = a at z h hτ
    obtain ⟨a1, a2⟩ := a
    cases a2 with
    | bomb => cases h
    | none =>
      dsimp only at h hτ z
      obtain ⟨i', j, x1, x2, x3, x4⟩ := z rfl fun t c ht => by omega
      have y := loop_again (pl := pl) (sp := sp) (n := n) (k := k) (j := j) (i' := i') 8 0 τ (Nat.zero_le _) x1 (fun t c ht hq => by
        rw [hτ.1] at hq
        rcases x3 t c ht hq with h0 | h0
        · exact .inl h0
        · exact .inr ⟨by rw [hτ.1]; exact h0.1, by rw [hτ.2.1]; exact h0.2.1, by rw [hτ.2.2]; exact h0.2.2⟩) (by rw [hτ.1]; exact x2) fun τ' h' => x4 τ' (h'.trans hτ)
      generalize loopK (fun σ j => walk pl sp n σ j (some k)) 8 τ k 0 = b at y
      obtain ⟨b1, b2⟩ := b
      dsimp only at y
      subst y
      rfl
    | done =>
      dsimp only at h hτ
      cases par with
      | none => cases h
      | some p =>
        dsimp only at h hτ ⊢
        cases e : pl k with
        | some q =>
          rw [e] at h
          dsimp only at h
          unfold hand at h
          dsimp only at h
          split at h
          · cases h
          · split at h <;> cases h
        | none =>
          rw [e] at hτ
          have hk0 : τ.kids k = [] := by rw [hτ.1]; exact put_self ..
          rw [loopK_nil hk0]
theorem hand_dud {sp : Nat} {σ : St} {k p : Nat} {q : Int} (h : σ.bomb = -1) : (hand sp σ k p q).2 ≠ .bomb ∧ (hand sp σ k p q).1.bomb = -1 := by
  unfold hand
  dsimp only
  rw [if_neg (by rw [h]; exact neg_ne k)]
  split
  · exact ⟨(by intro x; cases x), h⟩
  · exact ⟨(by intro x; cases x), h⟩
theorem loopK_dud {step : St → Nat → St × Res} {k : Nat} (hs : ∀ σ j, σ.bomb = -1 → (step σ j).2 ≠ .bomb ∧ (step σ j).1.bomb = -1) : ∀ m σ i, σ.bomb = -1 → (loopK step m σ k i).2 ≠ .bomb ∧ (loopK step m σ k i).1.bomb = -1
  | 0, σ, _, h => ⟨(by intro x; cases x), h⟩
  | m + 1, σ, i, h => by
    unfold loopK
    split
    · exact ⟨(by intro x; cases x), h⟩
    · rename_i j hj
      have z := hs σ j h
      split
      · rename_i σ' e; rw [e] at z; exact loopK_dud hs m σ' (i + 1) z.2
      · rename_i σ' r _ e; rw [e] at z; exact z
theorem walk_dud {pl : Nat → Option Int} {sp : Nat} : ∀ n σ k par, σ.bomb = -1 → (walk pl sp n σ k par).2 ≠ .bomb ∧ (walk pl sp n σ k par).1.bomb = -1
  | 0, _, _, _, h => ⟨(by intro x; cases x), h⟩
  | n + 1, σ, k, par, h => by
    have z := loopK_dud (k := k) (step := fun σ j => walk pl sp n σ j (some k)) (fun σ j h => walk_dud n σ j (some k) h) 8 σ 0 h
    unfold walk
    generalize loopK (fun σ j => walk pl sp n σ j (some k)) 8 σ k 0 = a at z
    obtain ⟨a1, a2⟩ := a
    cases a2 with
    | bomb => exact z
    | none => exact z
    | done =>
      dsimp only at z ⊢
      cases par with
      | none => exact ⟨(by intro x; cases x), z.2⟩
      | some p =>
        dsimp only
        cases pl k with
        | none => exact ⟨(by intro x; cases x), z.2⟩
        | some q => exact hand_dud z.2
theorem root_done {pl : Nat → Option Int} {sp n : Nat} {σ : St} {k : Nat} (h : (walk pl sp (n + 1) σ k none).2 = .done) : (walk pl sp (n + 1) σ k none).1.kids k = [] := by
  unfold walk at h ⊢
  generalize loopK (fun σ j => walk pl sp n σ j (some k)) 8 σ k 0 = a at h ⊢
  obtain ⟨a1, a2⟩ := a
  cases a2 with
  | bomb => cases h
  | none => cases h
  | done => exact put_self ..
theorem root_empty {pl : Nat → Option Int} {sp n : Nat} {σ : St} {k : Nat} (h : σ.kids k = []) : (walk pl sp (n + 1) σ k none).2 = .done := by
  unfold walk
  rw [loopK_nil h]
/-- the third walk ends well or at a missing handler -/
theorem third_walk {N sp n : Nat} {pl : Nat → Option Int} (hpl : ∀ k q, pl k = some q → 0 ≤ q ∧ q ≤ 5) (hsp : sp + 1 = N) (hbomb : ∀ σ, (walk pl sp (n + 1) σ 0 none).2 = .bomb → (walk pl sp (n + 1) σ 0 none).1.bomb = -1)
    {σ τ υ : St} (I : Inv N σ) (J : Inv N τ) (h0 : 0 < N) (hτ : Eqv τ (walk pl sp (n + 1) σ 0 none).1) (hυ : Eqv υ (walk pl sp (n + 1) τ 0 none).1) :
    ((walk pl sp (n + 1) υ 0 none).2 = .done ∧ (walk pl sp (n + 1) υ 0 none).1.kids 0 = []) ∨ (walk pl sp (n + 1) υ 0 none).2 = .none := by
  have nx : ∀ a b, Inv N a → Eqv b (walk pl sp (n + 1) a 0 none).1 → ((walk pl sp (n + 1) a 0 none).2 = .done → (walk pl sp (n + 1) b 0 none).2 = .done) ∧ ((walk pl sp (n + 1) a 0 none).2 = .none → (walk pl sp (n + 1) b 0 none).2 = .none) := fun a b Ia h =>
    ⟨fun hd => root_empty (by rw [h.1]; exact root_done hd), fun hn => stop_again hpl hsp (n + 1) a 0 none Ia h0 (by intro p e; cases e) hn b h⟩
  have n1 := nx σ τ I hτ
  have n2 := nx τ υ J hυ
  have r2 : (walk pl sp (n + 1) τ 0 none).2 ≠ .bomb := by
    cases r1 : (walk pl sp (n + 1) σ 0 none).2 with
    | done => rw [n1.1 r1]; intro x; cases x
    | none => rw [n1.2 r1]; intro x; cases x
    | bomb => exact (walk_dud (n + 1) τ 0 none (by rw [hτ.2.1]; exact hbomb σ r1)).1
  cases e2 : (walk pl sp (n + 1) τ 0 none).2 with
  | done => exact .inl ⟨n2.1 e2, root_done (n2.1 e2)⟩
  | none => exact .inr (n2.2 e2)
  | bomb => exact absurd e2 r2
end
section
local macro_rules | `(tactic| k_room) => `(tactic| ((try simp only [depth_mark, depth_under_make, depth_under_kw, depth_in1, depth_deeper, depth_caller]); (try dsimp only [ktrTop]); (simp only [recursionLimit] at *); omega))
local macro_rules | `(tactic| k_units) => `(tactic| ((simp only [units_in1, units_deeper, Around.mark_units, units_caller, cLine_is] at *); (try dsimp only [ktrTop] at *); omega))
local macro_rules | `(tactic| k_all) => `(tactic| assumption)
theorem fill_LG : PySem.Challenge.rw_br5015_01 = PySem.Challenge.rw_br5015_01 ∧ K = K := by
  k_with_none
  k_fill
  exact ⟨rfl, rfl⟩
/-! the world of statement 14: the streams' side (A, f), the law's own lists without `due` (B, f'), the table of the handler's code -/
def growF (es : List (Addr × Obj)) (f : Addr → Obj) : Addr → Obj := es.foldr (fun e f => upd f e.1 e.2) f
theorem grow_old {f : Addr → Obj} {a : Addr} : ∀ {es : List (Addr × Obj)}, a ∉ es.map (·.1) → growF es f a = f a
  | [], _ => rfl
  | e :: es, h => by
    show upd (growF es f) e.1 e.2 a = f a
    simp only [List.map_cons, List.mem_cons, not_or] at h
    rw [upd_ne h.1]
    exact grow_old h.2
theorem grow_at {f : Addr → Obj} {x : Addr × Obj} : ∀ {es : List (Addr × Obj)}, (es.map (·.1)).Nodup → x ∈ es → growF es f x.1 = x.2
  | e :: es, hn, h => by
    show upd (growF es f) e.1 e.2 x.1 = x.2
    rw [List.map_cons, List.nodup_cons] at hn
    rcases List.mem_cons.mp h with rfl | h
    · exact upd_self _ _ _
    · rw [upd_ne fun (z : x.1 = e.1) => hn.1 (z ▸ List.mem_map_of_mem (f := (·.1)) h)]
      exact grow_at hn.2 h
theorem grow_led {A : List Addr} {f : Addr → Obj} : ∀ {es : List (Addr × Obj)}, (es.map (·.1)).Nodup → (∀ e ∈ es, e.1 ∉ A) → led (es.map (·.1) ++ A) (growF es f) = es ++ led A f
  | [], _, _ => rfl
  | e :: es, hn, h => by
    rw [List.map_cons, List.nodup_cons] at hn
    have hx : e.1 ∉ es.map (·.1) ++ A := fun z => (List.mem_append.mp z).elim hn.1 (h e (.head _))
    show led (e.1 :: (es.map (·.1) ++ A)) (upd (growF es f) e.1 e.2) = (e.1, e.2) :: (es ++ led A f)
    rw [← led_cons hx, grow_led hn.2 fun x hx => h x (.tail _ hx)]
theorem grow_wd {w : World} {nm : Value} {g : Geo} {pre : List (Int × Int × Int)} {σ : St} {A : List Addr} {f : Addr → Obj} (G : GeoOk g) (W : Wd w nm g pre σ A f) :
    ∀ {es : List (Addr × Obj)}, (es.map (·.1)).Nodup → (∀ e ∈ es, e.1 ∉ A) → Wd w nm g pre σ (es.map (·.1) ++ A) (growF es f)
  | [], _, _ => W
  | e :: es, hn, h => by
    rw [List.map_cons, List.nodup_cons] at hn
    have hx : e.1 ∉ es.map (·.1) ++ A := fun z => (List.mem_append.mp z).elim hn.1 (h e (.head _))
    exact (grow_wd G W hn.2 fun x hx => h x (.tail _ hx)).grow G hx
abbrev lw14 (tab : Obj) (A : List Addr) (f : Addr → Obj) (B : List Addr) (f' : Addr → Obj) (X : List (Addr × Obj)) : List (Addr × Obj) := (1152, tab) :: (led A f ++ (led B f' ++ X))
def TabOk (g : Geo) (A : List Addr) (f : Addr → Obj) (tab : Obj) : Prop :=
  tab = tabObj #[] ∨ ∃ c oc vs t, tab = tabObj (#[] ++ #[rawInt 675, rawInt 11, .ref c]) ∧ c ∈ A ∧ 9 ≤ (g.tag c).1 ∧ f c = oc ∧ oc.data = .fields vs ∧ vs[1]? = some (.str lamQ t)
structure Apart (A B : List Addr) (X : List (Addr × Obj)) : Prop where
  tA : (1152 : Nat) ∉ A
  tB : (1152 : Nat) ∉ B
  ab : ∀ a ∈ A, a ∉ B
  xs : ∀ q ∈ X, q.1 ≠ (1152 : Nat) ∧ q.1 ∉ A ∧ q.1 ∉ B
def LamAt (nm : Value) (g : Geo) (A : List Addr) (f : Addr → Obj) (k : Nat) (LM : Addr) : Prop :=
  ∃ c l oc vs tq ctv o1 o2 o3 o4 o5 o6 tk, (LM ∈ A ∧ 9 ≤ (g.tag LM).1) ∧ (c ∈ A ∧ 9 ≤ (g.tag c).1) ∧ (l + 1 + 1 + 1 + 1 + 1 + 1 ∈ A ∧ 9 ≤ (g.tag (l + 1 + 1 + 1 + 1 + 1 + 1)).1) ∧ (l + 1 + 1 + 1 + 1 + 1 ∈ A ∧ 9 ≤ (g.tag (l + 1 + 1 + 1 + 1 + 1)).1) ∧ (l + 1 + 1 + 1 + 1 ∈ A ∧ 9 ≤ (g.tag (l + 1 + 1 + 1 + 1)).1) ∧ (l + 1 + 1 + 1 ∈ A ∧ 9 ≤ (g.tag (l + 1 + 1 + 1)).1) ∧ (l + 1 + 1 ∈ A ∧ 9 ≤ (g.tag (l + 1 + 1)).1) ∧ (l + 1 ∈ A ∧ 9 ≤ (g.tag (l + 1)).1) ∧
    f LM = lamObj nm l c ctv ∧ f c = oc ∧ oc.data = .fields vs ∧ vs[1]? = some (.str lamQ tq) ∧
    f (l + 1 + 1 + 1 + 1 + 1 + 1) = o1 ∧ f (l + 1 + 1 + 1 + 1 + 1) = o2 ∧ f (l + 1 + 1 + 1 + 1) = o3 ∧ f (l + 1 + 1 + 1) = o4 ∧ f (l + 1 + 1) = o5 ∧ f (l + 1) = o6 ∧
    o1.data = .cell (some (.ref (g.X g.sp))) ∧ o2.data = .cell (some (.ref g.MD)) ∧ o3.data = .cell (some (.ref g.PL)) ∧ o4.data = .cell (some (.ref g.SN)) ∧ o5.data = .cell (some (.ref g.SL)) ∧ o6.data = .cell (some (.int (k : Int) tk))
theorem TabOk.mono {g : Geo} {A A' : List Addr} {f f' : Addr → Obj} {tab : Obj} (h : TabOk g A f tab) (hm : ∀ a ∈ A, 9 ≤ (g.tag a).1 → a ∈ A' ∧ f' a = f a) : TabOk g A' f' tab := by
  rcases h with h | ⟨c, oc, vs, t, h1, h2, h3, h4, h5, h6⟩
  · exact .inl h
  · exact .inr ⟨c, oc, vs, t, h1, (hm c h2 h3).1, h3, (hm c h2 h3).2.trans h4, h5, h6⟩
section
variable {w : World} {mean : ExcName → Option Value} {mg mb : Str → Option Value}
  {dp un : Nat} {gd : Option (List Code)} {cn : Str} {cs : Scope} {a : Addr} {ccd : Value} {cl : List (Str × Addr)} {outer : List Env} {A₀ : Around} {base h₀ : Heap} {L : Addr} {m : Str → Option Value} {s : Shared}
  {Q E : Value → Shared → Prop} {g : Geo} {pre : List (Int × Int × Int)} {σ : St} {A B : List Addr} {f f' : Addr → Obj} {X : List (Addr × Obj)} {tab : Obj}
theorem Apart.grow (ap : Apart A B X) {es : List (Addr × Obj)} (h : ∀ e ∈ es, e.1 ≠ (1152 : Nat) ∧ e.1 ∉ B ∧ ∀ q ∈ X, q.1 ≠ e.1) : Apart (es.map (·.1) ++ A) B X := by
  have key : ∀ x, x ∈ es.map (·.1) → ∃ e ∈ es, e.1 = x := fun x hx => by
    obtain ⟨e, he, rfl⟩ := List.mem_map.mp hx
    exact ⟨e, he, rfl⟩
  refine ⟨fun hm => ?_, ap.tB, fun a ha => ?_, fun q hq => ⟨(ap.xs q hq).1, fun hm => ?_, (ap.xs q hq).2.2⟩⟩
  · rcases List.mem_append.mp hm with hm | hm
    · obtain ⟨e, he, z⟩ := key _ hm; exact (h e he).1 z
    · exact ap.tA hm
  · rcases List.mem_append.mp ha with hm | hm
    · obtain ⟨e, he, z⟩ := key _ hm; rw [← z]; exact (h e he).2.1
    · exact ap.ab a hm
  · rcases List.mem_append.mp hm with hm | hm
    · obtain ⟨e, he, z⟩ := key _ hm; exact (h e he).2.2 q hq z.symm
    · exact (ap.xs q hq).2.1 hm
theorem handler_W (G : GeoOk g) {k : Nat} {tk : Tok} (hB : Below A₀ base outer h₀) (F : Fr h₀ L s.heap m) (X₀ : (K w.params).In h₀) (N : News h₀ L s.heap (lw14 tab A f B f' X)) (ht : TabOk g A f tab) (ap : Apart A B X)
  (hT9 : CodeHd base 1156 1152) (T : Top topProg lo mean mg mb h₀) (hk : cs.kind = .function) (W : Wd w ((mg "__name__").getD .none) g pre σ A f) (hd : dp + 10 < recursionLimit) (hu : un + 100 < cLine)
  (ret : ∀ h' A' fA tab' LM tk', Fr h₀ L h' m → News h₀ L h' (lw14 tab' A' fA B f' X) → TabOk g A' fA tab' → Apart A' B X → Wd w ((mg "__name__").getD .none) g pre σ A' fA → LamAt ((mg "__name__").getD .none) g A' fA k LM → Q (.ref LM) { s with heap := h', toks := tk' }) :
  wpAny (model prg w) (ktrTop dp un gd cn cs L a ccd cl outer) (call (.ref 1157) [.int (k : Int) tk, .ref g.SL, .ref g.SN, .ref g.PL, .ref g.MD, .ref (g.X g.sp)]) Q E s := by
  have n1152 : ∀ q ∈ led A f ++ (led B f' ++ X), q.1 ≠ (1152 : Nat) := fun q hq z => by
    obtain ⟨b, o⟩ := q
    rcases List.mem_append.mp hq with hq | hq
    · exact ap.tA (by have := (mem_led.mp hq).1; rwa [show b = 1152 from z] at this)
    · rcases List.mem_append.mp hq with hq | hq
      · exact ap.tB (by have := (mem_led.mp hq).1; rwa [show b = 1152 from z] at this)
      · exact (ap.xs _ hq).1 z
  have low : ∀ {l : Addr}, (∀ q ∈ led A f ++ (led B f' ++ X), q.1 < l) → ∀ x, l ≤ x → x ∉ A ∧ x ∉ B ∧ ∀ q ∈ X, q.1 ≠ x := fun hl x hx =>
    ⟨fun hm => Nat.lt_irrefl _ (Nat.lt_of_lt_of_le (hl _ (List.mem_append_left _ (in_led hm rfl))) hx), fun hm => Nat.lt_irrefl _ (Nat.lt_of_lt_of_le (hl _ (List.mem_append_right _ (List.mem_append_left _ (in_led hm rfl)))) hx),
      fun q hq z => Nat.lt_irrefl _ (Nat.lt_of_lt_of_le (hl q (List.mem_append_right _ (List.mem_append_right _ hq))) (z ▸ hx))⟩
  rcases ht with rfl | ⟨c, oc, vs, t, rfl, hc1, hc2, hc3, hc4, hc5⟩
  · refine handler_first w mean mg mb dp un gd cn cs a ccd cl outer A₀ base h₀ L m _ s Q E (k : Int) tk g.SL g.SN g.PL g.MD (g.X g.sp) hB F X₀ N hT9 n1152 T hk hd hu
      fun h' fn c oc vs t ctv l o1 o2 o3 o4 o5 o6 tk' F' N' d0 d0' d1 d2 d3 d4 d5 d6 l1 l2 l3 l4 => ?_
    have hes : (([(fn, lamObj ((mg "__name__").getD .none) l c ctv), (c, oc), (l + 1 + 1 + 1 + 1 + 1 + 1, o1), (l + 1 + 1 + 1 + 1 + 1, o2), (l + 1 + 1 + 1 + 1, o3), (l + 1 + 1 + 1, o4), (l + 1 + 1, o5), (l + 1, o6)] : List (Addr × Obj)).map (·.1)).Nodup := by
      simp only [List.map_cons, List.map_nil, List.nodup_cons, List.mem_cons, List.not_mem_nil, or_false, not_or, not_false_eq_true, List.nodup_nil, and_true]
      refine ⟨⟨?_, ?_, ?_, ?_, ?_, ?_, ?_⟩, ⟨?_, ?_, ?_, ?_, ?_, ?_⟩, ⟨?_, ?_, ?_, ?_, ?_⟩, ⟨?_, ?_, ?_, ?_⟩, ⟨?_, ?_, ?_⟩, ⟨?_, ?_⟩, ?_⟩ <;> (refine Nat.ne_of_gt ?_; omega)
    have hlo : ∀ e ∈ ([(fn, lamObj ((mg "__name__").getD .none) l c ctv), (c, oc), (l + 1 + 1 + 1 + 1 + 1 + 1, o1), (l + 1 + 1 + 1 + 1 + 1, o2), (l + 1 + 1 + 1 + 1, o3), (l + 1 + 1 + 1, o4), (l + 1 + 1, o5), (l + 1, o6)] : List (Addr × Obj)), l ≤ e.1 := by
      intro e he
      simp only [List.mem_cons, List.not_mem_nil, or_false] at he
      rcases he with rfl | rfl | rfl | rfl | rfl | rfl | rfl | rfl <;> (show @LE.le Nat _ _ _; omega)
    generalize hE : ([(fn, lamObj ((mg "__name__").getD .none) l c ctv), (c, oc), (l + 1 + 1 + 1 + 1 + 1 + 1, o1), (l + 1 + 1 + 1 + 1 + 1, o2), (l + 1 + 1 + 1 + 1, o3), (l + 1 + 1 + 1, o4), (l + 1 + 1, o5), (l + 1, o6)] : List (Addr × Obj)) = es at hes hlo
    have nA : ∀ e ∈ es, e.1 ∉ A := fun e he => (low l1 _ (hlo e he)).1
    have ok : ∀ e ∈ es, e.1 ∈ es.map (·.1) ++ A ∧ 9 ≤ (g.tag e.1).1 := fun e he => ⟨List.mem_append_left _ (List.mem_map_of_mem he), W.tag9 G (nA e he)⟩
    have at' : ∀ e ∈ es, growF es f e.1 = e.2 := fun e he => grow_at hes he
    have m1 : (fn, lamObj ((mg "__name__").getD .none) l c ctv) ∈ es := by rw [← hE]; simp
    have m2 : (c, oc) ∈ es := by rw [← hE]; simp
    have m3 : (l + 1 + 1 + 1 + 1 + 1 + 1, o1) ∈ es := by rw [← hE]; simp
    have m4 : (l + 1 + 1 + 1 + 1 + 1, o2) ∈ es := by rw [← hE]; simp
    have m5 : (l + 1 + 1 + 1 + 1, o3) ∈ es := by rw [← hE]; simp
    have m6 : (l + 1 + 1 + 1, o4) ∈ es := by rw [← hE]; simp
    have m7 : (l + 1 + 1, o5) ∈ es := by rw [← hE]; simp
    have m8 : (l + 1, o6) ∈ es := by rw [← hE]; simp
    refine ret h' (es.map (·.1) ++ A) (growF es f) _ fn tk' F' (newsSub N' fun q hq => ?_) (.inr ⟨c, oc, vs, t, rfl, (ok _ m2).1, (ok _ m2).2, at' _ m2, d0, d0'⟩) (ap.grow fun e he => ⟨?_, (low l1 _ (hlo e he)).2⟩) (grow_wd G W hes nA)
      ⟨c, l, oc, vs, t, ctv, o1, o2, o3, o4, o5, o6, tk, ok _ m1, ok _ m2, ok _ m3, ok _ m4, ok _ m5, ok _ m6, ok _ m7, ok _ m8, at' _ m1, at' _ m2, d0, d0', at' _ m3, at' _ m4, at' _ m5, at' _ m6, at' _ m7, at' _ m8, d1, d2, d3, d4, d5, d6⟩
    · unfold lw14 at hq
      rw [grow_led hes nA, ← hE] at hq
      simp only [List.mem_cons, List.mem_append, List.not_mem_nil, or_false] at hq ⊢
      rcases hq with h | (h | h) | h | h
      · exact .inr (.inr (.inr (.inr (.inr (.inr (.inr (.inr (.inl h))))))))
      · rcases h with h | h | h | h | h | h | h | h <;> simp [h]
      · exact .inr (.inr (.inr (.inr (.inr (.inr (.inr (.inr (.inr (.inl h)))))))))
      · exact .inr (.inr (.inr (.inr (.inr (.inr (.inr (.inr (.inr (.inr (.inl h))))))))))
      · exact .inr (.inr (.inr (.inr (.inr (.inr (.inr (.inr (.inr (.inr (.inr h))))))))))
    · exact Nat.ne_of_gt (Nat.lt_of_lt_of_le l2 (hlo e he))
  · have n2 : @Ne Nat 1152 c := fun z => ap.tA (z ▸ hc1)
    refine handler_later w mean mg mb dp un gd cn cs a ccd cl outer A₀ base h₀ L m (led A f ++ (led B f' ++ X)) s Q E (k : Int) tk g.SL g.SN g.PL g.MD (g.X g.sp) c oc vs t hB F X₀ (newsSub N fun q hq => ?_) hT9 n1152 n2 hc4 hc5 T hk hd hu
      fun h' fn ctv l o1 o2 o3 o4 o5 o6 tk' F' N' d1 d2 d3 d4 d5 d6 l1 l2 l3 => ?_
    · simp only [List.mem_cons] at hq ⊢
      rcases hq with h | h | h
      · exact .inl h
      · subst h; exact .inr (List.mem_append_left _ (in_led hc1 hc3))
      · exact .inr h
    have hes : (([(fn, lamObj ((mg "__name__").getD .none) l c ctv), (l + 1 + 1 + 1 + 1 + 1 + 1, o1), (l + 1 + 1 + 1 + 1 + 1, o2), (l + 1 + 1 + 1 + 1, o3), (l + 1 + 1 + 1, o4), (l + 1 + 1, o5), (l + 1, o6)] : List (Addr × Obj)).map (·.1)).Nodup := by
      simp only [List.map_cons, List.map_nil, List.nodup_cons, List.mem_cons, List.not_mem_nil, or_false, not_or, not_false_eq_true, List.nodup_nil, and_true]
      refine ⟨⟨?_, ?_, ?_, ?_, ?_, ?_⟩, ⟨?_, ?_, ?_, ?_, ?_⟩, ⟨?_, ?_, ?_, ?_⟩, ⟨?_, ?_, ?_⟩, ⟨?_, ?_⟩, ?_⟩ <;> (refine Nat.ne_of_gt ?_; omega)
    have hlo : ∀ e ∈ ([(fn, lamObj ((mg "__name__").getD .none) l c ctv), (l + 1 + 1 + 1 + 1 + 1 + 1, o1), (l + 1 + 1 + 1 + 1 + 1, o2), (l + 1 + 1 + 1 + 1, o3), (l + 1 + 1 + 1, o4), (l + 1 + 1, o5), (l + 1, o6)] : List (Addr × Obj)), l ≤ e.1 := by
      intro e he
      simp only [List.mem_cons, List.not_mem_nil, or_false] at he
      rcases he with rfl | rfl | rfl | rfl | rfl | rfl | rfl <;> (show @LE.le Nat _ _ _; omega)
    have htb : ∀ e ∈ ([(fn, lamObj ((mg "__name__").getD .none) l c ctv), (l + 1 + 1 + 1 + 1 + 1 + 1, o1), (l + 1 + 1 + 1 + 1 + 1, o2), (l + 1 + 1 + 1 + 1, o3), (l + 1 + 1 + 1, o4), (l + 1 + 1, o5), (l + 1, o6)] : List (Addr × Obj)), e.2.data ≠ (tabObj (#[] ++ #[rawInt 675, rawInt 11, .ref c])).data := by
      intro e he
      simp only [List.mem_cons, List.not_mem_nil, or_false] at he
      rcases he with rfl | rfl | rfl | rfl | rfl | rfl | rfl
      · intro z; cases z
      · dsimp only; rw [d1]; intro z; cases z
      · dsimp only; rw [d2]; intro z; cases z
      · dsimp only; rw [d3]; intro z; cases z
      · dsimp only; rw [d4]; intro z; cases z
      · dsimp only; rw [d5]; intro z; cases z
      · dsimp only; rw [d6]; intro z; cases z
    have hin : ∀ e ∈ ([(fn, lamObj ((mg "__name__").getD .none) l c ctv), (l + 1 + 1 + 1 + 1 + 1 + 1, o1), (l + 1 + 1 + 1 + 1 + 1, o2), (l + 1 + 1 + 1 + 1, o3), (l + 1 + 1 + 1, o4), (l + 1 + 1, o5), (l + 1, o6)] : List (Addr × Obj)), h'.get? e.1 = some e.2 := by
      intro e he
      refine (N' e ?_).1
      simp only [List.mem_cons, List.not_mem_nil, or_false] at he ⊢
      rcases he with rfl | rfl | rfl | rfl | rfl | rfl | rfl <;> simp
    have htt := (N' (1152, tabObj (#[] ++ #[rawInt 675, rawInt 11, .ref c])) (by simp)).1
    generalize hE : ([(fn, lamObj ((mg "__name__").getD .none) l c ctv), (l + 1 + 1 + 1 + 1 + 1 + 1, o1), (l + 1 + 1 + 1 + 1 + 1, o2), (l + 1 + 1 + 1 + 1, o3), (l + 1 + 1 + 1, o4), (l + 1 + 1, o5), (l + 1, o6)] : List (Addr × Obj)) = es at hes hlo htb hin
    have nA : ∀ e ∈ es, e.1 ∉ A := fun e he => (low l1 _ (hlo e he)).1
    have ok : ∀ e ∈ es, e.1 ∈ es.map (·.1) ++ A ∧ 9 ≤ (g.tag e.1).1 := fun e he => ⟨List.mem_append_left _ (List.mem_map_of_mem he), W.tag9 G (nA e he)⟩
    have at' : ∀ e ∈ es, growF es f e.1 = e.2 := fun e he => grow_at hes he
    have m1 : (fn, lamObj ((mg "__name__").getD .none) l c ctv) ∈ es := by rw [← hE]; simp
    have m3 : (l + 1 + 1 + 1 + 1 + 1 + 1, o1) ∈ es := by rw [← hE]; simp
    have m4 : (l + 1 + 1 + 1 + 1 + 1, o2) ∈ es := by rw [← hE]; simp
    have m5 : (l + 1 + 1 + 1 + 1, o3) ∈ es := by rw [← hE]; simp
    have m6 : (l + 1 + 1 + 1, o4) ∈ es := by rw [← hE]; simp
    have m7 : (l + 1 + 1, o5) ∈ es := by rw [← hE]; simp
    have m8 : (l + 1, o6) ∈ es := by rw [← hE]; simp
    have hcA : c ∈ es.map (·.1) ++ A ∧ 9 ≤ (g.tag c).1 := ⟨List.mem_append_right _ hc1, hc2⟩
    have hcf : growF es f c = oc := by
      rw [grow_old fun hm => ?_]
      · exact hc3
      · obtain ⟨e, he, z⟩ := List.mem_map.mp hm
        exact nA e he (z ▸ hc1)
    refine ret h' (es.map (·.1) ++ A) (growF es f) _ fn tk' F' (newsSub N' fun q hq => ?_) (.inr ⟨c, oc, vs, t, rfl, hcA.1, hcA.2, hcf, hc4, hc5⟩) (ap.grow fun e he => ⟨?_, (low l1 _ (hlo e he)).2⟩) (grow_wd G W hes nA)
      ⟨c, l, oc, vs, t, ctv, o1, o2, o3, o4, o5, o6, tk, ok _ m1, hcA, ok _ m3, ok _ m4, ok _ m5, ok _ m6, ok _ m7, ok _ m8, at' _ m1, hcf, hc4, hc5, at' _ m3, at' _ m4, at' _ m5, at' _ m6, at' _ m7, at' _ m8, d1, d2, d3, d4, d5, d6⟩
    · unfold lw14 at hq
      rw [grow_led hes nA, ← hE] at hq
      simp only [List.mem_cons, List.mem_append, List.not_mem_nil, or_false] at hq ⊢
      rcases hq with h | (h | h) | h | h
      · exact .inr (.inr (.inr (.inr (.inr (.inr (.inr (.inl h)))))))
      · rcases h with h | h | h | h | h | h | h <;> simp [h]
      · exact .inr (.inr (.inr (.inr (.inr (.inr (.inr (.inr (.inr (.inl h)))))))))
      · exact .inr (.inr (.inr (.inr (.inr (.inr (.inr (.inr (.inr (.inr (.inl h))))))))))
      · exact .inr (.inr (.inr (.inr (.inr (.inr (.inr (.inr (.inr (.inr (.inr h))))))))))
    · intro z
      have h1 := hin e he
      rw [z, htt] at h1
      exact htb e he (congrArg Obj.data (Option.some.inj h1).symm)
end
end
section
local macro_rules | `(tactic| k_room) => `(tactic| ((try simp only [depth_mark, depth_under_make, depth_under_kw, depth_in1, depth_deeper, depth_caller]); (try dsimp only [ktrTop]); (simp only [recursionLimit] at *); omega))
local macro_rules | `(tactic| k_units) => `(tactic| ((simp only [units_in1, units_deeper, Around.mark_units, units_caller, cLine_is] at *); (try dsimp only [ktrTop] at *); omega))
local macro_rules | `(tactic| k_all) => `(tactic| assumption)
theorem fill_LH : PySem.Challenge.rw_br5015_01 = PySem.Challenge.rw_br5015_01 ∧ K = K := by
  k_with_none
  k_fill
  exact ⟨rfl, rfl⟩
/-! hand_back and add_child_stream over the world of statement 14 -/
def Geo.han (g : Geo) (k : Nat) (q : Int) (H : Addr) : Geo := { g with pl := put g.pl k (some q), H := put g.H k H }
theorem Geo.han_hv {g : Geo} {k : Nat} {q : Int} {H : Addr} : (g.han k q H).hv k = .ref H := by
  unfold Geo.hv Geo.han
  dsimp only
  rw [put_self, put_self]
theorem Geo.han_hv_ne {g : Geo} {k j : Nat} {q : Int} {H : Addr} (h : j ≠ k) : (g.han k q H).hv j = g.hv j := by
  unfold Geo.hv Geo.han
  dsimp only
  rw [put_ne h, put_ne h]
theorem Geo.han_ok {g : Geo} (G : GeoOk g) {k : Nat} {q : Int} {H : Addr} (hq : 0 ≤ q ∧ q ≤ 5) : GeoOk (g.han k q H) :=
  ⟨G.n2, G.n7, fun j p h => by
    by_cases e : j = k
    · subst e
      have h : put g.pl j (some q) j = some p := h
      rw [put_self] at h; cases h; exact hq
    · have h : put g.pl k (some q) j = some p := h
      rw [put_ne e] at h; exact G.pl5 j p h, G.tX, G.tD, G.tB, G.tE, G.tC, G.tSL, G.tSN, G.tPL, G.tMD, G.full⟩
theorem Wd.sethan {w : World} {nm : Value} {g : Geo} {pre : List (Int × Int × Int)} {σ : St} {A : List Addr} {f f₂ : Addr → Obj} (G : GeoOk g) (W : Wd w nm g pre σ A f) {k : Nat} {q : Int} {H HD LM : Addr} {t t' : Nat → Tok} {z z1 z2 : Tok} (hk : k < g.N)
    (hH : H ∉ A) (hHD : HD ∉ A) (hne : H ≠ HD) (hL : LamAt nm g A f k LM) (e1 : f₂ H = instObj 1075 HD) (e2 : f₂ HD = hdict w.params t' q z LM) (e3 : f₂ (g.D k) = sdict w.params t z1 z2 (g.B k) (g.C k) (.ref H))
    (hf : ∀ b, b ≠ H → b ≠ HD → b ≠ g.D k → f₂ b = f b) : Wd w nm (g.han k q H) pre σ (H :: HD :: A) f₂ := by
  have nA : ∀ b ∈ A, b ≠ g.D k → f₂ b = f b := fun b hb hD => hf b (fun e => hH (e ▸ hb)) (fun e => hHD (e ▸ hb)) hD
  have up : ∀ b ∈ A, b ∈ H :: HD :: A := fun b hb => .tail _ (.tail _ hb)
  have tg : ∀ b x, g.tag b = x → x ≠ (1, k) → b ≠ g.D k := fun b x hb hx => tagNe hb (G.tD k hk) hx
  have t9 : ∀ b, 9 ≤ (g.tag b).1 → b ≠ g.D k := fun b hb e => by rw [e, G.tD k hk] at hb; dsimp only at hb; omega
  have oks : ∀ b, (b ∈ A ∧ 9 ≤ (g.tag b).1) → (b ∈ H :: HD :: A ∧ 9 ≤ ((g.han k q H).tag b).1) ∧ f₂ b = f b := fun b hb => ⟨⟨up b hb.1, hb.2⟩, nA b hb.1 (t9 b hb.2)⟩
  refine ⟨List.nodup_cons.mpr ⟨fun h => ?_, List.nodup_cons.mpr ⟨hHD, W.nod⟩⟩, fun j hj => ⟨up _ (W.sX j hj).1, ?_⟩, fun j hj => ⟨up _ (W.sD j hj).1, ?_⟩, fun j hj => ⟨up _ (W.sB j hj).1, ?_⟩, fun j hj => ⟨up _ (W.sE j hj).1, ?_⟩, fun j hj => ⟨up _ (W.sC j hj).1, ?_⟩,
    ⟨up _ W.sL.1, ?_⟩, ⟨up _ W.sN.1, ?_⟩, ⟨up _ W.sP.1, W.sP.2.1, ?_⟩, ⟨up _ W.sM.1, ?_⟩, fun j hj q' hq' => ?_⟩
  · rcases List.mem_cons.mp h with h | h
    · exact hne h
    · exact hH h
  · show f₂ (g.X j) = instObj 1047 (g.D j)
    rw [nA _ (W.sX j hj).1 (tg _ _ (G.tX j hj) (by simp))]; exact (W.sX j hj).2
  · show ∃ t z1 z2, f₂ (g.D j) = sdict w.params t z1 z2 (g.B j) (g.C j) ((g.han k q H).hv j)
    by_cases h : j = k
    · subst h; rw [Geo.han_hv]; exact ⟨t, z1, z2, e3⟩
    · rw [Geo.han_hv_ne h, nA _ (W.sD j hj).1 (tg _ _ (G.tD j hj) (by simp [h]))]; exact (W.sD j hj).2
  · show f₂ (g.B j) = _
    rw [nA _ (W.sB j hj).1 (tg _ _ (G.tB j hj) (by simp))]; exact (W.sB j hj).2
  · show ∃ u z, f₂ (g.BD j) = _
    rw [nA _ (W.sE j hj).1 (tg _ _ (G.tE j hj) (by simp))]; exact (W.sE j hj).2
  · show ∃ n, f₂ (g.C j) = _
    rw [nA _ (W.sC j hj).1 (tg _ _ (G.tC j hj) (by simp))]; exact (W.sC j hj).2
  · show ∃ n, f₂ g.SL = _
    rw [nA _ W.sL.1 (tg _ _ G.tSL (by simp))]; exact W.sL.2
  · obtain ⟨_, n, rs, h1, h2, h3⟩ := W.sN
    refine ⟨n, rs, ?_, h2, fun i r e hr he => ?_⟩
    · show f₂ g.SN = _
      rw [nA _ W.sN.1 (tg _ _ G.tSN (by simp))]; exact h1
    · obtain ⟨a1, a2, t1, t2, t3, a3⟩ := h3 i r e hr he
      exact ⟨up _ a1, a2, t1, t2, t3, (nA _ a1 (t9 _ a2)).trans a3⟩
  · show PlanAt w (f₂ g.PL) _ _
    rw [nA _ W.sP.1 (tg _ _ G.tPL (by simp))]; exact W.sP.2.2
  · show 0 ≤ σ.bomb → ∃ vs a0, (f₂ g.MD).cls = _ ∧ (f₂ g.MD).data = _ ∧ _
    rw [nA _ W.sM.1 (tg _ _ G.tMD (by simp))]; exact W.sM.2
  · by_cases h : j = k
    · subst h
      have hq' : put g.pl j (some q) j = some q' := hq'
      rw [put_self] at hq'
      cases hq'
      obtain ⟨c, l, oc, vs, tq, ctv, o1, o2, o3, o4, o5, o6, tk, k3, k4, k5, k6, k7, k8, k9, k10, e3, e4, e5, e6, e7, e8, e9, e10, e11, e12, r⟩ := hL
      have hHn : (g.han j q H).H j = H := put_self ..
      refine ⟨HD, LM, c, l, oc, vs, tq, ctv, t', z, o1, o2, o3, o4, o5, o6, tk, ?_, ⟨.tail _ (.head _), W.tag9 G hHD⟩, (oks _ k3).1, (oks _ k4).1, (oks _ k5).1, (oks _ k6).1, (oks _ k7).1, (oks _ k8).1, (oks _ k9).1, (oks _ k10).1,
        ?_, e2, (oks _ k3).2.trans e3, (oks _ k4).2.trans e4, e5, e6, (oks _ k5).2.trans e7, (oks _ k6).2.trans e8, (oks _ k7).2.trans e9, (oks _ k8).2.trans e10, (oks _ k9).2.trans e11, (oks _ k10).2.trans e12, r⟩
      · rw [hHn]; exact ⟨.head _, W.tag9 G hH⟩
      · rw [hHn]; exact e1
    · have hq' : put g.pl k (some q) j = some q' := hq'
      rw [put_ne h] at hq'
      obtain ⟨HD', LM', c, l, oc, vs, tq, ctv, t, z, o1, o2, o3, o4, o5, o6, tk, k1, k2, k3, k4, k5, k6, k7, k8, k9, k10, e1, e2, e3, e4, e5, e6, e7, e8, e9, e10, e11, e12, r⟩ := W.han j hj q' hq'
      have hHn : (g.han k q H).H j = g.H j := put_ne h
      refine ⟨HD', LM', c, l, oc, vs, tq, ctv, t, z, o1, o2, o3, o4, o5, o6, tk, ?_, (oks _ k2).1, (oks _ k3).1, (oks _ k4).1, (oks _ k5).1, (oks _ k6).1, (oks _ k7).1, (oks _ k8).1, (oks _ k9).1, (oks _ k10).1,
        ?_, (oks _ k2).2.trans e2, (oks _ k3).2.trans e3, (oks _ k4).2.trans e4, e5, e6, (oks _ k5).2.trans e7, (oks _ k6).2.trans e8, (oks _ k7).2.trans e9, (oks _ k8).2.trans e10, (oks _ k9).2.trans e11, (oks _ k10).2.trans e12, r⟩
      · rw [hHn]; exact (oks _ k1).1
      · rw [hHn]; exact (oks _ k1).2.trans e1
section
variable {w : World} {mean : ExcName → Option Value} {mg mb : Str → Option Value} {nm : Value}
  {dp un : Nat} {gd : Option (List Code)} {cn : Str} {cs : Scope} {a : Addr} {ccd : Value} {cl : List (Str × Addr)} {outer : List Env} {A₀ : Around} {base h₀ : Heap} {L : Addr} {m : Str → Option Value} {s : Shared}
  {Q E : Value → Shared → Prop} {g : Geo} {pre : List (Int × Int × Int)} {σ : St} {A B : List Addr} {f f' : Addr → Obj} {X : List (Addr × Obj)} {tab : Obj}
theorem apart_1152 (ap : Apart A B X) : ∀ q ∈ led A f ++ (led B f' ++ X), q.1 ≠ (1152 : Nat) := fun q hq z => by
  obtain ⟨b, o⟩ := q
  rcases List.mem_append.mp hq with hq | hq
  · exact ap.tA (by have := (mem_led.mp hq).1; rwa [show b = 1152 from z] at this)
  · rcases List.mem_append.mp hq with hq | hq
    · exact ap.tB (by have := (mem_led.mp hq).1; rwa [show b = 1152 from z] at this)
    · exact (ap.xs _ hq).1 z
theorem apart_A (ap : Apart A B X) {x : Addr} (hx : x ∈ A) : ∀ q ∈ (1152, tab) :: (led B f' ++ X), q.1 ≠ x := fun q hq z => by
  rcases List.mem_cons.mp hq with rfl | hq
  · exact ap.tA (by rw [show (1152 : Nat) = x from z]; exact hx)
  · rcases List.mem_append.mp hq with hq | hq
    · obtain ⟨b, o⟩ := q
      have := (mem_led.mp hq).1
      exact ap.ab x hx (by rw [← show b = x from z]; exact this)
    · exact (ap.xs q hq).2.1 (z ▸ hx)
theorem in14 {b : Addr} (hb : b ∈ A) : (b, f b) ∈ lw14 tab A f B f' X := .tail _ (List.mem_append_left _ (in_led hb rfl))
theorem back_W (G : GeoOk g) {k : Nat} {q : Int} {tp : Tok} {LM : Addr} (hB : Below A₀ base outer h₀) (F : Fr h₀ L s.heap m) (X₀ : (K w.params).In h₀) (N : News h₀ L s.heap (lw14 tab A f B f' X)) (ht : TabOk g A f tab) (ap : Apart A B X)
  (T : Top topProg lo mean mg mb h₀) (hk : cs.kind = .function) (W : Wd w nm g pre σ A f) (hkN : k < g.N) (hpl : g.pl k = none) (hL : LamAt nm g A f k LM) (hd : dp + 40 < recursionLimit) (hu : un + 400 < cLine)
  (ret : ∀ h' A' fA H HD t z tk', Fr h₀ L h' m → News h₀ L h' (lw14 tab A' fA B f' X) → TabOk (g.han k q H) A' fA tab → Apart A' B X → Wd w nm (g.han k q H) pre σ A' fA → H ∈ A' → HD ∈ A' → fA H = instObj 1075 HD → fA HD = hdict w.params t q z LM → Q .none { s with heap := h', toks := tk' }) :
  wpAny (model prg w) (ktrTop dp un gd cn cs L a ccd cl outer) (call (.ref 1150) [.ref (g.X k), .int q tp, .ref LM]) Q E s := by
  obtain ⟨b1, t, z1, z2, eD⟩ := W.sD k hkN
  have b2 := W.sX k hkN
  have hhv : g.hv k = .none := by unfold Geo.hv; rw [hpl]
  rw [hhv] at eD
  refine back_spec (t := t) (z1 := z1) (z2 := z2) (B := g.B k) (C := g.C k) (D := g.D k) (rest := (lw14 tab A f B f' X).filter fun q => q.1 ≠ g.D k) hB F X₀ (newsSub N fun q hq => ?_) T hk hd hu (tagNe (G.tX k hkN) (G.tD k hkN) (by simp)) (fun q hq => of_decide_eq_true (List.mem_filter.mp hq).2)
    fun h' H HD t' z tk' F' N' l1 l2 l3 l4 => ?_
  · simp only [List.mem_cons] at hq
    rcases hq with rfl | rfl | hq
    · have := in14 (f := f) (B := B) (f' := f') (X := X) (tab := tab) b2.1; rw [b2.2] at this; exact this
    · have := in14 (f := f) (B := B) (f' := f') (X := X) (tab := tab) b1; rw [eD] at this; exact this
    · exact (List.mem_filter.mp hq).1
  · have lowA : ∀ b ∈ A, b < HD := fun b hb => by
      by_cases h : b = g.D k
      · rw [h]; exact l2
      · exact l3 _ (List.mem_filter.mpr ⟨in14 hb, decide_eq_true h⟩)
    have lowR : ∀ q ∈ (1152, tab) :: (led B f' ++ X), q.1 < HD := fun q hq => l3 _ (List.mem_filter.mpr ⟨by
      rcases List.mem_cons.mp hq with h | h
      · exact h ▸ .head _
      · exact .tail _ (List.mem_append_right _ h), decide_eq_true (apart_A ap b1 q hq)⟩)
    have nHD : HD ∉ A := fun h => Nat.lt_irrefl _ (lowA _ h)
    have nH : H ∉ A := fun h => Nat.lt_irrefl _ (Nat.lt_trans (lowA _ h) l4)
    have hne : H ≠ HD := Nat.ne_of_gt l4
    have hDH : g.D k ≠ H := fun e => nH (e ▸ b1)
    have hDHD : g.D k ≠ HD := fun e => nHD (e ▸ b1)
    have v1 : (upd (upd (upd f (g.D k) (sdict w.params t z1 z2 (g.B k) (g.C k) (.ref H))) HD (hdict w.params t' q z LM)) H (instObj 1075 HD)) H = instObj 1075 HD := upd_self ..
    have v2 : (upd (upd (upd f (g.D k) (sdict w.params t z1 z2 (g.B k) (g.C k) (.ref H))) HD (hdict w.params t' q z LM)) H (instObj 1075 HD)) HD = hdict w.params t' q z LM := by rw [upd_ne (Ne.symm hne), upd_self]
    have v3 : (upd (upd (upd f (g.D k) (sdict w.params t z1 z2 (g.B k) (g.C k) (.ref H))) HD (hdict w.params t' q z LM)) H (instObj 1075 HD)) (g.D k) = sdict w.params t z1 z2 (g.B k) (g.C k) (.ref H) := by rw [upd_ne hDH, upd_ne hDHD, upd_self]
    have v4 : ∀ b, b ≠ H → b ≠ HD → b ≠ g.D k → (upd (upd (upd f (g.D k) (sdict w.params t z1 z2 (g.B k) (g.C k) (.ref H))) HD (hdict w.params t' q z LM)) H (instObj 1075 HD)) b = f b := fun b h1 h2 h3 => by rw [upd_ne h1, upd_ne h2, upd_ne h3]
    generalize (upd (upd (upd f (g.D k) (sdict w.params t z1 z2 (g.B k) (g.C k) (.ref H))) HD (hdict w.params t' q z LM)) H (instObj 1075 HD)) = f₂ at v1 v2 v3 v4
    refine ret h' (H :: HD :: A) f₂ H HD t' z tk' F' (newsSub N' fun q hq => ?_) (ht.mono fun b hb h9 => ⟨.tail _ (.tail _ hb), v4 b (fun e => nH (e ▸ hb)) (fun e => nHD (e ▸ hb)) fun e => by rw [e, G.tD k hkN] at h9; dsimp only at h9; omega⟩) ?_ (W.sethan G hkN nH nHD hne hL v1 v2 v3 v4) (.head _) (.tail _ (.head _)) v1 v2
    · have hR : ∀ q ∈ (1152, tab) :: (led B f' ++ X), q ∈ (lw14 tab A f B f' X).filter fun q => q.1 ≠ g.D k := fun q hq => List.mem_filter.mpr ⟨by
        rcases List.mem_cons.mp hq with h | h
        · exact h ▸ .head _
        · exact .tail _ (List.mem_append_right _ h), decide_eq_true (apart_A ap b1 q hq)⟩
      rcases List.mem_cons.mp hq with h | hq
      · exact .tail _ (.tail _ (.tail _ (.tail _ (hR _ (h ▸ .head _)))))
      · rcases List.mem_append.mp hq with hq | hq
        · obtain ⟨b, o⟩ := q
          obtain ⟨hb, rfl⟩ := mem_led.mp hq
          rcases List.mem_cons.mp hb with rfl | hb
          · rw [v1]; exact .head _
          · rcases List.mem_cons.mp hb with rfl | hb
            · rw [v2]; exact .tail _ (.head _)
            · by_cases h : b = g.D k
              · subst h; rw [v3]; exact .tail _ (.tail _ (.tail _ (.head _)))
              · rw [v4 b (fun e => nH (e ▸ hb)) (fun e => nHD (e ▸ hb)) h]
                exact .tail _ (.tail _ (.tail _ (.tail _ (List.mem_filter.mpr ⟨in14 hb, decide_eq_true h⟩))))
        · exact .tail _ (.tail _ (.tail _ (.tail _ (hR _ (.tail _ hq)))))
    · have hh : ∀ q ∈ (1152, tab) :: (led B f' ++ X), q.1 ≠ H ∧ q.1 ≠ HD := fun q hq => ⟨Nat.ne_of_lt (Nat.lt_trans (lowR q hq) l4), Nat.ne_of_lt (lowR q hq)⟩
      refine ⟨fun h => ?_, ap.tB, fun b hb hbB => ?_, fun q hq => ⟨(ap.xs q hq).1, fun hm => ?_, (ap.xs q hq).2.2⟩⟩
      · have := hh _ (.head _)
        rcases List.mem_cons.mp h with h | h
        · exact this.1 h
        · rcases List.mem_cons.mp h with h | h
          · exact this.2 h
          · exact ap.tA h
      · have := hh (b, f' b) (.tail _ (List.mem_append_left _ (in_led hbB rfl)))
        rcases List.mem_cons.mp hb with h | h
        · exact this.1 h
        · rcases List.mem_cons.mp h with h | h
          · exact this.2 h
          · exact ap.ab b h hbB
      · have := hh q (.tail _ (List.mem_append_right _ hq))
        rcases List.mem_cons.mp hm with h | h
        · exact this.1 h
        · rcases List.mem_cons.mp h with h | h
          · exact this.2 h
          · exact (ap.xs q hq).2.1 h
/-- streams[p].add_child_stream(streams[j]) -/
theorem add_W (G : GeoOk g) {p j : Nat} (hB : Below A₀ base outer h₀) (F : Fr h₀ L s.heap m) (X₀ : (K w.params).In h₀) (N : News h₀ L s.heap (lw14 tab A f B f' X)) (ht : TabOk g A f tab) (ap : Apart A B X)
  (T : Top topProg lo mean mg mb h₀) (hk : cs.kind = .function) (W : Wd w nm g pre σ A f) (hpN : p < g.N) (hlen : (σ.kids p).length ≤ 20) (hd : dp + 10 < recursionLimit) (hu : un + 100 < cLine)
  (ret : ∀ h' fA tk', Fr h₀ L h' m → News h₀ L h' (lw14 tab A fA B f' X) → TabOk g A fA tab → Wd w nm g pre { σ with kids := put σ.kids p (σ.kids p ++ [j]) } A fA → Q .none { s with heap := h', toks := tk' }) :
  wpAny (model prg w) (ktrTop dp un gd cn cs L a ccd cl outer) (call (.ref 1029) [.ref (g.X p), .ref (g.X j)]) Q E s := by
  obtain ⟨b1, t, z1, z2, eD⟩ := W.sD p hpN
  have b2 := W.sX p hpN
  obtain ⟨b3, n, eC⟩ := W.sC p hpN
  refine add_spec (t := t) (z1 := z1) (z2 := z2) (B := g.B p) (C := g.C p) (hv := g.hv p) (D := g.D p) (rest := (lw14 tab A f B f' X).filter fun q => q.1 ≠ g.C p) w mean mg mb dp un gd cn cs a ccd cl outer A₀ base h₀ L m s Q E (g.X p) ((σ.kids p).map fun j => Value.ref (g.X j)).toArray n (g.X j) hB F X₀ (newsSub N fun q hq => ?_) T hk hd hu (by simpa using hlen)
    (tagNe (G.tX p hpN) (G.tC p hpN) (by simp)) (tagNe (G.tD p hpN) (G.tC p hpN) (by simp)) (fun q hq => of_decide_eq_true (List.mem_filter.mp hq).2) fun h' n' tk' F' N' => ?_
  · simp only [List.mem_cons] at hq
    rcases hq with rfl | rfl | rfl | hq
    · have := in14 (f := f) (B := B) (f' := f') (X := X) (tab := tab) b2.1; rw [b2.2] at this; exact this
    · have := in14 (f := f) (B := B) (f' := f') (X := X) (tab := tab) b1; rw [eD] at this; exact this
    · have := in14 (f := f) (B := B) (f' := f') (X := X) (tab := tab) b3; rw [eC] at this; exact this
    · exact (List.mem_filter.mp hq).1
  · refine ret h' (upd f (g.C p) (PySem.W.listOf ((List.map (fun j => Value.ref (g.X j)) (σ.kids p)).toArray.push (.ref (g.X j))) n')) tk' F' (newsSub N' fun q hq => ?_) (ht.mono fun b hb h9 => ⟨hb, upd_ne fun e => by rw [e, G.tC p hpN] at h9; dsimp only at h9; omega⟩) (W.setkids G hpN (fun b hb => upd_ne hb) ⟨n', ?_⟩)
    · have hR : ∀ q ∈ (1152, tab) :: (led B f' ++ X), q ∈ (lw14 tab A f B f' X).filter fun q => q.1 ≠ g.C p := fun q hq => List.mem_filter.mpr ⟨by
        rcases List.mem_cons.mp hq with h | h
        · exact h ▸ .head _
        · exact .tail _ (List.mem_append_right _ h), decide_eq_true (apart_A ap b3 q hq)⟩
      rcases List.mem_cons.mp hq with h | hq
      · exact .tail _ (.tail _ (.tail _ (hR _ (h ▸ .head _))))
      · rcases List.mem_append.mp hq with hq | hq
        · obtain ⟨b, o⟩ := q
          obtain ⟨hb, rfl⟩ := mem_led.mp hq
          by_cases h : b = g.C p
          · subst h; rw [upd_self]; exact .tail _ (.tail _ (.head _))
          · rw [upd_ne h]
            exact .tail _ (.tail _ (.tail _ (List.mem_filter.mpr ⟨in14 hb, decide_eq_true h⟩)))
        · exact .tail _ (.tail _ (.tail _ (hR _ (.tail _ hq))))
    · rw [upd_self]
      congr 1
      apply Array.toList_inj.mp
      simp
end
end
section
local macro_rules | `(tactic| k_room) => `(tactic| ((try simp only [depth_mark, depth_under_make, depth_under_kw, depth_in1, depth_deeper, depth_caller]); (try dsimp only [ktrTop]); (simp only [recursionLimit] at *); omega))
local macro_rules | `(tactic| k_units) => `(tactic| ((simp only [units_in1, units_deeper, Around.mark_units, units_caller, cLine_is] at *); (try dsimp only [ktrTop] at *); omega))
local macro_rules | `(tactic| k_all) => `(tactic| assumption)
theorem fill_LI : PySem.Challenge.rw_br5015_01 = PySem.Challenge.rw_br5015_01 ∧ K = K := by
  k_with_none
  k_fill
  exact ⟨rfl, rfl⟩
/-! the law's own lists while there is no `due` -/
structure Ld0 (w : World) (l : Lw) (LI : Nat → Addr) (σ : St) (en : Str) (B : List Addr) (f : Addr → Obj) : Prop where
  nod : B.Nodup
  sLL : l.LL ∈ B ∧ ∃ n, f l.LL = PySem.W.listOf ((List.range l.N).map fun j => Value.ref (LI j)).toArray n
  sLI : ∀ k < l.N, LI k ∈ B ∧ ¬ l.Sp (LI k) ∧ ∃ (vs : List Value) (n : Nat), f (LI k) = PySem.W.listOf vs.toArray n ∧ Ints vs ((σ.kids k).map fun (j : Nat) => (j : Int))
  inj : ∀ i < l.N, ∀ j < l.N, LI i = LI j → i = j
  sAT : l.AT ∈ B ∧ ∃ (vs : List Value) (n : Nat), f l.AT = PySem.W.listOf vs.toArray n ∧ Ints vs ((List.range l.N).map σ.at_)
  sPS : l.PS ∈ B ∧ ∃ (vs : List Value) (n : Nat), f l.PS = PySem.W.listOf vs.toArray n ∧ vs.length = l.N ∧ ∀ k < l.N, (l.pl k = none → vs[k]? = some .none) ∧ ∀ q, l.pl k = some q → ∃ t, vs[k]? = some (.int q t)
  sTW : l.TW ∈ B ∧ TwinAt w (f l.TW) σ.bomb σ.more en
def Lw.due (l : Lw) (x : Addr) : Lw := { l with DU := x }
def Lw.place (l : Lw) (k : Nat) (q : Int) : Lw := { l with pl := put l.pl k (some q) }
/-- what is so of the addresses while there is no `due` -/
structure Lw0 (l : Lw) : Prop where
  n2 : 2 ≤ l.N
  n7 : l.N ≤ 7
  pl5 : ∀ k q, l.pl k = some q → 0 ≤ q ∧ q ≤ 5
  d12 : l.LL ≠ l.AT
  d13 : l.LL ≠ l.PS
  d14 : l.LL ≠ l.TW
  d23 : l.AT ≠ l.PS
  d24 : l.AT ≠ l.TW
  d34 : l.PS ≠ l.TW
  sys : (l.TW == sysModules) = false
theorem Lw0.place {l : Lw} (O : Lw0 l) {k : Nat} {q : Int} (hq : 0 ≤ q ∧ q ≤ 5) : Lw0 (l.place k q) :=
  ⟨O.n2, O.n7, fun j p h => by
    by_cases e : j = k
    · subst e
      have h : put l.pl j (some q) j = some p := h
      rw [put_self] at h; cases h; exact hq
    · have h : put l.pl k (some q) j = some p := h
      rw [put_ne e] at h; exact O.pl5 j p h, O.d12, O.d13, O.d14, O.d23, O.d24, O.d34, O.sys⟩
section
variable {w : World} {l : Lw} {LI : Nat → Addr} {σ : St} {en : Str} {B : List Addr} {f f' : Addr → Obj}
/-- `due` comes -/
theorem Ld0.due (O : Lw0 l) (W : Ld0 w l LI σ en B f) {x : Addr} {n : Nat} (hx : x ∉ B) : LwOk (l.due x) ∧ Ld w (l.due x) LI { σ with log := [] } en (x :: B) (upd f x (PySem.W.listOf #[] n)) := by
  have nr : ∀ b ∈ B, b ≠ x := fun b hb e => hx (e ▸ hb)
  refine ⟨⟨O.n2, O.n7, O.pl5, O.d12, O.d13, O.d14, nr _ W.sLL.1, O.d23, O.d24, nr _ W.sAT.1, O.d34, nr _ W.sPS.1, nr _ W.sTW.1, O.sys⟩, ?_⟩
  refine ⟨List.nodup_cons.mpr ⟨hx, W.nod⟩, ⟨.tail _ W.sLL.1, ?_⟩, fun j hj => ⟨.tail _ (W.sLI j hj).1, fun h => ?_, ?_⟩, W.inj, ⟨.tail _ W.sAT.1, ?_⟩, ⟨.tail _ W.sPS.1, ?_⟩, ⟨.tail _ W.sTW.1, ?_⟩, .head _, n, [], upd_self _ _ _, rfl, fun i r e hr => by simp at hr⟩
  · show ∃ n, upd f x _ l.LL = _
    rw [upd_ne (nr _ W.sLL.1)]; exact W.sLL.2
  · rcases h with h | h | h | h | h
    · exact (W.sLI j hj).2.1 (.inl h)
    · exact (W.sLI j hj).2.1 (.inr (.inl h))
    · exact (W.sLI j hj).2.1 (.inr (.inr (.inl h)))
    · exact (W.sLI j hj).2.1 (.inr (.inr (.inr (.inl h))))
    · exact nr _ (W.sLI j hj).1 h
  · rw [upd_ne (nr _ (W.sLI j hj).1)]; exact (W.sLI j hj).2.2
  · show ∃ vs n, upd f x _ l.AT = _ ∧ _
    rw [upd_ne (nr _ W.sAT.1)]; exact W.sAT.2
  · show ∃ vs n, upd f x _ l.PS = _ ∧ _
    rw [upd_ne (nr _ W.sPS.1)]; exact W.sPS.2
  · show TwinAt w (upd f x _ l.TW) _ _ _
    rw [upd_ne (nr _ W.sTW.1)]; exact W.sTW.2
/-- `due` goes -/
theorem Ld.off (W : Ld w l LI σ en B f) : Ld0 w l LI σ en B f := ⟨W.nod, W.sLL, W.sLI, W.inj, W.sAT, W.sPS, W.sTW⟩
theorem LwOk.off (O : LwOk l) : Lw0 l := ⟨O.n2, O.n7, O.pl5, O.d12, O.d13, O.d14, O.d23, O.d24, O.d34, O.sys⟩
theorem Ld0.setat (O : Lw0 l) (W : Ld0 w l LI σ en B f) {k : Nat} {v : Int} (hf : ∀ b, b ≠ l.AT → f' b = f b)
    (hA : ∃ (vs : List Value) (n : Nat), f' l.AT = PySem.W.listOf vs.toArray n ∧ Ints vs ((List.range l.N).map (put σ.at_ k v))) : Ld0 w l LI { σ with at_ := put σ.at_ k v } en B f' where
  nod := W.nod
  sLL := ⟨W.sLL.1, by rw [hf _ O.d12]; exact W.sLL.2⟩
  sLI := fun j hj => ⟨(W.sLI j hj).1, (W.sLI j hj).2.1, by rw [hf _ fun e => (W.sLI j hj).2.1 (.inr (.inl e))]; exact (W.sLI j hj).2.2⟩
  inj := W.inj
  sAT := ⟨W.sAT.1, hA⟩
  sPS := ⟨W.sPS.1, by rw [hf _ (Ne.symm O.d23)]; exact W.sPS.2⟩
  sTW := ⟨W.sTW.1, by rw [hf _ (Ne.symm O.d24)]; exact W.sTW.2⟩
theorem Ld0.setplace (O : Lw0 l) (W : Ld0 w l LI σ en B f) {k : Nat} {q : Int} (hf : ∀ b, b ≠ l.PS → f' b = f b)
    (hP : ∃ (vs : List Value) (n : Nat), f' l.PS = PySem.W.listOf vs.toArray n ∧ vs.length = l.N ∧ ∀ j < l.N, ((l.place k q).pl j = none → vs[j]? = some .none) ∧ ∀ p, (l.place k q).pl j = some p → ∃ t, vs[j]? = some (.int p t)) : Ld0 w (l.place k q) LI σ en B f' where
  nod := W.nod
  sLL := ⟨W.sLL.1, by show ∃ n, f' l.LL = _; rw [hf _ O.d13]; exact W.sLL.2⟩
  sLI := fun j hj => ⟨(W.sLI j hj).1, (W.sLI j hj).2.1, by rw [hf _ fun e => (W.sLI j hj).2.1 (.inr (.inr (.inl e)))]; exact (W.sLI j hj).2.2⟩
  inj := W.inj
  sAT := ⟨W.sAT.1, by show ∃ vs n, f' l.AT = _ ∧ _; rw [hf _ O.d23]; exact W.sAT.2⟩
  sPS := ⟨W.sPS.1, hP⟩
  sTW := ⟨W.sTW.1, by show TwinAt w (f' l.TW) _ _ _; rw [hf _ (Ne.symm O.d34)]; exact W.sTW.2⟩
theorem Ld0.addkid (W : Ld0 w l LI σ en B f) {k sp : Nat} (hk : k < l.N) (hf : ∀ b, b ≠ LI k → f' b = f b)
    (hX : ∃ (vs : List Value) (n : Nat), f' (LI k) = PySem.W.listOf vs.toArray n ∧ Ints vs ((σ.kids k ++ [sp]).map fun (j : Nat) => (j : Int))) : Ld0 w l LI { σ with kids := put σ.kids k (σ.kids k ++ [sp]) } en B f' := by
  have hs := (W.sLI k hk).2.1
  refine ⟨W.nod, ⟨W.sLL.1, by rw [hf _ fun e => hs (.inl e.symm)]; exact W.sLL.2⟩, fun j hj => ⟨(W.sLI j hj).1, (W.sLI j hj).2.1, ?_⟩, W.inj,
    ⟨W.sAT.1, by rw [hf _ fun e => hs (.inr (.inl e.symm))]; exact W.sAT.2⟩, ⟨W.sPS.1, by rw [hf _ fun e => hs (.inr (.inr (.inl e.symm)))]; exact W.sPS.2⟩, ⟨W.sTW.1, by rw [hf _ fun e => hs (.inr (.inr (.inr (.inl e.symm))))]; exact W.sTW.2⟩⟩
  by_cases h : j = k
  · subst h
    show ∃ vs n, _ ∧ Ints vs ((put σ.kids j (σ.kids j ++ [sp]) j).map _)
    rw [put_self]; exact hX
  · rw [hf _ fun e => h (W.inj j hj k hk e)]
    show ∃ vs n, _ ∧ Ints vs ((put σ.kids k (σ.kids k ++ [sp]) j).map _)
    rw [put_ne h]; exact (W.sLI j hj).2.2
end
theorem upd_app {a : Addr} {o o' : Obj} {l l' X : List (Addr × Obj)} (U : Upd a o o' l l') (hX : ∀ q ∈ X, q.1 ≠ a) : Upd a o o' (l ++ X) (l' ++ X) := by
  induction U with
  | head h => exact .head fun p hp => (List.mem_append.mp hp).elim (h p) (hX p)
  | tail h _ ih => exact .tail h ih
theorem upd_pre {a : Addr} {o o' : Obj} {l l' : List (Addr × Obj)} (U : Upd a o o' l l') : ∀ {P : List (Addr × Obj)}, (∀ q ∈ P, q.1 ≠ a) → Upd a o o' (P ++ l) (P ++ l')
  | [], _ => U
  | p :: P, h => .tail (h p (.head _)) (upd_pre U fun q hq => h q (.tail _ hq))
section
variable {w : World} {A₁ : Around} {E : Value → Shared → Prop} {s : Shared} {h₀ : Heap} {L : Addr} {m : Str → Option Value} {l : Lw} {LI : Nat → Addr} {σ : St} {en : Str} {A B : List Addr} {f f' : Addr → Obj} {X : List (Addr × Obj)} {tab : Obj}
theorem apart_B (ap : Apart A B X) {x : Addr} (hx : x ∈ B) : (∀ q ∈ (1152, tab) :: led A f, q.1 ≠ x) ∧ ∀ q ∈ X, q.1 ≠ x := ⟨fun q hq z => by
  rcases List.mem_cons.mp hq with rfl | hq
  · exact ap.tB (by rw [show (1152 : Nat) = x from z]; exact hx)
  · obtain ⟨b, o⟩ := q
    have := (mem_led.mp hq).1
    exact ap.ab b this (by rw [show b = x from z]; exact hx), fun q hq z => (ap.xs q hq).2.2 (z ▸ hx)⟩
theorem upd14 (ap : Apart A B X) (hn : B.Nodup) {x : Addr} {o o' : Obj} (hx : x ∈ B) (e : f' x = o) : Upd x o o' (lw14 tab A f B f' X) (lw14 tab A f B (upd f' x o') X) := by
  obtain ⟨h1, h2⟩ := apart_B (f := f) (tab := tab) ap hx
  exact upd_pre (P := (1152, tab) :: led A f) (upd_app (upd_led hn hx e) h2) h1
theorem in14B {b : Addr} (hb : b ∈ B) : (b, f' b) ∈ lw14 tab A f B f' X := .tail _ (List.mem_append_right _ (List.mem_append_left _ (in_led hb rfl)))
theorem set_14 (ap : Apart A B X) {h h' : Heap} {x : Addr} {o : Obj} (F : Fr h₀ L h m) (N : News h₀ L h (lw14 tab A f B f' X)) (hx : x ∈ B) (hs : Heap.SameBut x h h') (ho : h'.get? x = some o) : Fr h₀ L h' m ∧ News h₀ L h' (lw14 tab A f B (upd f' x o) X) := by
  have z := N _ (in14B hx)
  obtain ⟨h1, h2⟩ := apart_B (f := f) (tab := tab) ap hx
  refine ⟨F.change hs z.2.1 z.2.2, fun q hq => ?_⟩
  have old : q.1 ≠ x → q ∈ lw14 tab A f B f' X → h'.get? q.1 = some q.2 ∧ q.1 ≠ L ∧ h₀.get? q.1 = none := fun hne hm => ⟨(hs.2 q.1 hne).trans (N q hm).1, (N q hm).2⟩
  rcases List.mem_cons.mp hq with hq' | hq'
  · exact old (h1 q (hq' ▸ .head _)) (hq' ▸ .head _)
  · rcases List.mem_append.mp hq' with hq' | hq'
    · exact old (h1 q (.tail _ hq')) (.tail _ (List.mem_append_left _ hq'))
    · rcases List.mem_append.mp hq' with hq' | hq'
      · obtain ⟨b, ob⟩ := q
        obtain ⟨hb, rfl⟩ := mem_led.mp hq'
        by_cases e : b = x
        · subst e; rw [upd_self]; exact ⟨ho, z.2⟩
        · rw [upd_ne e]
          have zz := N _ (in14B (tab := tab) (A := A) (f := f) (X := X) hb)
          exact ⟨(hs.2 b e).trans zz.1, zz.2⟩
      · exact old (h2 q hq') (.tail _ (List.mem_append_right _ (List.mem_append_right _ hq')))
/-- places[k] = q -/
theorem setP_0 {k : Nat} {u t : Tok} {q : Int} {Q : Unit → Shared → Prop} (ap : Apart A B X) (O : Lw0 l) (F : Fr h₀ L s.heap m) (N : News h₀ L s.heap (lw14 tab A f B f' X)) (D : Ld0 w l LI σ en B f') (hk : k < l.N)
    (h : ∀ h' fB, Fr h₀ L h' m → News h₀ L h' (lw14 tab A f B fB X) → Ld0 w (l.place k q) LI σ en B fB → Q () { s with heap := h' }) :
    wpAny (model prg w) A₁ (setItem (.ref l.PS) (.int (k : Int) u) (.int q t)) Q E s := by
  obtain ⟨b1, vs, n, e1, hl, hv⟩ := D.sPS
  have hz := N _ (in14B (tab := tab) (A := A) (f := f) (X := X) b1)
  rw [e1] at hz
  have := O.n7
  refine ki_setAt hz.1 (by omega) (by omega) (by simp only [List.size_toArray]; omega) ?_
  obtain ⟨F', N'⟩ := set_14 ap F N b1 (Heap.SameBut.update ..) (isL_set (i := k) (v := .int q t) hz.1 (by omega))
  refine h _ _ F' N' (D.setplace O (fun b hb => upd_ne hb) ⟨_, n, upd_self _ _ _, by simpa using hl, fun j hj => ?_⟩)
  show (put l.pl k (some q) j = none → _) ∧ ∀ p, put l.pl k (some q) j = some p → _
  by_cases e : j = k
  · subst e
    rw [put_self]
    refine ⟨fun h => (by cases h), fun p h => ?_⟩
    cases h
    exact ⟨t, by rw [List.getElem?_set_self (by omega)]⟩
  · rw [put_ne e, List.getElem?_set_ne (Ne.symm e)]
    exact hv j hj
/-- ats[k] = v -/
theorem setA_0 {k : Nat} {u t : Tok} {v : Int} {Q : Unit → Shared → Prop} (ap : Apart A B X) (O : Lw0 l) (F : Fr h₀ L s.heap m) (N : News h₀ L s.heap (lw14 tab A f B f' X)) (D : Ld0 w l LI σ en B f') (hk : k < l.N)
    (h : ∀ h' fB, Fr h₀ L h' m → News h₀ L h' (lw14 tab A f B fB X) → Ld0 w l LI { σ with at_ := put σ.at_ k v } en B fB → Q () { s with heap := h' }) :
    wpAny (model prg w) A₁ (setItem (.ref l.AT) (.int (k : Int) u) (.int v t)) Q E s := by
  obtain ⟨b1, vs, n, e1, hv⟩ := D.sAT
  have hz := N _ (in14B (tab := tab) (A := A) (f := f) (X := X) b1)
  rw [e1] at hz
  have hl : vs.length = l.N := by rw [hv.1]; simp
  have := O.n7
  refine ki_setAt hz.1 (by omega) (by omega) (by simp only [List.size_toArray]; omega) ?_
  obtain ⟨F', N'⟩ := set_14 ap F N b1 (Heap.SameBut.update ..) (isL_set (i := k) (v := .int v t) hz.1 (by omega))
  exact h _ _ F' N' (D.setat O (fun b hb => upd_ne hb) ⟨_, n, upd_self _ _ _, hv.set k v t hk⟩)
/-- lists[p] -/
theorem subL_0 {value slice : Expr} {k : Nat} {u : Tok} {Q : Value → Shared → Prop} (O : Lw0 l) (N : News h₀ L s.heap (lw14 tab A f B f' X)) (D : Ld0 w l LI σ en B f') (hk : k < l.N) (h : Q (.ref (LI k)) s)
    (hs : subscripted slice false (.ref l.LL) (.int (k : Int) u) = operate [.ref l.LL, .int (k : Int) u] (getItem (.ref l.LL) (.int (k : Int) u)) := by with_unfolding_all rfl) :
    wpAny (model prg w) A₁ (subscriptTail value slice (.ref l.LL) (.int (k : Int) u)) Q E s := by
  obtain ⟨b1, n, e1⟩ := D.sLL
  have := O.n7
  have hz := (N _ (in14B (tab := tab) (A := A) (f := f) (X := X) b1)).1
  rw [e1] at hz
  exact sub_at hz (by omega) (by simp [hk]) h hs
theorem metI_0 {k : Nat} {pl : Sem Bool} {Q : Value × List Value → Shared → Prop} (N : News h₀ L s.heap (lw14 tab A f B f' X)) (D : Ld0 w l LI σ en B f') (hk : k < l.N)
    (h : Q (.builtin "list.append", [.ref (LI k)]) s) : wpAny (model prg w) A₁ (getMethod (.ref (LI k)) (PySem.Str.ofString "append") pl) Q E s := by
  obtain ⟨b1, _, vs, n, e1, _⟩ := D.sLI k hk
  have hz := in14B (f' := f') (tab := tab) (A := A) (f := f) (X := X) b1
  rw [e1] at hz
  exact listMethod_K N hz PySem.F.slot_list_append PySem.F.type_list_append h
/-- lists[p].append(k) -/
theorem appK_0 {p sp : Nat} {t : Tok} {Q : Value → Shared → Prop} (ap : Apart A B X) (F : Fr h₀ L s.heap m) (N : News h₀ L s.heap (lw14 tab A f B f' X)) (D : Ld0 w l LI σ en B f') (hp : p < l.N) (hz : (σ.kids p).length ≤ 20)
    (h : ∀ h' fB, Fr h₀ L h' m → News h₀ L h' (lw14 tab A f B fB X) → Ld0 w l LI { σ with kids := put σ.kids p (σ.kids p ++ [sp]) } en B fB → Q .none { s with heap := h' }) :
    wpAny (model prg w) A₁ (call (.builtin "list.append") [.ref (LI p), .int (sp : Int) t]) Q E s := by
  obtain ⟨b1, _, vs, n, e1, hv⟩ := D.sLI p hp
  have hl : vs.length = (σ.kids p).length := by rw [hv.1]; simp
  have hzz : (20 : Nat) ≤ sizeLine := by rw [sizeLine_eq]; decide
  refine append_K F N (upd14 ap D.nod b1 e1) (fun h' F' N' => h h' _ F' N' (D.addkid hp (fun b hb => upd_ne hb) ⟨vs ++ [.int (sp : Int) t], n + 1, ?_, ?_⟩)) (by simp only [List.size_toArray]; omega)
  · rw [upd_self]
    congr 1
    apply Array.toList_inj.mp
    simp
  · rw [List.map_append]
    exact hv.push _ _
end
end
section
local macro_rules | `(tactic| k_room) => `(tactic| ((try simp only [depth_mark, depth_under_make, depth_under_kw, depth_in1, depth_deeper, depth_caller]); (try dsimp only [ktrTop]); (simp only [recursionLimit] at *); omega))
local macro_rules | `(tactic| k_units) => `(tactic| ((simp only [units_in1, units_deeper, Around.mark_units, units_caller, cLine_is] at *); (try dsimp only [ktrTop] at *); omega))
local macro_rules | `(tactic| k_all) => `(tactic| assumption)
theorem fill_LJ : PySem.Challenge.rw_br5015_01 = PySem.Challenge.rw_br5015_01 ∧ K = K := by
  k_with_none
  k_fill
  exact ⟨rfl, rfl⟩
def forBody : Stmt → List Stmt | .For _ _ b _ _ => b | _ => []
abbrev b14 : List Stmt := forBody (((fbody (st 26))[14]?).getD (.Pass default))
abbrev MS (nd b n e : Nat) (t1 tb tn te : Tok) (LD SL SC LLa PSa ATa SNa MD PL TW SP : Addr) : Str → Option Value := ins "spare" SP (M7 nd b n e t1 tb tn te LD SL SC LLa PSa ATa SNa MD PL TW)
abbrev ML (nd b n e : Nat) (t1 tb tn te : Tok) (LD SL SC LLa PSa ATa SNa MD PL TW SP : Addr) (vk vp vq : Option Value) : Str → Option Value := fun y =>
  if y = Str.ofString "place" then vq else if y = Str.ofString "parent" then vp else if y = Str.ofString "k" then vk else MS nd b n e t1 tb tn te LD SL SC LLa PSa ATa SNa MD PL TW SP y
section
variable {nd b n e : Nat} {t1 tb tn te : Tok} {LD SL SC LLa PSa ATa SNa MD PL TW SP : Addr} {vk vp vq v : Option Value} {g h : Heap} {L : Addr}
theorem ml_par (F : Fr g L h (fun y => if y = Str.ofString "parent" then v else ML nd b n e t1 tb tn te LD SL SC LLa PSa ATa SNa MD PL TW SP vk vp vq y)) : Fr g L h (ML nd b n e t1 tb tn te LD SL SC LLa PSa ATa SNa MD PL TW SP vk v vq) := by
  refine (congrArg (Fr g L h) (funext fun y => ?_ : _ = _)).mp F
  by_cases h1 : y = Str.ofString "parent"
  · subst h1
    rw [if_pos rfl]
    show v = if Str.ofString "parent" = Str.ofString "place" then vq else _
    rw [if_neg (by decide +kernel), if_pos rfl]
  · rw [if_neg h1]
    show (if y = Str.ofString "place" then vq else if y = Str.ofString "parent" then vp else _) = if y = Str.ofString "place" then vq else if y = Str.ofString "parent" then v else _
    rw [if_neg h1, if_neg h1]
theorem ml_place (F : Fr g L h (fun y => if y = Str.ofString "place" then v else ML nd b n e t1 tb tn te LD SL SC LLa PSa ATa SNa MD PL TW SP vk vp vq y)) : Fr g L h (ML nd b n e t1 tb tn te LD SL SC LLa PSa ATa SNa MD PL TW SP vk vp v) := by
  refine (congrArg (Fr g L h) (funext fun y => ?_ : _ = _)).mp F
  by_cases h1 : y = Str.ofString "place"
  · subst h1
    rw [if_pos rfl]
    exact (if_pos rfl).symm
  · rw [if_neg h1]
    show (if y = Str.ofString "place" then vq else _) = if y = Str.ofString "place" then v else _
    rw [if_neg h1, if_neg h1]
theorem ml_k (F : Fr g L h (fun y => if y = Str.ofString "k" then v else ML nd b n e t1 tb tn te LD SL SC LLa PSa ATa SNa MD PL TW SP vk vp vq y)) : Fr g L h (ML nd b n e t1 tb tn te LD SL SC LLa PSa ATa SNa MD PL TW SP v vp vq) := by
  refine (congrArg (Fr g L h) (funext fun y => ?_ : _ = _)).mp F
  by_cases h1 : y = Str.ofString "k"
  · subst h1
    rw [if_pos rfl]
    show v = if Str.ofString "k" = Str.ofString "place" then vq else if Str.ofString "k" = Str.ofString "parent" then vp else _
    rw [if_neg (by decide +kernel), if_neg (by decide +kernel), if_pos rfl]
  · rw [if_neg h1]
    show (if y = Str.ofString "place" then vq else if y = Str.ofString "parent" then vp else if y = Str.ofString "k" then vk else _) = if y = Str.ofString "place" then vq else if y = Str.ofString "parent" then vp else if y = Str.ofString "k" then v else _
    rw [if_neg h1, if_neg h1]
end
section
variable {w : World} {mean : ExcName → Option Value} {mg mb : Str → Option Value} {h₀ : Heap} {L fa SC : Addr} {cd : Value} {s : Shared} {Q : Flow → Shared → Prop} {E : Value → Shared → Prop}
  {nd b n e : Nat} {t1 tb tn te : Tok} {LD SL LLa PSa ATa SNa MD PL TW SP : Addr} {W : List (Addr × Obj)} {vk vp vq : Option Value} {vals : List Value} {ns : List Int}
theorem par_14 (hB : Below callerA h₀ [] h₀) (X₀ : (K w.params).In h₀) (T : Top topProg lo mean mg mb h₀) (hnd : nd ≤ 5) (h2 : 2 * nd ≤ ns.length) (hL : h₀.IsList SC vals.toArray) (hI : IntsAre vals ns) (hlen : ns.length ≤ 63) {k : Nat} {tv : Tok} (hk1 : 1 ≤ k) (hkn : k ≤ nd + 1)
  (F : Fr h₀ L s.heap (ML nd b n e t1 tb tn te LD SL SC LLa PSa ATa SNa MD PL TW SP (some (.int (k : Int) tv)) vp vq)) (N : News h₀ L s.heap W)
  (nxt : ∀ h tk (p : Nat) tp, Fr h₀ L h (ML nd b n e t1 tb tn te LD SL SC LLa PSa ATa SNa MD PL TW SP (some (.int (k : Int) tv)) (some (.int (p : Int) tp)) vq) → News h₀ L h W → p < k → Q .next { s with heap := h, toks := tk }) :
  wpAny (model prg w) (callerA.deeper (lawEnv L fa cd)) (exec ((b14[0]?).getD (.Pass default)) (lawEnv L fa cd)) Q E s := by
  show wpAny _ _ (exec (.Assign [.Name _ _] (.IfExp _ _ _ _) _) _) _ _ _
  k_steps
  all_goals (rename Fr _ _ _ _ => F9; rename News _ _ _ _ => N9)
  · obtain ⟨p, hp, hlt⟩ : ∃ p : Nat, (ns.getD (2 * (k : Int) - 2).toNat 0).fmod (k : Int) = (p : Int) ∧ p < k := by
      have h1 : 0 ≤ (ns.getD (2 * (k : Int) - 2).toNat 0).fmod (k : Int) := Int.fmod_nonneg_of_pos _ (by omega)
      have h2 : (ns.getD (2 * (k : Int) - 2).toNat 0).fmod (k : Int) < (k : Int) := Int.fmod_lt_of_pos _ (by omega)
      exact ⟨_, (Int.toNat_of_nonneg h1).symm, by omega⟩
    rw [hp] at F9
    exact nxt _ _ p _ (ml_par F9) N9 hlt
  · exact nxt _ _ 0 _ (ml_par F9) N9 (by omega)
theorem place_14 (hB : Below callerA h₀ [] h₀) (X₀ : (K w.params).In h₀) (T : Top topProg lo mean mg mb h₀) (hnd : nd ≤ 5) (h2 : 2 * nd ≤ ns.length) (hL : h₀.IsList SC vals.toArray) (hI : IntsAre vals ns) (hlen : ns.length ≤ 63) {k : Nat} {tv : Tok} (hk1 : 1 ≤ k) (hkn : k ≤ nd + 1)
  (F : Fr h₀ L s.heap (ML nd b n e t1 tb tn te LD SL SC LLa PSa ATa SNa MD PL TW SP (some (.int (k : Int) tv)) vp vq)) (N : News h₀ L s.heap W)
  (nxt : ∀ h tk (q : Int) tq, Fr h₀ L h (ML nd b n e t1 tb tn te LD SL SC LLa PSa ATa SNa MD PL TW SP (some (.int (k : Int) tv)) vp (some (.int q tq))) → News h₀ L h W → 0 ≤ q ∧ q ≤ 5 → Q .next { s with heap := h, toks := tk }) :
  wpAny (model prg w) (callerA.deeper (lawEnv L fa cd)) (exec ((b14[1]?).getD (.Pass default)) (lawEnv L fa cd)) Q E s := by
  show wpAny _ _ (exec (.Assign [.Name _ _] (.IfExp _ _ _ _) _) _) _ _ _
  k_steps
  all_goals (rename Fr _ _ _ _ => F9; rename News _ _ _ _ => N9)
  · have h1 : 0 ≤ (ns.getD (2 * (k : Int) - 1).toNat 0).fmod 6 := Int.fmod_nonneg_of_pos _ (by omega)
    have h2 : (ns.getD (2 * (k : Int) - 1).toNat 0).fmod 6 < 6 := Int.fmod_lt_of_pos _ (by omega)
    exact nxt _ _ _ _ (ml_place F9) N9 (by omega)
  · exact nxt _ _ 2 _ (ml_place F9) N9 (by omega)
end
end
section
local macro_rules | `(tactic| k_room) => `(tactic| ((try simp only [depth_mark, depth_under_make, depth_under_kw, depth_in1, depth_deeper, depth_caller]); (try dsimp only [ktrTop]); (simp only [recursionLimit] at *); omega))
local macro_rules | `(tactic| k_units) => `(tactic| ((simp only [units_in1, units_deeper, Around.mark_units, units_caller, cLine_is] at *); (try dsimp only [ktrTop] at *); omega))
local macro_rules | `(tactic| k_all) => `(tactic| assumption)
theorem fill_LK : PySem.Challenge.rw_br5015_01 = PySem.Challenge.rw_br5015_01 ∧ K = K := by
  k_with_none
  k_fill
  exact ⟨rfl, rfl⟩
def Geo.wth (g : Geo) (pl : Nat → Option Int) (H : Nat → Addr) : Geo := { g with pl := pl, H := H }
def Lw.wth (l : Lw) (pl : Nat → Option Int) : Lw := { l with pl := pl }
section
variable {w : World} {A₁ : Around} {E : Value → Shared → Prop} {s : Shared} {h₀ : Heap} {L : Addr} {nm : Value} {g : Geo} {pre : List (Int × Int × Int)} {σ : St} {A B : List Addr} {f f' : Addr → Obj} {X : List (Addr × Obj)} {tab : Obj}
theorem in14e {b : Addr} {o : Obj} (hb : b ∈ A) (e : f b = o) : (b, o) ∈ lw14 tab A f B f' X := e ▸ in14 hb
/-- streams[k] -/
theorem subS_14 {value slice : Expr} {k N : Nat} {SL : Addr} {XX : Nat → Addr} {u : Tok} {Q : Value → Shared → Prop} (N₁ : News h₀ L s.heap (lw14 tab A f B f' X)) (hS : SL ∈ A ∧ ∃ n, f SL = PySem.W.listOf ((List.range N).map fun j => Value.ref (XX j)).toArray n) (n7 : N ≤ 7) (hk : k < N) (h : Q (.ref (XX k)) s)
    (hs : subscripted slice false (.ref SL) (.int (k : Int) u) = operate [.ref SL, .int (k : Int) u] (getItem (.ref SL) (.int (k : Int) u)) := by with_unfolding_all rfl) :
    wpAny (model prg w) A₁ (subscriptTail value slice (.ref SL) (.int (k : Int) u)) Q E s := by
  obtain ⟨b1, n, e1⟩ := hS
  have hz := (N₁ _ (in14 (tab := tab) (B := B) (f' := f') (X := X) b1)).1
  rw [e1] at hz
  exact sub_at hz (by omega) (by simp [hk]) h hs
end
section
variable {w : World} {mean : ExcName → Option Value} {mg mb : Str → Option Value} {h₀ : Heap} {L fa SC : Addr} {cd : Value} {s : Shared} {Q : Flow → Shared → Prop} {E : Value → Shared → Prop}
  {nd b n e : Nat} {t1 tb tn te : Tok} {LD : Addr} {vp vq : Option Value} {g : Geo} {l : Lw} {LI : Nat → Addr} {σ : St} {en : Str} {A B : List Addr} {f f' : Addr → Obj} {X : List (Addr × Obj)} {tab : Obj}
theorem if1_14 (hB : Below callerA h₀ [] h₀) (X₀ : (K w.params).In h₀) (T : Top topProg lo mean mg mb h₀) (hT9 : CodeHd h₀ 1156 1152) (hnd : nd ≤ 5) (hN : g.N = nd + 2) (hNl : l.N = nd + 2) {k : Nat} {tv tq : Tok} {q : Int} (hk1 : 1 ≤ k) (hkn : k ≤ nd + 1) (hq : 0 ≤ q ∧ q ≤ 5)
  (F : Fr h₀ L s.heap (ML nd b n e t1 tb tn te LD g.SL SC l.LL l.PS l.AT g.SN g.MD g.PL l.TW (g.X g.sp) (some (.int (k : Int) tv)) vp (some (.int q tq)))) (N : News h₀ L s.heap (lw14 tab A f B f' X))
  (G : GeoOk g) (O : Lw0 l) (ht : TabOk g A f tab) (ap : Apart A B X) (W : Wd w ((mg "__name__").getD .none) g [] σ A f) (D : Ld0 w l LI σ en B f') (hpl : l.pl = g.pl) (hk0 : g.pl k = none)
  (nxt : ∀ h tk pl' H' A' fA fB tab', (∀ j, j ≠ k → pl' j = g.pl j) → Fr h₀ L h (ML nd b n e t1 tb tn te LD g.SL SC l.LL l.PS l.AT g.SN g.MD g.PL l.TW (g.X g.sp) (some (.int (k : Int) tv)) vp (some (.int q tq))) → News h₀ L h (lw14 tab' A' fA B fB X) →
    GeoOk (g.wth pl' H') → Lw0 (l.wth pl') → TabOk (g.wth pl' H') A' fA tab' → Apart A' B X → Wd w ((mg "__name__").getD .none) (g.wth pl' H') [] σ A' fA → Ld0 w (l.wth pl') LI σ en B fB → Q .next { s with heap := h, toks := tk }) :
  wpAny (model prg w) (callerA.deeper (lawEnv L fa cd)) (exec ((b14[2]?).getD (.Pass default)) (lawEnv L fa cd)) Q E s := by
  show wpAny _ _ (exec (.If _ _ _ _) _) _ _ _
  have hkN : k < g.N := by omega
  have hkl : k < l.N := by omega
  replace hT9 : Hid (CodeHd h₀ 1156 1152) := hT9
  (k_with "setItem ref int" => k_dflt (refine' setP_0 (q := q) ap O ?k1 ?k2 D hkl ?_; (case k1 => k_asm); (case k2 => k_asm); intro h2 fB2 F2 N2 D2))
  (k_with "subscriptTail" => k_dflt (first
    | (refine' subS_14 (SL := g.SL) (XX := g.X) ?k1 W.sL G.n7 hkN ?_ ?k2; (case k1 => k_asm); (case k2 => with_unfolding_all rfl))
    | (refine' subS_14 (N := g.N) (SL := g.SL) (XX := g.X) ?k1 W4.sL G.n7 hkN ?_ ?k2; (case k1 => k_asm); (case k2 => with_unfolding_all rfl))))
  (k_with "call ref" => k_dflt (first
    | (refine' handler_W G ?k1 ?k2 ?k3 ?k4 ht ap hT9 ?k5 ?kK W ?kd ?ku ?_; (case k1 => k_asm); (case k2 => k_asm); (case k3 => k_in); (case k4 => k_asm); (case k5 => k_asm); (case kK => exact rfl); (case kd => k_room); (case ku => k_units); intro h3 A3 f3 tab3 LM3 tk3 F3 N3 ht3 ap3 W3 hL3)
    | (refine' back_W G ?k1 ?k2 ?k3 ?k4 ht3 ap3 ?k5 ?kK W3 hkN hk0 hL3 ?kd ?ku ?_; (case k1 => k_asm); (case k2 => k_asm); (case k3 => k_in); (case k4 => k_asm); (case k5 => k_asm); (case kK => exact rfl); (case kd => k_room); (case ku => k_units); intro h4 A4 f4 H4 HD4 t4 z4 tk4 F4 N4 ht4 ap4 W4 mH4 mHD4 eH4 eHD4;
       (have G4 := Geo.han_ok G (k := k) (H := H4) hq); (obtain ⟨b4, t5, y5, v5, e5⟩ := W4.sD k hkN); rw [Geo.han_hv] at e5; (have mX5 : (g.X k, instObj 1047 (g.D k)) ∈ lw14 tab3 A4 f4 B fB2 X := in14e (W4.sX k hkN).1 (W4.sX k hkN).2); (have mD5 : (g.D k, sdict w.params t5 y5 v5 (g.B k) (g.C k) (.ref H4)) ∈ lw14 tab3 A4 f4 B fB2 X := in14e b4 e5); (have mH5 : (H4, instObj 1075 HD4) ∈ lw14 tab3 A4 f4 B fB2 X := in14e mH4 eH4); (have mI5 : (HD4, hdict w.params t4 q z4 LM3) ∈ lw14 tab3 A4 f4 B fB2 X := in14e mHD4 eHD4))))
  k_steps
  all_goals first
    | (rename ¬ _ = _ => hne9; exact absurd rfl hne9)
    | (rename _ ≠ _ => hne9; exact absurd rfl hne9)
    | (have e2 : l.place k q = l.wth (put g.pl k (some q)) := by unfold Lw.place Lw.wth; rw [hpl]
       refine nxt h4 _ (put g.pl k (some q)) (put g.H k H4) A4 f4 fB2 tab3 (fun j hj => put_ne hj) F4 N4 G4 ?_ ht4 ap4 W4 ?_
       · rw [← e2]; exact O.place hq
       · rw [← e2]; exact D2)
    | (have e2 : l = l.wth g.pl := by rw [← hpl]; rfl
       refine nxt s.heap s.toks g.pl g.H A f f' tab (fun j hj => rfl) F N G ?_ ht ap W ?_
       · rw [← e2]; exact O
       · rw [← e2]; exact D)
end
end
section
local macro_rules | `(tactic| k_room) => `(tactic| ((try simp only [depth_mark, depth_under_make, depth_under_kw, depth_in1, depth_deeper, depth_caller]); (try dsimp only [ktrTop]); (simp only [recursionLimit] at *); omega))
local macro_rules | `(tactic| k_units) => `(tactic| ((simp only [units_in1, units_deeper, Around.mark_units, units_caller, cLine_is] at *); (try dsimp only [ktrTop] at *); omega))
local macro_rules | `(tactic| k_all) => `(tactic| assumption)
theorem fill_LL : PySem.Challenge.rw_br5015_01 = PySem.Challenge.rw_br5015_01 ∧ K = K := by
  k_with_none
  k_fill
  exact ⟨rfl, rfl⟩
section
variable {w : World} {mean : ExcName → Option Value} {mg mb : Str → Option Value} {h₀ : Heap} {L fa SC : Addr} {cd : Value} {s : Shared} {Q : Flow → Shared → Prop} {E : Value → Shared → Prop}
  {nd b n e : Nat} {t1 tb tn te : Tok} {LD : Addr} {vq : Option Value} {g : Geo} {l : Lw} {LI : Nat → Addr} {σ : St} {en : Str} {A B : List Addr} {f f' : Addr → Obj} {X : List (Addr × Obj)} {tab : Obj} {nm : Value}
theorem if2_14 (hB : Below callerA h₀ [] h₀) (X₀ : (K w.params).In h₀) (T : Top topProg lo mean mg mb h₀) (hnd : nd ≤ 5) (hN : g.N = nd + 2) (hNl : l.N = nd + 2) {k p : Nat} {tv tp : Tok} (hk1 : 1 ≤ k) (hkn : k ≤ nd + 1) (hpk : p < k) (hlen : (σ.kids p).length ≤ 20)
  (F : Fr h₀ L s.heap (ML nd b n e t1 tb tn te LD g.SL SC l.LL l.PS l.AT g.SN g.MD g.PL l.TW (g.X g.sp) (some (.int (k : Int) tv)) (some (.int (p : Int) tp)) vq)) (N : News h₀ L s.heap (lw14 tab A f B f' X))
  (G : GeoOk g) (O : Lw0 l) (ht : TabOk g A f tab) (ap : Apart A B X) (W : Wd w nm g [] σ A f) (D : Ld0 w l LI σ en B f')
  (nxt : ∀ h tk σ' fA fB, (nd < k ∧ σ' = σ ∨ k ≤ nd ∧ σ' = { σ with kids := put σ.kids p (σ.kids p ++ [k]) }) → Fr h₀ L h (ML nd b n e t1 tb tn te LD g.SL SC l.LL l.PS l.AT g.SN g.MD g.PL l.TW (g.X g.sp) (some (.int (k : Int) tv)) (some (.int (p : Int) tp)) vq) → News h₀ L h (lw14 tab A fA B fB X) →
    TabOk g A fA tab → Wd w nm g [] σ' A fA → Ld0 w l LI σ' en B fB → Q .next { s with heap := h, toks := tk }) :
  wpAny (model prg w) (callerA.deeper (lawEnv L fa cd)) (exec ((b14[3]?).getD (.Pass default)) (lawEnv L fa cd)) Q E s := by
  show wpAny _ _ (exec (.If _ _ _ _) _) _ _ _
  have hkN : k < g.N := by omega
  have hpN : p < g.N := by omega
  have hpl : p < l.N := by omega
  obtain ⟨b4, t5, y5, v5, e5⟩ := W.sD p hpN
  have mX5 : (g.X p, instObj 1047 (g.D p)) ∈ lw14 tab A f B f' X := in14e (W.sX p hpN).1 (W.sX p hpN).2
  have mD5 : (g.D p, sdict w.params t5 y5 v5 (g.B p) (g.C p) (g.hv p)) ∈ lw14 tab A f B f' X := in14e b4 e5
  (k_with "subscriptTail" => k_dflt (first
    | ((with_reducible show wpAny _ _ (subscriptTail _ _ (Value.ref g.SL) (Value.int (k : Int) _)) _ _ _); refine' subS_14 (k := k) (N := g.N) (SL := g.SL) (XX := g.X) ?k1 W.sL G.n7 hkN ?_ ?k2; (case k1 => k_asm); (case k2 => with_unfolding_all rfl))
    | ((with_reducible show wpAny _ _ (subscriptTail _ _ (Value.ref g.SL) (Value.int (p : Int) _)) _ _ _); refine' subS_14 (k := p) (N := g.N) (SL := g.SL) (XX := g.X) ?k1 W.sL G.n7 hpN ?_ ?k2; (case k1 => k_asm); (case k2 => with_unfolding_all rfl))
    | ((with_reducible show wpAny _ _ (subscriptTail _ _ (Value.ref l.LL) (Value.int (p : Int) _)) _ _ _); refine' subL_0 (k := p) O ?k1 D hpl ?_ ?k2; (case k1 => k_asm); (case k2 => with_unfolding_all rfl))))
  (k_with "call ref" => k_dflt (
    (refine' add_W G ?k1 ?k2 ?k3 ?k4 ht ap ?k5 ?kK W hpN hlen ?kd ?ku ?_; (case k1 => k_asm); (case k2 => k_asm); (case k3 => k_in); (case k4 => k_asm); (case k5 => k_asm); (case kK => exact rfl); (case kd => k_room); (case ku => k_units); intro h3 f3 tk3 F3 N3 ht3 W3)))
  (k_with "getMethod ref" => k_dflt ((with_reducible show wpAny _ _ (getMethod (Value.ref (LI p)) _ _) _ _ _); refine' metI_0 ?k1 D hpl ?_; (case k1 => k_asm)))
  (k_with "call builtin:list.append" => k_dflt (refine' appK_0 (p := p) ap ?k1 ?k2 D hpl hlen ?_; (case k1 => k_asm); (case k2 => k_asm); intro h4 fB4 F4 N4 D4))
  k_steps
  · exact nxt h4 _ _ f3 fB4 (.inr ⟨by omega, rfl⟩) F4 N4 ht3 W3 D4
  · exact nxt s.heap s.toks σ f f' (.inl ⟨by omega, rfl⟩) F N ht W D
end
end
section
local macro_rules | `(tactic| k_room) => `(tactic| ((try simp only [depth_mark, depth_under_make, depth_under_kw, depth_in1, depth_deeper, depth_caller]); (try dsimp only [ktrTop]); (simp only [recursionLimit] at *); omega))
local macro_rules | `(tactic| k_units) => `(tactic| ((simp only [units_in1, units_deeper, Around.mark_units, units_caller, cLine_is] at *); (try dsimp only [ktrTop] at *); omega))
local macro_rules | `(tactic| k_all) => `(tactic| assumption)
theorem fill_LM : PySem.Challenge.rw_br5015_01 = PySem.Challenge.rw_br5015_01 ∧ K = K := by
  k_with_none
  k_fill
  exact ⟨rfl, rfl⟩
structure J14 (w : World) (nm : Value) (g : Geo) (l : Lw) (LI : Nat → Addr) (σ₀ : St) (en : Str) (nd i : Nat) (pl : Nat → Option Int) (H : Nat → Addr) (σ : St) (tab : Obj) (A : List Addr) (f : Addr → Obj) (B : List Addr) (f' : Addr → Obj) (X : List (Addr × Obj)) : Prop where
  G : GeoOk (g.wth pl H)
  O : Lw0 (l.wth pl)
  ht : TabOk (g.wth pl H) A f tab
  ap : Apart A B X
  W : Wd w nm (g.wth pl H) [] σ A f
  D : Ld0 w (l.wth pl) LI σ en B f'
  fresh : ∀ j, i < j → pl j = none
  same : σ = { σ₀ with kids := σ.kids }
  up : ∀ k, ∀ j ∈ σ.kids k, k < j ∧ j < nd + 2
  few : ∀ k, (σ.kids k).length ≤ min i nd
theorem same_put {σ σ₀ : St} {K : Nat → List Nat} (h : σ = { σ₀ with kids := σ.kids }) : ({ σ with kids := K } : St) = { σ₀ with kids := K } := by
  rw [h]
theorem range14 : ∀ k : Nat, k ≤ 5 → Builtin.Range.small 1 ((k : Int) + 2) 1 = true ∧ Builtin.Range.rangeSize 1 ((k : Int) + 2) 1 = ((k + 1 : Nat) : Int) := by decide +kernel
section
variable {w : World} {mean : ExcName → Option Value} {mg mb : Str → Option Value} {h₀ : Heap} {L fa SC : Addr} {cd : Value} {s : Shared} {Q : Flow → Shared → Prop} {E : Value → Shared → Prop}
  {nd b n e : Nat} {t1 tb tn te : Tok} {LD : Addr} {g : Geo} {l : Lw} {LI : Nat → Addr} {σ₀ : St} {en : Str} {vals : List Value} {ns : List Int}
abbrev P14 (w : World) (nm : Value) (g : Geo) (l : Lw) (LI : Nat → Addr) (σ₀ : St) (en : Str) (nd b n e : Nat) (t1 tb tn te : Tok) (LD SC : Addr) (i : Nat) (mi : Str → Option Value) (news : List (Addr × Obj)) : Prop :=
  ∃ vk vp vq pl H σ tab A f B f', mi = ML nd b n e t1 tb tn te LD g.SL SC l.LL l.PS l.AT g.SN g.MD g.PL l.TW (g.X g.sp) vk vp vq ∧ news = lw14 tab A f B f' [] ∧ J14 w nm g l LI σ₀ en nd i pl H σ tab A f B f' []
theorem turn_14 (hB : Below callerA h₀ [] h₀) (X₀ : (K w.params).In h₀) (T : Top topProg lo mean mg mb h₀) (hT9 : CodeHd h₀ 1156 1152) (hnd : nd ≤ 5) (hN : g.N = nd + 2) (hNl : l.N = nd + 2) (h2 : 2 * nd ≤ ns.length) (hL : h₀.IsList SC vals.toArray) (hI : IntsAre vals ns) (hlen : ns.length ≤ 63)
  (i : Nat) (mi : Str → Option Value) (news : List (Addr × Obj)) (h : Heap) (tk : Nat) (it : Addr) (oI : Obj) (tv : Tok) (hi : i < nd + 1) (J : P14 w ((mg "__name__").getD .none) g l LI σ₀ en nd b n e t1 tb tn te LD SC i mi news)
  (F : Fr h₀ L h (fun y => if y = Str.ofString "k" then some (.int (1 + (i : Int)) tv) else mi y)) (N : News h₀ L h ((it, oI) :: news)) (off : ∀ q ∈ news, q.1 ≠ it) :
  wpAny (model prg w) (callerA.deeper (lawEnv L fa cd)) (execs b14 (lawEnv L fa cd)) (fun fl s₂ => fl = .next ∧ ∃ h2 tk2 m2 news2, s₂ = { s with heap := h2, toks := tk2 } ∧ Fr h₀ L h2 m2 ∧ News h₀ L h2 ((it, oI) :: news2) ∧ (∀ q ∈ news2, q.1 ≠ it) ∧ P14 w ((mg "__name__").getD .none) g l LI σ₀ en nd b n e t1 tb tn te LD SC (i + 1) m2 news2) (fun _ _ => False) { s with heap := h, toks := tk } := by
  obtain ⟨vk, vp, vq, pl, H, σ, tab, A, f, B, f', rfl, rfl, J⟩ := J
  have e1 : (1 : Int) + (i : Int) = ((i + 1 : Nat) : Int) := by omega
  rw [e1] at F
  replace F := ml_k F
  have off' : ∀ q ∈ lw14 tab A f B f' [], q.1 ≠ it := off
  have ap' : Apart A B [(it, oI)] := ⟨J.ap.tA, J.ap.tB, J.ap.ab, fun q hq => by
    rw [List.mem_singleton.mp hq]
    exact ⟨fun z => off' _ (.head _) z.symm, fun z => off' _ (in14 z) rfl, fun z => off' _ (in14B z) rfl⟩⟩
  have N1 : News h₀ L h (lw14 tab A f B f' [(it, oI)]) := newsSub N fun q hq => by
    simp only [lw14, List.mem_cons, List.mem_append, List.not_mem_nil, or_false] at hq ⊢
    rcases hq with h | h | h | h
    · exact .inr (.inl h)
    · exact .inr (.inr (.inl h))
    · exact .inr (.inr (.inr h))
    · exact .inl h
  clear off off' N
  have hk0 : pl (i + 1) = none := J.fresh _ (Nat.lt_succ_self i)
  show wpAny _ _ (execs [(b14[0]?).getD (.Pass default), (b14[1]?).getD (.Pass default), (b14[2]?).getD (.Pass default), (b14[3]?).getD (.Pass default)] _) _ _ _
  refine wpAny_execs_cons (par_14 (k := i + 1) hB X₀ T hnd h2 hL hI hlen (by omega) (by omega) F N1 fun h1 tk1 p tp F1 N1 hp => ?_)
  refine wpAny_execs_cons (place_14 (k := i + 1) (s := { s with heap := h1, toks := tk1 }) hB X₀ T hnd h2 hL hI hlen (by omega) (by omega) F1 N1 fun h2 tk2 q tq F2 N2 hq => ?_)
  refine wpAny_execs_cons (if1_14 (k := i + 1) (s := { s with heap := h2, toks := tk2 }) (g := g.wth pl H) (l := l.wth pl) hB X₀ T hT9 hnd hN hNl (by omega) (by omega) hq F2 N2 J.G J.O J.ht ap' J.W J.D rfl hk0 fun h3 tk3 pl' H' A' fA fB tab' hpl F3 N3 G3 O3 ht3 ap3 W3 D3 => ?_)
  refine wpAny_execs_cons (if2_14 (k := i + 1) (p := p) (s := { s with heap := h3, toks := tk3 }) (g := g.wth pl' H') (l := l.wth pl') hB X₀ T hnd hN hNl (by omega) (by omega) hp (by have := J.few p; omega) F3 N3 G3 O3 ht3 ap3 W3 D3 fun h4 tk4 σ' fA4 fB4 hσ F4 N4 ht4 W4 D4 => ?_)
  refine wpAny_execs_nil ⟨rfl, h4, tk4, _, lw14 tab' A' fA4 B fB4 [], rfl, F4, newsSub N4 fun q hq => ?_, fun q hq z => ?_, ⟨_, _, _, pl', H', σ', tab', A', fA4, B, fB4, rfl, rfl, G3, O3, ht4, ⟨ap3.tA, ap3.tB, ap3.ab, fun q hq => (by cases hq)⟩, W4, D4, fun j hj => ?_, ?_, ?_, ?_⟩⟩
  · simp only [lw14, List.mem_cons, List.mem_append, List.not_mem_nil, or_false] at hq ⊢
    rcases hq with h | h | h | h
    · exact .inr (.inr (.inr h))
    · exact .inl h
    · exact .inr (.inl h)
    · exact .inr (.inr (.inl h))
  · obtain ⟨x1, x2, x3⟩ := ap3.xs (it, oI) (.head _)
    rcases List.mem_cons.mp hq with h | h
    · rw [h] at z; exact x1 z.symm
    · obtain ⟨a, o⟩ := q
      have z : a = it := z
      rw [List.append_nil] at h
      rcases List.mem_append.mp h with h | h
      · exact x2 (z ▸ (mem_led.mp h).1)
      · exact x3 (z ▸ (mem_led.mp h).1)
  · rw [hpl j (by omega)]
    exact J.fresh j (by omega)
  · rcases hσ with ⟨_, rfl⟩ | ⟨_, rfl⟩
    · exact J.same
    · exact same_put J.same
  · rcases hσ with ⟨_, rfl⟩ | ⟨hle, rfl⟩
    · exact J.up
    · intro k j hj
      have hj : j ∈ put σ.kids p (σ.kids p ++ [i + 1]) k := hj
      by_cases hk : k = p
      · subst hk
        rw [put_self] at hj
        rcases List.mem_append.mp hj with hj | hj
        · exact J.up k j hj
        · rw [List.mem_singleton.mp hj]; omega
      · rw [put_ne hk] at hj; exact J.up k j hj
  · rcases hσ with ⟨hlt, rfl⟩ | ⟨hle, rfl⟩
    · intro k; have := J.few k; omega
    · intro k
      show (put σ.kids p (σ.kids p ++ [i + 1]) k).length ≤ _
      have := J.few k
      by_cases hk : k = p
      · subst hk
        rw [put_self, List.length_append]
        simp only [List.length_cons, List.length_nil]
        omega
      · rw [put_ne hk]; omega
theorem for_14 (hB : Below callerA h₀ [] h₀) (X₀ : (K w.params).In h₀) (T : Top topProg lo mean mg mb h₀) (hT9 : CodeHd h₀ 1156 1152) (hnd : nd ≤ 5) (hN : g.N = nd + 2) (hNl : l.N = nd + 2) (h2 : 2 * nd ≤ ns.length) (hL : h₀.IsList SC vals.toArray) (hI : IntsAre vals ns) (hlen : ns.length ≤ 63)
  {pl : Nat → Option Int} {H : Nat → Addr} {tab : Obj} {A : List Addr} {f : Addr → Obj} {B : List Addr} {f' : Addr → Obj}
  (F : Fr h₀ L s.heap (MS nd b n e t1 tb tn te LD g.SL SC l.LL l.PS l.AT g.SN g.MD g.PL l.TW (g.X g.sp))) (N : News h₀ L s.heap (lw14 tab A f B f' [])) (J : J14 w ((mg "__name__").getD .none) g l LI σ₀ en nd 0 pl H σ₀ tab A f B f' [])
  (nxt : ∀ h tk vk vp vq pl H σ tab A f B f', Fr h₀ L h (ML nd b n e t1 tb tn te LD g.SL SC l.LL l.PS l.AT g.SN g.MD g.PL l.TW (g.X g.sp) vk vp vq) → News h₀ L h (lw14 tab A f B f' []) → J14 w ((mg "__name__").getD .none) g l LI σ₀ en nd (nd + 1) pl H σ tab A f B f' [] → Q .next { s with heap := h, toks := tk }) :
  wpAny (model prg w) (callerA.deeper (lawEnv L fa cd)) (exec (((fbody (st 26))[14]?).getD (.Pass default)) (lawEnv L fa cd)) Q E s := by
  show wpAny _ _ (exec (.For (.Name _ _) _ _ [] _) _) _ _ _
  have hML : ∀ y, ML nd b n e t1 tb tn te LD g.SL SC l.LL l.PS l.AT g.SN g.MD g.PL l.TW (g.X g.sp) (MS nd b n e t1 tb tn te LD g.SL SC l.LL l.PS l.AT g.SN g.MD g.PL l.TW (g.X g.sp) (Str.ofString "k")) (MS nd b n e t1 tb tn te LD g.SL SC l.LL l.PS l.AT g.SN g.MD g.PL l.TW (g.X g.sp) (Str.ofString "parent")) (MS nd b n e t1 tb tn te LD g.SL SC l.LL l.PS l.AT g.SN g.MD g.PL l.TW (g.X g.sp) (Str.ofString "place")) y = MS nd b n e t1 tb tn te LD g.SL SC l.LL l.PS l.AT g.SN g.MD g.PL l.TW (g.X g.sp) y := by
    intro y
    by_cases h1 : y = Str.ofString "place"
    · subst h1; exact if_pos rfl
    · refine (if_neg h1).trans ?_
      by_cases h2 : y = Str.ofString "parent"
      · subst h2; exact if_pos rfl
      · refine (if_neg h2).trans ?_
        by_cases h3 : y = Str.ofString "k"
        · subst h3; exact if_pos rfl
        · exact if_neg h3
  refine wpAny_For ?_
  (k_with "pyIter ref" => ((with_reducible rename Fr _ _ _ _ => F8); (with_reducible rename News _ _ _ _ => N8); (with_reducible rename IsRange _ _ _ _ _ _ _ _ => R8); k_dflt (refine' forR_W (n := nd + 1) (P14 w ((mg "__name__").getD .none) g l LI σ₀ en nd b n e t1 tb tn te LD SC) rfl ?kx rfl rfl F8 ?kN R8 (range14 nd hnd).1 (range14 nd hnd).2 ?kP ?kbody ?kdone; (case kx => rfl); (case kP => exact ⟨_, _, _, pl, H, σ₀, tab, A, f, B, f', (funext hML).symm, rfl, J⟩); (case kN => exact N8); (case kbody => exact turn_14 (s := _) hB X₀ T hT9 hnd hN hNl h2 hL hI hlen); (case kdone => (intro h9 tk9 mi9 news9 hP9 F9 N9; obtain ⟨vk, vp, vq, pl9, H9, σ9, tab9, A9, f9, B9, f9', rfl, rfl, J9⟩ := hP9; exact nxt h9 tk9 vk vp vq pl9 H9 σ9 tab9 A9 f9 B9 f9' F9 N9 J9)))))
  k_steps
end
end
section
local macro_rules | `(tactic| k_room) => `(tactic| ((try simp only [depth_mark, depth_under_make, depth_under_kw, depth_in1, depth_deeper, depth_caller]); (try dsimp only [ktrTop]); (simp only [recursionLimit] at *); omega))
local macro_rules | `(tactic| k_units) => `(tactic| ((simp only [units_in1, units_deeper, Around.mark_units, units_caller, cLine_is] at *); (try dsimp only [ktrTop] at *); omega))
local macro_rules | `(tactic| k_all) => `(tactic| assumption)
theorem fill_LN : PySem.Challenge.rw_br5015_01 = PySem.Challenge.rw_br5015_01 ∧ K = K := by
  k_with_none
  k_fill
  exact ⟨rfl, rfl⟩
section
variable {w : World} {mean : ExcName → Option Value} {mg mb : Str → Option Value} {nm : Value}
  {dp un : Nat} {gd : Option (List Code)} {cn : Str} {cs : Scope} {a : Addr} {ccd : Value} {cl : List (Str × Addr)} {outer : List Env} {A₀ : Around} {base h₀ : Heap} {L : Addr} {m : Str → Option Value} {s : Shared}
  {Q E : Value → Shared → Prop} {g : Geo} {pre : List (Int × Int × Int)} {σ : St} {A B : List Addr} {f f' : Addr → Obj} {X : List (Addr × Obj)} {tab : Obj}
theorem seek_14 (G : GeoOk g) {k : Nat} {n : Int} {tn : Tok} (hB : Below A₀ base outer h₀) (F : Fr h₀ L s.heap m) (X₀ : (K w.params).In h₀) (N : News h₀ L s.heap (lw14 tab A f B f' X)) (ht : TabOk g A f tab) (ap : Apart A B X)
  (T : Top topProg lo mean mg mb h₀) (hk : cs.kind = .function) (W : Wd w nm g pre σ A f) (hp : 0 ≤ σ.at_ k ∧ σ.at_ k ≤ 5) (hkN : k < g.N) (hn : 0 ≤ n ∧ n ≤ 5) (hd : dp + 10 < recursionLimit) (hu : un + 100 < cLine)
  (ret : ∀ h' fA tk', Fr h₀ L h' m → News h₀ L h' (lw14 tab A fA B f' X) → TabOk g A fA tab → Wd w nm g pre { σ with at_ := put σ.at_ k n } A fA → Q .none { s with heap := h', toks := tk' }) :
  wpAny (model prg w) (ktrTop dp un gd cn cs L a ccd cl outer) (call (.ref 654) [.ref (g.X k), .int n tn]) Q E s := by
  obtain ⟨a1, t, z1, z2, e1⟩ := W.sD k hkN
  obtain ⟨a2, u, z3, e2⟩ := W.sE k hkN
  have a3 := W.sX k hkN
  have a4 := W.sB k hkN
  refine seek_spec (X := g.X k) (D := g.D k) (B := g.B k) (BD := g.BD k) (C := g.C k) (Y := g.Y k) (hv := g.hv k) (t := t) (u := u) (z1 := z1) (z2 := z2) (z3 := z3) (p := σ.at_ k)
    (rest := (lw14 tab A f B f' X).filter fun q => q.1 ≠ g.D k ∧ q.1 ≠ g.BD k) w mean mg mb dp un gd cn cs a ccd cl outer A₀ base h₀ L m s Q E n tn hB F X₀ (newsSub N fun q hq => ?_) T hk hp hn hd hu
    (tagNe (G.tX k hkN) (G.tD k hkN) (by simp)) (tagNe (G.tX k hkN) (G.tE k hkN) (by simp)) (tagNe (G.tD k hkN) (G.tB k hkN) (by simp)) (tagNe (G.tD k hkN) (G.tE k hkN) (by simp)) (tagNe (G.tB k hkN) (G.tE k hkN) (by simp))
    (fun q hq => (of_decide_eq_true (List.mem_filter.mp hq).2).1) (fun q hq => (of_decide_eq_true (List.mem_filter.mp hq).2).2) (fun h' y1 y2 y3 tk' F' N' => ?_)
  · simp only [L4, List.mem_cons] at hq
    rcases hq with rfl | rfl | rfl | rfl | hq
    · exact in14e a3.1 a3.2
    · exact in14e a1 e1
    · exact in14e a4.1 a4.2
    · exact in14e a2 e2
    · exact (List.mem_filter.mp hq).1
  · have hne : g.D k ≠ g.BD k := tagNe (G.tD k hkN) (G.tE k hkN) (by simp)
    have hR : ∀ q ∈ (1152, tab) :: (led B f' ++ X), q ∈ (lw14 tab A f B f' X).filter fun q => q.1 ≠ g.D k ∧ q.1 ≠ g.BD k := fun q hq => List.mem_filter.mpr ⟨by
      rcases List.mem_cons.mp hq with h | h
      · exact h ▸ .head _
      · exact .tail _ (List.mem_append_right _ h), decide_eq_true ⟨apart_A ap a1 q hq, apart_A ap a2 q hq⟩⟩
    refine ret h' (upd (upd f (g.D k) (sdict w.params t y1 y2 (g.B k) (g.C k) (g.hv k))) (g.BD k) (bdict w.params u (g.Y k) n y3)) tk' F' (newsSub N' fun q hq => ?_)
      (ht.mono fun b hb h9 => ⟨hb, by rw [upd_ne fun e => by rw [e, G.tE k hkN] at h9; dsimp only at h9; omega, upd_ne fun e => by rw [e, G.tD k hkN] at h9; dsimp only at h9; omega]⟩)
      (W.setpos G hkN (fun b h1 h2 => ?_) ⟨t, y1, y2, ?_⟩ ⟨u, y3, ?_⟩)
    · rcases List.mem_cons.mp hq with h | hq
      · exact .tail _ (.tail _ (.tail _ (.tail _ (hR _ (h ▸ .head _)))))
      · rcases List.mem_append.mp hq with hq | hq
        · obtain ⟨b, o⟩ := q
          obtain ⟨hb, rfl⟩ := mem_led.mp hq
          simp only [L4, List.mem_cons]
          by_cases h1 : b = g.BD k
          · subst h1; rw [upd_self]; exact .inr (.inr (.inr (.inl rfl)))
          · rw [upd_ne h1]
            by_cases h2 : b = g.D k
            · subst h2; rw [upd_self]; exact .inr (.inl rfl)
            · rw [upd_ne h2]
              exact .inr (.inr (.inr (.inr (List.mem_filter.mpr ⟨in14 hb, decide_eq_true ⟨h2, h1⟩⟩))))
        · exact .tail _ (.tail _ (.tail _ (.tail _ (hR _ (.tail _ hq)))))
    · rw [upd_ne h2, upd_ne h1]
    · rw [upd_ne hne, upd_self]
    · rw [upd_self]
end
abbrev MT (nd b n e : Nat) (t1 tb tn te : Tok) (LD SL SC LLa PSa ATa SNa MD PL TW SP : Addr) (vk vp vq vf vt vd vm : Option Value) : Str → Option Value := fun y =>
  if y = Str.ofString "mark" then vm else if y = Str.ofString "due" then vd else if y = Str.ofString "turn" then vt else if y = Str.ofString "first" then vf else ML nd b n e t1 tb tn te LD SL SC LLa PSa ATa SNa MD PL TW SP vk vp vq y
section
variable {nd b n e : Nat} {t1 tb tn te : Tok} {LD SL SC LLa PSa ATa SNa MD PL TW SP : Addr} {vk vp vq vf vt vd vm v : Option Value} {g h : Heap} {L : Addr}

theorem mt_mark (F : Fr g L h (fun y => if y = Str.ofString "mark" then v else MT nd b n e t1 tb tn te LD SL SC LLa PSa ATa SNa MD PL TW SP vk vp vq vf vt vd vm y)) : Fr g L h (MT nd b n e t1 tb tn te LD SL SC LLa PSa ATa SNa MD PL TW SP vk vp vq vf vt vd v) := by
  refine (congrArg (Fr g L h) (funext fun y => ?_ : _ = _)).mp F
  by_cases h1 : y = Str.ofString "mark"
  · subst h1; rw [if_pos rfl]; exact (if_pos rfl).symm
  · rw [if_neg h1]
    show (if y = Str.ofString "mark" then vm else _) = if y = Str.ofString "mark" then v else _
    rw [if_neg h1, if_neg h1]
theorem mt_due (F : Fr g L h (fun y => if y = Str.ofString "due" then v else MT nd b n e t1 tb tn te LD SL SC LLa PSa ATa SNa MD PL TW SP vk vp vq vf vt vd vm y)) : Fr g L h (MT nd b n e t1 tb tn te LD SL SC LLa PSa ATa SNa MD PL TW SP vk vp vq vf vt v vm) := by
  refine (congrArg (Fr g L h) (funext fun y => ?_ : _ = _)).mp F
  by_cases h1 : y = Str.ofString "due"
  · subst h1; rw [if_pos rfl]
    exact (((if_neg (by decide +kernel)).trans (if_pos rfl)) : (if Str.ofString "due" = Str.ofString "mark" then vm else if Str.ofString "due" = Str.ofString "due" then v else _) = v).symm
  · rw [if_neg h1]
    show (if y = Str.ofString "mark" then vm else if y = Str.ofString "due" then vd else _) = if y = Str.ofString "mark" then vm else if y = Str.ofString "due" then v else _
    rw [if_neg h1, if_neg h1]
theorem mt_turn (F : Fr g L h (fun y => if y = Str.ofString "turn" then v else MT nd b n e t1 tb tn te LD SL SC LLa PSa ATa SNa MD PL TW SP vk vp vq vf vt vd vm y)) : Fr g L h (MT nd b n e t1 tb tn te LD SL SC LLa PSa ATa SNa MD PL TW SP vk vp vq vf v vd vm) := by
  refine (congrArg (Fr g L h) (funext fun y => ?_ : _ = _)).mp F
  by_cases h1 : y = Str.ofString "turn"
  · subst h1; rw [if_pos rfl]
    exact (((if_neg (by decide +kernel)).trans ((if_neg (by decide +kernel)).trans (if_pos rfl))) : (if Str.ofString "turn" = Str.ofString "mark" then vm else if Str.ofString "turn" = Str.ofString "due" then vd else if Str.ofString "turn" = Str.ofString "turn" then v else _) = v).symm
  · rw [if_neg h1]
    show (if y = Str.ofString "mark" then vm else if y = Str.ofString "due" then vd else if y = Str.ofString "turn" then vt else _) = if y = Str.ofString "mark" then vm else if y = Str.ofString "due" then vd else if y = Str.ofString "turn" then v else _
    rw [if_neg h1, if_neg h1]
end
section
variable {w : World} {mean : ExcName → Option Value} {mg mb : Str → Option Value} {h₀ : Heap} {L fa SC : Addr} {cd : Value} {s : Shared} {Q : Flow → Shared → Prop} {E : Value → Shared → Prop}
  {nd b n e : Nat} {t1 tb tn te : Tok} {LD SL LLa PSa ATa SNa MD PL TW SP : Addr} {W : List (Addr × Obj)} {vk vp vq : Option Value} {vals : List Value} {ns : List Int}
theorem first_S (hB : Below callerA h₀ [] h₀) (X₀ : (K w.params).In h₀) (T : Top topProg lo mean mg mb h₀) (hL : h₀.IsList SC vals.toArray) (hI : IntsAre vals ns) (hlen : ns.length ≤ 63)
  (F : Fr h₀ L s.heap (ML nd b n e t1 tb tn te LD SL SC LLa PSa ATa SNa MD PL TW SP vk vp vq)) (N : News h₀ L s.heap W)
  (nxt : ∀ h tk (q : Int) tq, Fr h₀ L h (fun y => if y = Str.ofString "first" then some (.int q tq) else ML nd b n e t1 tb tn te LD SL SC LLa PSa ATa SNa MD PL TW SP vk vp vq y) → News h₀ L h W → 0 ≤ q ∧ q ≤ 5 → Q .next { s with heap := h, toks := tk }) :
  wpAny (model prg w) (callerA.deeper (lawEnv L fa cd)) (exec (((fbody (st 26))[15]?).getD (.Pass default)) (lawEnv L fa cd)) Q E s := by
  show wpAny _ _ (exec (.Assign [.Name _ _] (.IfExp _ _ _ _) _) _) _ _ _
  k_steps
  all_goals (rename Fr _ _ _ _ => F9; rename News _ _ _ _ => N9)
  all_goals first
    | exact nxt _ _ 1 _ F9 N9 (by omega)
    | (refine nxt _ _ _ _ F9 N9 ?_
       have h1 := Int.fmod_nonneg_of_pos (ns.getD (Int.toNat 0) 0) (by omega : (0 : Int) < 4)
       have h2 := Int.fmod_lt_of_pos (ns.getD (Int.toNat 0) 0) (by omega : (0 : Int) < 4)
       omega)
end
section
variable {w : World} {mean : ExcName → Option Value} {mg mb : Str → Option Value} {h₀ : Heap} {L fa SC : Addr} {cd : Value} {s : Shared} {Q : Flow → Shared → Prop} {E : Value → Shared → Prop}
  {nd b n e : Nat} {t1 tb tn te : Tok} {LD : Addr} {vk vp vq : Option Value} {q : Int} {tq : Tok} {g : Geo} {l : Lw} {LI : Nat → Addr} {σ : St} {en : Str} {A B : List Addr} {f f' : Addr → Obj} {X : List (Addr × Obj)} {tab : Obj} {nm : Value}
theorem seek_S (hB : Below callerA h₀ [] h₀) (X₀ : (K w.params).In h₀) (T : Top topProg lo mean mg mb h₀) (hq : 0 ≤ q ∧ q ≤ 5) (h0 : σ.at_ 0 = 0)
  (F : Fr h₀ L s.heap (fun y => if y = Str.ofString "first" then some (.int q tq) else ML nd b n e t1 tb tn te LD g.SL SC l.LL l.PS l.AT g.SN g.MD g.PL l.TW (g.X g.sp) vk vp vq y)) (N : News h₀ L s.heap (lw14 tab A f B f' X))
  (G : GeoOk g) (ht : TabOk g A f tab) (ap : Apart A B X) (W : Wd w nm g [] σ A f)
  (nxt : ∀ h tk fA, Fr h₀ L h (fun y => if y = Str.ofString "first" then some (.int q tq) else ML nd b n e t1 tb tn te LD g.SL SC l.LL l.PS l.AT g.SN g.MD g.PL l.TW (g.X g.sp) vk vp vq y) → News h₀ L h (lw14 tab A fA B f' X) → TabOk g A fA tab →
    Wd w nm g [] { σ with at_ := put σ.at_ 0 q } A fA → Q .next { s with heap := h, toks := tk }) :
  wpAny (model prg w) (callerA.deeper (lawEnv L fa cd)) (exec (((fbody (st 26))[16]?).getD (.Pass default)) (lawEnv L fa cd)) Q E s := by
  show wpAny _ _ (exec (.Expr _ _) _) _ _ _
  have hpN : 0 < g.N := by have := G.n2; omega
  obtain ⟨b4, t5, y5, v5, e5⟩ := W.sD 0 hpN
  have mX5 : (g.X 0, instObj 1047 (g.D 0)) ∈ lw14 tab A f B f' X := in14e (W.sX 0 hpN).1 (W.sX 0 hpN).2
  have mD5 : (g.D 0, sdict w.params t5 y5 v5 (g.B 0) (g.C 0) (g.hv 0)) ∈ lw14 tab A f B f' X := in14e b4 e5
  (k_with "subscriptTail" => k_dflt (
    (refine' subS_14 (k := 0) (N := g.N) (SL := g.SL) (XX := g.X) ?k1 W.sL G.n7 hpN ?_ ?k2; (case k1 => k_asm); (case k2 => with_unfolding_all rfl))))
  (k_with "call ref" => k_dflt (
    (refine' seek_14 G ?k1 ?k2 ?k3 ?k4 ht ap ?k5 ?kK W ?kp hpN hq ?kd ?ku ?_; (case kp => (rw [h0]; decide)); (case k1 => k_asm); (case k2 => k_asm); (case k3 => k_in); (case k4 => k_asm); (case k5 => k_asm); (case kK => exact rfl); (case kd => k_room); (case ku => k_units); intro h3 f3 tk3 F3 N3 ht3 W3)))
  k_steps
  exact nxt h3 tk3 f3 F3 N3 ht3 W3
theorem ats0_S (hB : Below callerA h₀ [] h₀) (X₀ : (K w.params).In h₀) (T : Top topProg lo mean mg mb h₀) (hN : 2 ≤ l.N)
  (F : Fr h₀ L s.heap (fun y => if y = Str.ofString "first" then some (.int q tq) else ML nd b n e t1 tb tn te LD g.SL SC l.LL l.PS l.AT g.SN g.MD g.PL l.TW (g.X g.sp) vk vp vq y)) (N : News h₀ L s.heap (lw14 tab A f B f' X))
  (O : Lw0 l) (ap : Apart A B X) (D : Ld0 w l LI σ en B f')
  (nxt : ∀ h tk fB, Fr h₀ L h (fun y => if y = Str.ofString "first" then some (.int q tq) else ML nd b n e t1 tb tn te LD g.SL SC l.LL l.PS l.AT g.SN g.MD g.PL l.TW (g.X g.sp) vk vp vq y) → News h₀ L h (lw14 tab A f B fB X) →
    Ld0 w l LI { σ with at_ := put σ.at_ 0 q } en B fB → Q .next { s with heap := h, toks := tk }) :
  wpAny (model prg w) (callerA.deeper (lawEnv L fa cd)) (exec (((fbody (st 26))[17]?).getD (.Pass default)) (lawEnv L fa cd)) Q E s := by
  show wpAny _ _ (exec (.Assign [.Subscript _ _ _] _ _) _) _ _ _
  have hpN : 0 < l.N := by omega
  (k_with "setItem ref int" => k_dflt (refine' setA_0 (k := 0) ap O ?k1 ?k2 D hpN ?_; (case k1 => k_asm); (case k2 => k_asm); intro h3 fB3 F3 N3 D3))
  k_steps
  exact nxt h3 _ fB3 F3 N3 D3
end
end
section
local macro_rules | `(tactic| k_room) => `(tactic| ((try simp only [depth_mark, depth_under_make, depth_under_kw, depth_in1, depth_deeper, depth_caller]); (try dsimp only [ktrTop]); (simp only [recursionLimit] at *); omega))
local macro_rules | `(tactic| k_units) => `(tactic| ((simp only [units_in1, units_deeper, Around.mark_units, units_caller, cLine_is] at *); (try dsimp only [ktrTop] at *); omega))
local macro_rules | `(tactic| k_all) => `(tactic| assumption)
theorem fill_LO : PySem.Challenge.rw_br5015_01 = PySem.Challenge.rw_br5015_01 ∧ K = K := by
  k_with_none
  k_fill
  exact ⟨rfl, rfl⟩
noncomputable def wlk (g : Geo) (σ : St) : St × Res := walk g.pl g.sp 7 σ 0 none
section
variable {w : World} {mean : ExcName → Option Value} {mg mb : Str → Option Value} {nm : Value}
  {dp un : Nat} {gd : Option (List Code)} {cn : Str} {cs : Scope} {a : Addr} {ccd : Value} {cl : List (Str × Addr)} {outer : List Env} {A₀ : Around} {base h₀ : Heap} {L : Addr} {m : Str → Option Value} {s : Shared}
  {Q E : Value → Shared → Prop} {g : Geo} {l : Lw} {LI : Nat → Addr} {pre : List (Int × Int × Int)} {σ : St} {en : Str} {A B : List Addr} {f f' : Addr → Obj} {X : List (Addr × Obj)} {tab : Obj}
theorem newsB (N : News h₀ L s.heap (lw14 tab A f B f' X)) : News h₀ L s.heap (led B f') := newsSub N fun q hq => .tail _ (List.mem_append_right _ (List.mem_append_left _ hq))
theorem newsA (N : News h₀ L s.heap (lw14 tab A f B f' X)) : News h₀ L s.heap (led A f) := newsSub N fun q hq => .tail _ (List.mem_append_left _ hq)
/-- the law's own walk over the whole ledger -/
theorem walk_14 (O : LwOk l) (hpl : l.pl = g.pl) (hsp : g.sp + 1 = l.N) {tk tp ts : Tok} (hB : Below A₀ base outer h₀) (F : Fr h₀ L s.heap m) (X₀ : (K w.params).In h₀) (N : News h₀ L s.heap (lw14 tab A f B f' X)) (ap : Apart A B X)
  (T : Top topProg lo mean mg mb h₀) (hk : cs.kind = .function) (D : Ld w l LI σ en B f') (I : Inv l.N σ) (hrows : σ.log = []) (hd : dp + 170 < recursionLimit) (hu : un + 840 < cLine)
  (ret : ∀ LI' B' fB h' tk', Fr h₀ L h' m → News h₀ L h' (lw14 tab A f B' fB X) → Apart A B' X → Ld w l LI' (wlk g σ).1 (resStr (wlk g σ).2) B' fB → Q (.bool (decide ((wlk g σ).2 = .done))) { s with heap := h', toks := tk' }) :
  wpAny (model prg w) (ktrTop dp un gd cn cs L a ccd cl outer) (call (.ref 1171) [.ref l.LL, .int 0 tk, .int (-1) tp, .ref l.PS, .ref l.TW, .ref l.DU, .ref l.AT, .int (g.sp : Int) ts]) Q E s := by
  have h7 := O.n7
  refine lwr_W (k := 0) O hsp 6 hB F X₀ (newsB N) T hk D I (by have := O.n2; omega) (by omega) (by rw [hrows]; decide) (by omega) (by omega) fun LI' B' fB h' tk' F' N' D' fr => ?_
  rw [hpl] at D' ⊢
  have old : ∀ q ∈ lw14 tab A f B f' X, q.1 ∉ B → q.1 ∉ B' ∧ h'.get? q.1 = some q.2 ∧ q.1 ≠ L ∧ h₀.get? q.1 = none := fun q hq hn => ⟨(fr q.1 q.2 hn (N q hq).1).1, (fr q.1 q.2 hn (N q hq).1).2, (N q hq).2⟩
  have mA : ∀ b, b ∈ A → (b, f b) ∈ lw14 tab A f B f' X := fun b hb => in14 hb
  have mX : ∀ q ∈ X, q ∈ lw14 tab A f B f' X := fun q hq => .tail _ (List.mem_append_right _ (List.mem_append_right _ hq))
  refine ret LI' B' fB h' tk' F' (fun q hq => ?_) ⟨ap.tA, (old _ (.head _) ap.tB).1, fun b hb => (old _ (mA b hb) (ap.ab b hb)).1, fun q hq => ⟨(ap.xs q hq).1, (ap.xs q hq).2.1, (old q (mX q hq) (ap.xs q hq).2.2).1⟩⟩ D'
  rcases List.mem_cons.mp hq with rfl | hq
  · exact (old _ (.head _) ap.tB).2
  · rcases List.mem_append.mp hq with hq | hq
    · obtain ⟨b, o⟩ := q
      obtain ⟨hb, rfl⟩ := mem_led.mp hq
      exact (old _ (mA b hb) (ap.ab b hb)).2
    · rcases List.mem_append.mp hq with hq | hq
      · exact N' q hq
      · exact (old q (mX q hq) (ap.xs q hq).2.2).2
/-- the streams' own walk over the whole ledger -/
theorem ask_14 (G : GeoOk g) (hB : Below A₀ h₀ [] h₀) (F : Fr h₀ L s.heap m) (X₀ : (K w.params).In h₀) (N : News h₀ L s.heap (lw14 tab A f B f' X)) (ht : TabOk g A f tab) (ap : Apart A B X)
  (T : Top topProg lo mean mg mb h₀) (hk : cs.kind = .function) (W : Wd w ((mg "__name__").getD .none) g pre σ A f) (I : Inv g.N σ) (hrows : (pre ++ σ.log).length + 9 ^ 7 ≤ 16000000) (hd : dp + 270 < recursionLimit) (hu : un + 1040 < cLine)
  (ret : ∀ A' fA h' tk' t, Fr h₀ L h' m → News h₀ L h' (lw14 tab A' fA B f' X) → TabOk g A' fA tab → Apart A' B X → Wd w ((mg "__name__").getD .none) g pre (wlk g σ).1 A' fA → Q (.str (resStr (wlk g σ).2) t) { s with heap := h', toks := tk' }) :
  wpAny (model prg w) (ktrTop dp un gd cn cs L a ccd cl []) (call (.ref 1178) [.ref (g.X 0), .ref g.MD]) Q E s := by
  have h7 := G.n7
  refine ask_W G 6 hB F X₀ (newsA N) T hk W I (by omega) hrows (by omega) (by omega) fun h' tk' t aft => ?_
  obtain ⟨A', fA, x, F', N', W', fr⟩ := aft
  have old : ∀ q ∈ lw14 tab A f B f' X, q.1 ∉ A → q.1 ∉ A' ∧ h'.get? q.1 = some q.2 ∧ q.1 ≠ L ∧ h₀.get? q.1 = none := fun q hq hn => ⟨(fr q.1 q.2 hn (N q hq).2.1 (N q hq).1).1, (fr q.1 q.2 hn (N q hq).2.1 (N q hq).1).2, (N q hq).2⟩
  have mB : ∀ b, b ∈ B → (b, f' b) ∈ lw14 tab A f B f' X := fun b hb => in14B hb
  have mX : ∀ q ∈ X, q ∈ lw14 tab A f B f' X := fun q hq => .tail _ (List.mem_append_right _ (List.mem_append_right _ hq))
  refine ret A' fA h' tk' t F' (fun q hq => ?_) (ht.mono fun b hb h9 => ⟨(x b hb).1, (x b hb).2 (.inr (.inr (.inr h9)))⟩) ⟨(old _ (.head _) ap.tA).1, ap.tB, fun b hb hbB => (old _ (mB b hbB) fun h => ap.ab b h hbB).1 hb, fun q hq => ⟨(ap.xs q hq).1, (old q (mX q hq) (ap.xs q hq).2.1).1, (ap.xs q hq).2.2⟩⟩ W'
  rcases List.mem_cons.mp hq with rfl | hq
  · exact (old _ (.head _) ap.tA).2
  · rcases List.mem_append.mp hq with hq | hq
    · exact N' q hq
    · rcases List.mem_append.mp hq with hq | hq
      · obtain ⟨b, o⟩ := q
        obtain ⟨hb, rfl⟩ := mem_led.mp hq
        exact (old _ (mB b hb) fun h => ap.ab b h hb).2
      · exact (old q (mX q hq) (ap.xs q hq).2.1).2
end
theorem updF_app {a : Addr} {o : Obj} {l X : List (Addr × Obj)} {g : Obj → List (Addr × Obj)} (U : UpdF a o l g) (hX : ∀ q ∈ X, q.1 ≠ a) : UpdF a o (l ++ X) (fun o' => g o' ++ X) := by
  induction U with
  | head h => exact .head fun p hp => (List.mem_append.mp hp).elim (h p) (hX p)
  | tail h _ ih => exact .tail h ih
theorem updF_pre {a : Addr} {o : Obj} {l : List (Addr × Obj)} {g : Obj → List (Addr × Obj)} (U : UpdF a o l g) : ∀ {P : List (Addr × Obj)}, (∀ q ∈ P, q.1 ≠ a) → UpdF a o (P ++ l) (fun o' => P ++ g o')
  | [], _ => U
  | p :: P, h => .tail (h p (.head _)) (updF_pre U fun q hq => h q (.tail _ hq))
section
variable {w : World} {A₁ : Around} {E : Value → Shared → Prop} {s : Shared} {h₀ : Heap} {L : Addr} {m : Str → Option Value} {l : Lw} {LI : Nat → Addr} {σ : St} {en : Str} {A B : List Addr} {f f' : Addr → Obj} {X : List (Addr × Obj)} {tab : Obj} {nm : Value} {g : Geo} {pre : List (Int × Int × Int)}
/-- twin['end'] = .. over the whole ledger -/
theorem setT_14 {t : Tok} {en' : Str} {t' : Tok} {Q : Unit → Shared → Prop} (ap : Apart A B X) (O : LwOk l) (F : Fr h₀ L s.heap m) (N : News h₀ L s.heap (lw14 tab A f B f' X)) (D : Ld w l LI σ en B f')
    (h : ∀ h' fB, Fr h₀ L h' m → News h₀ L h' (lw14 tab A f B fB X) → Ld w l LI σ en' B fB → Q () { s with heap := h', toks := s.toks + 1 }) :
    wpAny (model prg w) A₁ (setItem (.ref l.TW) (.str (Str.ofString "end") t) (.str en' t')) Q E s := by
  obtain ⟨b1, kvs, h1, h2⟩ := D.sTW
  obtain ⟨gg, U, hg⟩ := updF_led D.nod b1 rfl
  obtain ⟨k1, k2⟩ := apart_B (f := f) (tab := tab) ap b1
  have U' := updF_pre (P := (1152, tab) :: led A f) (updF_app U k2) k1
  have hzz : (3 : Nat) ≤ sizeLine := by rw [sizeLine_eq]; decide
  refine setItem_K PyProof.V.same_str (strKind_is _ _ _ _) (PyProof.V.Flat.str en' t') F N U' h1 h2 (fun h' o' F' N' hd hf => h h' (upd f' l.TW o') F' ?_ (D.settwin O (fun a ha => upd_ne ha) ⟨_, by rw [upd_self]; exact hd, hf⟩)) hzz
  rw [hg o'] at N'
  exact N'
theorem lenS_14 {Q : Value → Shared → Prop} (N : News h₀ L s.heap (lw14 tab A f B f' X)) (W : Wd w nm g pre σ A f) (hlen : (pre ++ σ.log).length ≤ 16000000) (h : ∀ t, Q (.int ((pre ++ σ.log).length : Int) t) { s with toks := s.toks + 1 + 1 }) :
    wpAny (model prg w) A₁ (call (.builtin "len") [.ref g.SN]) Q E s := by
  obtain ⟨b1, n, rs, e1, e2, _⟩ := W.sN
  have hz := (N _ (in14 (tab := tab) (B := B) (f' := f') (X := X) b1)).1
  rw [e1] at hz
  refine call_len_list (PySem.IsL.isList (n := n) hz) (by simp only [List.size_toArray, List.length_map]; omega) ?_
  have e : ((((rs.map Value.ref).toArray.size : Nat)) : Int) = ((pre ++ σ.log).length : Int) := by simp only [List.size_toArray, List.length_map, e2]
  rw [e]
  exact h _
end
end
section
local macro_rules | `(tactic| k_room) => `(tactic| ((try simp only [depth_mark, depth_under_make, depth_under_kw, depth_in1, depth_deeper, depth_caller]); (try dsimp only [ktrTop]); (simp only [recursionLimit] at *); omega))
local macro_rules | `(tactic| k_units) => `(tactic| ((simp only [units_in1, units_deeper, Around.mark_units, units_caller, cLine_is] at *); (try dsimp only [ktrTop] at *); omega))
local macro_rules | `(tactic| k_all) => `(tactic| assumption)
theorem fill_LP : PySem.Challenge.rw_br5015_01 = PySem.Challenge.rw_br5015_01 ∧ K = K := by
  k_with_none
  k_fill
  exact ⟨rfl, rfl⟩
abbrev b18 : List Stmt := forBody (((fbody (st 26))[18]?).getD (.Pass default))
section
variable {w : World} {mean : ExcName → Option Value} {mg mb : Str → Option Value} {h₀ : Heap} {L fa SC : Addr} {cd : Value} {s : Shared} {Q : Flow → Shared → Prop} {E : Value → Shared → Prop}
  {nd b n e : Nat} {t1 tb tn te : Tok} {LD : Addr} {vk vp vq vf vt vd vm : Option Value} {g : Geo} {l : Lw} {LI : Nat → Addr} {σ : St} {en : Str} {A B : List Addr} {f f' : Addr → Obj} {X : List (Addr × Obj)} {tab : Obj} {nm : Value} {pre : List (Int × Int × Int)} {x : Addr}
theorem due_S (hB : Below callerA h₀ [] h₀) (X₀ : (K w.params).In h₀) (T : Top topProg lo mean mg mb h₀)
  (F : Fr h₀ L s.heap (MT nd b n e t1 tb tn te LD g.SL SC l.LL l.PS l.AT g.SN g.MD g.PL l.TW (g.X g.sp) vk vp vq vf vt vd vm)) (N : News h₀ L s.heap (lw14 tab A f B f' X))
  (O : Lw0 l) (ap : Apart A B X) (D : Ld0 w l LI σ en B f') (hlog : σ.log = [])
  (nxt : ∀ h tk x fB, Fr h₀ L h (MT nd b n e t1 tb tn te LD g.SL SC l.LL l.PS l.AT g.SN g.MD g.PL l.TW (g.X g.sp) vk vp vq vf vt (some (.ref x)) vm) → News h₀ L h (lw14 tab A f (x :: B) fB X) → Apart A (x :: B) X → LwOk (l.due x) → Ld w (l.due x) LI σ en (x :: B) fB → Q .next { s with heap := h, toks := tk }) :
  wpAny (model prg w) (callerA.deeper (lawEnv L fa cd)) (exec ((b18[0]?).getD (.Pass default)) (lawEnv L fa cd)) Q E s := by
  show wpAny _ _ (exec (.Assign [.Name _ _] (.List _ _) _) _) _ _ _
  have hlt : Hid (∀ q ∈ lw14 tab A f B f' X, q.1 < s.heap.objs.size) := fun q hq => Heap.lt_size (N q hq).1
  generalize hW : lw14 tab A f B f' X = W at N hlt
  k_steps
  rename Fr _ _ _ _ => F8
  rename News _ _ _ _ => N8
  rename ∀ _, _ ∈ W → _ => l8
  rename Addr => x
  clear hlt
  subst hW
  have hlt := l8
  have hx : x ∉ B := fun hm => Nat.lt_irrefl _ (hlt _ (in14B hm))
  obtain ⟨O', D'⟩ := D.due O (n := 0) hx
  have e : ({ σ with log := [] } : St) = σ := by rw [← hlog]
  rw [e] at D'
  refine nxt _ _ x _ (mt_due F8) (fun q hq => ?_) ⟨ap.tA, fun hm => ?_, fun a ha hm => ?_, fun q hq => ⟨(ap.xs q hq).1, (ap.xs q hq).2.1, fun hm => ?_⟩⟩ O' D'
  · refine N8 q ?_
    unfold lw14 at hq
    rw [← led_cons hx] at hq
    simp only [lw14, List.mem_cons, List.mem_append] at hq ⊢
    rcases hq with h | h | (h | h) | h
    · exact .inr (.inl h)
    · exact .inr (.inr (.inl h))
    · exact .inl h
    · exact .inr (.inr (.inr (.inl h)))
    · exact .inr (.inr (.inr (.inr h)))
  · rcases List.mem_cons.mp hm with h | h
    · exact Nat.lt_irrefl _ (h ▸ hlt _ (.head _))
    · exact ap.tB h
  · rcases List.mem_cons.mp hm with h | h
    · exact Nat.lt_irrefl _ (h ▸ hlt _ (in14 ha))
    · exact ap.ab a ha h
  · rcases List.mem_cons.mp hm with h | h
    · exact Nat.lt_irrefl _ (h ▸ hlt _ (.tail _ (List.mem_append_right _ (List.mem_append_right _ hq))))
    · exact (ap.xs q hq).2.2 h
theorem twin0_S (hB : Below callerA h₀ [] h₀) (X₀ : (K w.params).In h₀) (T : Top topProg lo mean mg mb h₀)
  (F : Fr h₀ L s.heap (MT nd b n e t1 tb tn te LD g.SL SC l.LL l.PS l.AT g.SN g.MD g.PL l.TW (g.X g.sp) vk vp vq vf vt vd vm)) (N : News h₀ L s.heap (lw14 tab A f B f' X))
  (O : LwOk l) (ap : Apart A B X) (D : Ld w l LI σ en B f')
  (nxt : ∀ h tk fB, Fr h₀ L h (MT nd b n e t1 tb tn te LD g.SL SC l.LL l.PS l.AT g.SN g.MD g.PL l.TW (g.X g.sp) vk vp vq vf vt vd vm) → News h₀ L h (lw14 tab A f B fB X) → Ld w l LI σ (Str.ofString "") B fB → Q .next { s with heap := h, toks := tk }) :
  wpAny (model prg w) (callerA.deeper (lawEnv L fa cd)) (exec ((b18[1]?).getD (.Pass default)) (lawEnv L fa cd)) Q E s := by
  show wpAny _ _ (exec (.Assign [.Subscript _ _ _] _ _) _) _ _ _
  (k_with "setItem ref str" => k_dflt (refine' setT_14 (en' := Str.ofString "") ap O ?k1 ?k2 D ?_; (case k1 => k_asm); (case k2 => k_asm); intro h3 fB3 F3 N3 D3))
  k_steps
  exact nxt h3 _ fB3 F3 N3 D3
theorem walk_S (hB : Below callerA h₀ [] h₀) (X₀ : (K w.params).In h₀) (T : Top topProg lo mean mg mb h₀) (hsp : g.sp = nd + 1) (hNl : l.N = nd + 2) (hpl : l.pl = g.pl)
  (F : Fr h₀ L s.heap (MT nd b n e t1 tb tn te LD g.SL SC l.LL l.PS l.AT g.SN g.MD g.PL l.TW (g.X g.sp) vk vp vq vf vt (some (.ref l.DU)) vm)) (N : News h₀ L s.heap (lw14 tab A f B f' X))
  (O : LwOk l) (ap : Apart A B X) (D : Ld w l LI σ en B f') (I : Inv l.N σ) (hlog : σ.log = [])
  (nxt : ∀ h tk LI' B' fB, Fr h₀ L h (MT nd b n e t1 tb tn te LD g.SL SC l.LL l.PS l.AT g.SN g.MD g.PL l.TW (g.X g.sp) vk vp vq vf vt (some (.ref l.DU)) vm) → News h₀ L h (lw14 tab A f B' fB X) → Apart A B' X → Ld w l LI' (wlk g σ).1 (resStr (wlk g σ).2) B' fB → Q .next { s with heap := h, toks := tk }) :
  wpAny (model prg w) (callerA.deeper (lawEnv L fa cd)) (exec ((b18[2]?).getD (.Pass default)) (lawEnv L fa cd)) Q E s := by
  show wpAny _ _ (exec (.Expr _ _) _) _ _ _
  have esp : (nd : Int) + 1 = (g.sp : Int) := by rw [hsp]; rfl
  (k_with "call ref" => k_dflt (rw [esp]; (refine' walk_14 O hpl ?ks ?k1 ?k2 ?k3 ?k4 ap ?k5 ?kK D I hlog ?kd ?ku ?_; (case ks => omega); (case k1 => k_asm); (case k2 => k_asm); (case k3 => k_in); (case k4 => k_asm); (case k5 => k_asm); (case kK => exact rfl); (case kd => k_room); (case ku => k_units); intro LI3 B3 fB3 h3 tk3 F3 N3 ap3 D3)))
  k_steps
  exact nxt h3 tk3 LI3 B3 fB3 F3 N3 ap3 D3
theorem mark_S (hB : Below callerA h₀ [] h₀) (X₀ : (K w.params).In h₀) (T : Top topProg lo mean mg mb h₀)
  (F : Fr h₀ L s.heap (MT nd b n e t1 tb tn te LD g.SL SC l.LL l.PS l.AT g.SN g.MD g.PL l.TW (g.X g.sp) vk vp vq vf vt vd vm)) (N : News h₀ L s.heap (lw14 tab A f B f' X))
  (W : Wd w nm g pre σ A f) (hlen : (pre ++ σ.log).length ≤ 16000000)
  (nxt : ∀ h tk tm, Fr h₀ L h (MT nd b n e t1 tb tn te LD g.SL SC l.LL l.PS l.AT g.SN g.MD g.PL l.TW (g.X g.sp) vk vp vq vf vt vd (some (.int ((pre ++ σ.log).length : Int) tm))) → News h₀ L h (lw14 tab A f B f' X) → Q .next { s with heap := h, toks := tk }) :
  wpAny (model prg w) (callerA.deeper (lawEnv L fa cd)) (exec ((b18[3]?).getD (.Pass default)) (lawEnv L fa cd)) Q E s := by
  show wpAny _ _ (exec (.Assign [.Name _ _] (.Call _ _ _ _) _) _) _ _ _
  (k_with "call builtin:len" => k_dflt (refine' lenS_14 ?k1 W hlen ?_; (case k1 => k_asm); intro t9))
  k_steps
  rename Fr _ _ _ _ => F8
  rename News _ _ _ _ => N8
  exact nxt _ _ _ (mt_mark F8) N8
end
end
section
local macro_rules | `(tactic| k_room) => `(tactic| ((try simp only [depth_mark, depth_under_make, depth_under_kw, depth_in1, depth_deeper, depth_caller]); (try dsimp only [ktrTop]); (simp only [recursionLimit] at *); omega))
local macro_rules | `(tactic| k_units) => `(tactic| ((simp only [units_in1, units_deeper, Around.mark_units, units_caller, cLine_is] at *); (try dsimp only [ktrTop] at *); omega))
local macro_rules | `(tactic| k_all) => `(tactic| assumption)
theorem fill_LQ : PySem.Challenge.rw_br5015_01 = PySem.Challenge.rw_br5015_01 ∧ K = K := by
  k_with_none
  k_fill
  exact ⟨rfl, rfl⟩
/-! the comparison of what was seen with what was due -/
def rowD (e : Int × Int × Int) : PyData := .list [.int e.1, .int e.2.1, .int e.2.2]
theorem rowsLay : ∀ es : List (Int × Int × Int), PyData.canLayAll0 (es.map rowD) = true
  | [] => by simp [PyData.canLayAll0]
  | e :: r => by simp [PyData.canLayAll0, PyData.canLay0, rowD, rowsLay r]
theorem rowsDepth : ∀ es : List (Int × Int × Int), PyData.depthAll (es.map rowD) ≤ 2
  | [] => by simp [PyData.depthAll]
  | e :: r => by
    have := rowsDepth r
    simp only [List.map_cons, PyData.depthAll, PyData.depth, rowD]
    omega
theorem rowsShaped (es : List (Int × Int × Int)) : SeqAt.shaped (.list (es.map rowD)) = true := by
  have h1 := rowsDepth es
  have h2 : PyData.depth (.list (es.map rowD)) ≤ 64 := by simp only [PyData.depth]; omega
  show (PyData.canLay0 (.list (es.map rowD)) && decide (PyData.depth (.list (es.map rowD)) ≤ 64)) = true
  rw [Bool.and_eq_true]
  exact ⟨by simp only [PyData.canLay0]; exact rowsLay es, decide_eq_true h2⟩
theorem rowsReads {h : Heap} : ∀ {rs : List Addr} {es : List (Int × Int × Int)}, rs.length = es.length → (∀ (i : Nat) (r : Addr) (e : Int × Int × Int), rs[i]? = some r → es[i]? = some e → ∃ t1 t2 t3, h.get? r = some (rowOf e.1 e.2.1 e.2.2 t1 t2 t3)) → ∃ as, ReadsAll h (rs.map Value.ref) (es.map rowD) as
  | [], [], _, _ => ⟨[], .nil⟩
  | [], _ :: _, h, _ => by simp at h
  | _ :: _, [], h, _ => by simp at h
  | r :: rs, e :: es, hl, hr => by
    obtain ⟨t1, t2, t3, h1⟩ := hr 0 r e rfl rfl
    obtain ⟨as, h2⟩ := rowsReads (h := h) (rs := rs) (es := es) (by simpa using hl) fun i r e a b => hr (i + 1) r e (by simpa using a) (by simpa using b)
    have h3 : ReadsAll h [.int e.1 t1, .int e.2.1 t2, .int e.2.2 t3] [.int e.1, .int e.2.1, .int e.2.2] ([] ++ ([] ++ ([] ++ []))) := .cons (.int _ _) (.cons (.int _ _) (.cons (.int _ _) .nil))
    exact ⟨_, .cons (.list h1 rfl rfl h3) h2⟩
section
variable {w : World} {A₁ : Around} {E : Value → Shared → Prop} {s : Shared} {h₀ : Heap} {L : Addr} {m : Str → Option Value} {l : Lw} {LI : Nat → Addr} {σ : St} {en : Str} {A B : List Addr} {f f' : Addr → Obj} {X : List (Addr × Obj)} {tab : Obj} {nm : Value} {g : Geo} {pre : List (Int × Int × Int)}
/-- the rows of `seen` from the mark on -/
theorem pickFrom {α : Type} {l : List Value} {k : Nat} (h : k ≤ l.length) : kms_pick l (some (k : Int)) none = l.drop k := by
  unfold kms_pick
  have e1 : kms_lo (some (k : Int)) l.length = k := by
    unfold kms_lo
    dsimp only
    rw [if_neg (by omega)]
    omega
  rw [e1]
  exact List.take_of_length_le (by rw [List.length_drop]; exact Nat.le_refl _)
theorem neRows {D : Addr} {rs : List Addr} {Q : Value → Shared → Prop} (N : News h₀ L s.heap ((D, PySem.W.listOf (slicePick (rs.map Value.ref).toArray (some (pre.length : Int)) none none) 0) :: lw14 tab A f B f' X))
    (W : Wd w nm g pre σ A f) (hrs : ∃ n, f g.SN = PySem.W.listOf (rs.map Value.ref).toArray n ∧ rs.length = (pre ++ σ.log).length ∧
    ∀ (i : Nat) (r : Addr) (e : Int × Int × Int), rs[i]? = some r → (pre ++ σ.log)[i]? = some e → r ∈ A ∧ 9 ≤ (g.tag r).1 ∧ ∃ t1 t2 t3, f r = rowOf e.1 e.2.1 e.2.2 t1 t2 t3) (D₁ : Ld w l LI σ en B f') (hu : A₁.units + 64 < cLine) (h : Q (.bool false) s) :
    wpAny (model prg w) A₁ (compareOp .NotEq (.ref D) (.ref l.DU)) Q E s := by
  obtain ⟨n, h1, h2, h3⟩ := hrs
  obtain ⟨b1, n', rs', e1, e2, e3⟩ := D₁.sDU
  have N' : News h₀ L s.heap (lw14 tab A f B f' X) := fun q hq => N q (.tail _ hq)
  obtain ⟨as, ha⟩ := rowsReads (h := s.heap) (rs := rs.drop pre.length) (es := σ.log) (by rw [List.length_drop, h2, List.length_append]; omega) fun i r e hi he => by
    obtain ⟨x1, _, t1, t2, t3, x2⟩ := h3 (pre.length + i) r e (by rw [List.getElem?_drop] at hi; exact hi) (by rw [List.getElem?_append_right (by omega)]; simpa using he)
    exact ⟨t1, t2, t3, x2 ▸ (N' _ (in14 x1)).1⟩
  obtain ⟨bs, hb⟩ := rowsReads (h := s.heap) (rs := rs') (es := σ.log) e2 fun i r e hi he => by
    obtain ⟨x1, _, _, t1, t2, t3, x2⟩ := e3 i r e hi he
    exact ⟨t1, t2, t3, x2 ▸ (N' _ (in14B x1)).1⟩
  have hDU := (N' _ (in14B b1)).1
  rw [e1] at hDU
  refine ne_dataH (da := .list (σ.log.map rowD)) (db := .list (σ.log.map rowD)) (Reads.list (N _ (.head _)).1 rfl rfl (by rw [kms_pick_eq, List.toList_toArray, pickFrom (α := Nat) (by simp only [List.length_map]; rw [h2, List.length_append]; omega), ← List.map_drop]; exact ha)) (Reads.list hDU rfl rfl (by simpa using hb)) (rowsShaped _) (rowsShaped _) hu ?_
  rw [SeqAt.eqv_refl _ (SeqAt.canLay_of_shaped (rowsShaped _))]
  exact h
end
end
section
local macro_rules | `(tactic| k_room) => `(tactic| ((try simp only [depth_mark, depth_under_make, depth_under_kw, depth_in1, depth_deeper, depth_caller]); (try dsimp only [ktrTop]); (simp only [recursionLimit] at *); omega))
local macro_rules | `(tactic| k_units) => `(tactic| ((simp only [units_in1, units_deeper, Around.mark_units, units_caller, cLine_is] at *); (try dsimp only [ktrTop] at *); omega))
local macro_rules | `(tactic| k_all) => `(tactic| assumption)
theorem fill_LR : PySem.Challenge.rw_br5015_01 = PySem.Challenge.rw_br5015_01 ∧ K = K := by
  k_with_none
  k_fill
  exact ⟨rfl, rfl⟩
local macro_rules | `(tactic| walk_at "compareOp NotEq ref ref") => `(tactic| k_extra "own cmp")
theorem isL14 {h₀ h : Heap} {L : Addr} {A B : List Addr} {f f' : Addr → Obj} {X : List (Addr × Obj)} {tab : Obj} {a : Addr} {vs : List Value} {n : Nat} (N : News h₀ L h (lw14 tab A f B f' X)) (hb : a ∈ A) (e : f a = PySem.W.listOf vs.toArray n) : h.IsList a vs.toArray := by
  have hz := (N _ (in14 (tab := tab) (B := B) (f' := f') (X := X) hb)).1
  rw [e] at hz
  exact PySem.IsL.isList (n := n) hz
theorem isL14B {h₀ h : Heap} {L : Addr} {A B : List Addr} {f f' : Addr → Obj} {X : List (Addr × Obj)} {tab : Obj} {a : Addr} {vs : List Value} {n : Nat} (N : News h₀ L h (lw14 tab A f B f' X)) (hb : a ∈ B) (e : f' a = PySem.W.listOf vs.toArray n) : h.IsList a vs.toArray := by
  have hz := (N _ (in14B (tab := tab) (A := A) (f := f) (X := X) hb)).1
  rw [e] at hz
  exact PySem.IsL.isList (n := n) hz
section
variable {w : World} {mean : ExcName → Option Value} {mg mb : Str → Option Value} {h₀ : Heap} {L fa SC : Addr} {cd : Value} {s : Shared} {Q : Flow → Shared → Prop} {E : Value → Shared → Prop}
  {nd b n e : Nat} {t1 tb tn te tm : Tok} {LD : Addr} {vk vp vq vf vt vm : Option Value} {g : Geo} {l : Lw} {LI : Nat → Addr} {σ : St} {A B : List Addr} {f f' : Addr → Obj} {X : List (Addr × Obj)} {tab : Obj} {pre : List (Int × Int × Int)}
theorem ask_S (hB : Below callerA h₀ [] h₀) (X₀ : (K w.params).In h₀) (T : Top topProg lo mean mg mb h₀)
  (F : Fr h₀ L s.heap (MT nd b n e t1 tb tn te LD g.SL SC l.LL l.PS l.AT g.SN g.MD g.PL l.TW (g.X g.sp) vk vp vq vf vt (some (.ref l.DU)) (some (.int ((pre ++ σ.log).length : Int) tm)))) (N : News h₀ L s.heap (lw14 tab A f B f' X))
  (G : GeoOk g) (O : LwOk l) (ht : TabOk g A f tab) (ap : Apart A B X) (W : Wd w ((mg "__name__").getD .none) g pre σ A f) (D : Ld w l LI (wlk g σ).1 (resStr (wlk g σ).2) B f') (I : Inv g.N σ) (hlog : σ.log = []) (hrows : pre.length + 9 ^ 7 ≤ 16000000)
  (hlg : (pre ++ (wlk g σ).1.log).length ≤ 16000000)
  (nxt : ∀ h tk A' fA, Fr h₀ L h (MT nd b n e t1 tb tn te LD g.SL SC l.LL l.PS l.AT g.SN g.MD g.PL l.TW (g.X g.sp) vk vp vq vf vt (some (.ref l.DU)) (some (.int ((pre ++ σ.log).length : Int) tm))) → News h₀ L h (lw14 tab A' fA B f' X) → TabOk g A' fA tab → Apart A' B X →
    Wd w ((mg "__name__").getD .none) g pre (wlk g σ).1 A' fA → Q .next { s with heap := h, toks := tk }) :
  wpAny (model prg w) (callerA.deeper (lawEnv L fa cd)) (exec ((b18[4]?).getD (.Pass default)) (lawEnv L fa cd)) Q E s := by
  show wpAny _ _ (exec (.If _ _ _ _) _) _ _ _
  have hkN : 0 < g.N := by have := G.n2; omega
  have hrows' : (pre ++ σ.log).length + 9 ^ 7 ≤ 16000000 := by rw [hlog, List.append_nil]; exact hrows
  have hml : (pre ++ σ.log).length = pre.length := by rw [hlog, List.append_nil]
  have hpow : (9 : Nat) ^ 7 = 4782969 := by decide
  have hzz : (16000000 : Nat) ≤ sizeLine := by rw [sizeLine_eq]; decide
  rw [hml] at F nxt
  generalize hR : wlk g σ = R at D nxt hlg
  generalize hrr : resStr R.2 = rr at D
  (k_with "subscriptTail" => k_dflt (first
    | ((with_reducible show wpAny _ _ (subscriptTail _ _ (Value.ref g.SL) (Value.int _ _)) _ _ _); refine' subS_14 (k := 0) (N := g.N) (SL := g.SL) (XX := g.X) ?k1 W.sL G.n7 hkN ?_ ?k2; (case k1 => k_asm); (case k2 => with_unfolding_all rfl))
    | ((with_reducible show wpAny _ _ (subscriptTail _ _ _ (Value.str _ _)) _ _ _); refine' item_strTab (tab_W O ?k1 D) ?k2 ?_ ?k3 ?k4; (case k1 => exact newsB (by k_asm)); (case k2 => rfl); (case k3 => with_unfolding_all rfl); (case k4 => (intro _; with_unfolding_all rfl)); intro v15 hv15; obtain ⟨t15, rfl⟩ := PyProof.V.Flat.str_inv hv15; (try dsimp only))))
  (k_with "call ref" => k_dflt ((refine' ask_14 G ?k1 ?k2 ?k3 ?k4 ht ap ?k5 ?kK W I hrows' ?kd ?ku ?_; (case k1 => k_asm); (case k2 => k_asm); (case k3 => k_in); (case k4 => k_asm); (case k5 => k_asm); (case kK => exact rfl); (case kd => k_room); (case ku => k_units); intro A3 f3 h3 tk3 t3 F3 N3 ht3 ap3 W3; rw [hR] at W3 ⊢; rw [hrr]; (obtain ⟨bS5, nS5, rs5, eS5, eL5, eR5⟩ := W3.sN); (have hsz5 : (rs5.map Value.ref).toArray.size ≤ sizeLine := by simp only [List.size_toArray, List.length_map, eL5]; omega); (have hSN5 : h3.IsList g.SN (rs5.map Value.ref).toArray := isL14 N3 bS5 eS5))))
  (k_with "own cmp" => ((with_reducible rename News _ _ _ _ => N6); k_dflt (refine' neRows (rs := rs5) N6 W3 ⟨nS5, eS5, eL5, eR5⟩ D ?ku ?_; (case ku => k_units))))
  k_steps
  · rename (rr != rr) = true => hc
    exact absurd hc (by simp)
  · rename Fr _ _ _ _ => F7
    exact nxt _ _ A3 f3 F7 (fun q hq => N6 q (.tail _ hq)) ht3 ap3 W3
end
end
section
local macro_rules | `(tactic| k_room) => `(tactic| ((try simp only [depth_mark, depth_under_make, depth_under_kw, depth_in1, depth_deeper, depth_caller]); (try dsimp only [ktrTop]); (simp only [recursionLimit] at *); omega))
local macro_rules | `(tactic| k_units) => `(tactic| ((simp only [units_in1, units_deeper, Around.mark_units, units_caller, cLine_is] at *); (try dsimp only [ktrTop] at *); omega))
local macro_rules | `(tactic| k_all) => `(tactic| assumption)
theorem fill_LS : PySem.Challenge.rw_br5015_01 = PySem.Challenge.rw_br5015_01 ∧ K = K := by
  k_with_none
  k_fill
  exact ⟨rfl, rfl⟩
/-! the two comparisons of lists of ints made by comprehensions -/
def cmpL : Stmt → Expr | .If (.Compare l _ _ _) _ _ _ => l | _ => .Constant .none 0 default
def cmpR : Stmt → Expr | .If (.Compare _ _ (r :: _) _) _ _ _ => r | _ => .Constant .none 0 default
def lcElt : Expr → Expr | .ListComp e _ _ _ => e | _ => .Constant .none 0 default
def lcScope : Expr → Scope | .ListComp _ _ s _ => s | _ => default
theorem ints_are : ∀ {vs : List Value} {l : List Int}, Ints vs l → IntsAre vs l
  | [], [], _ => .nil
  | [], _ :: _, h => by have := h.1; simp at this
  | _ :: _, [], h => by have := h.1; simp at this
  | v :: vs, x :: l, h => by
    obtain ⟨t, ht⟩ := h.2 0 x rfl
    cases ht
    exact .cons x t (ints_are ⟨by simpa using h.1, fun i y hy => h.2 (i + 1) y (by simpa using hy)⟩)
theorem ints_of {ys : List Value} {n : Nat} {a : Nat → Int} (hl : ys.length = n) (h : ∀ i, i < n → ∃ y, ys[i]? = some y ∧ ∃ t, y = .int (a i) t) : IntsAre ys ((List.range n).map a) := by
  refine ints_are ⟨by simp [hl], fun i x hx => ?_⟩
  simp only [List.getElem?_map] at hx
  obtain ⟨j, hj, rfl⟩ := Option.map_eq_some_iff.mp hx
  obtain ⟨h1, h2⟩ := List.getElem?_eq_some_iff.mp hj
  simp at h1 h2
  subst h2
  obtain ⟨y, hy, t, rfl⟩ := h i h1
  exact ⟨t, hy⟩
section
variable {prog : Program} {w : World} {A : Around} {s : Shared} {h₀ : Heap} {L : Addr} {m : Str → Option Value} {env : Env} {elt : Expr} {x : Str} {scope : Scope} {cl : List (Str × Addr)} {S : List (Addr × Obj) → Prop} {P : Nat → Value → Prop} {Fin : List Value → List (Addr × Obj) → Prop} {news : List (Addr × Obj)}
theorem compRest_of {n : Nat} (ok : Nat → Value → Prop) (hS : S news)
  (helt : ∀ i v I oI C oC D m₂ h tk ys E', i < n → P i v → LCg.NsObj oC m₂ → m₂ x = some v → Fr h₀ L h m → News h₀ L h ((I, oI) :: (C, oC) :: (D, LCg.lst ys) :: news) → 
    wpAny (model prog w) A (eval elt (compEnvC scope cl C env)) (fun y s₂ => ok i y ∧ ∃ h' tk', s₂ = { s with heap := h', toks := tk' } ∧ Fr h₀ L h' m ∧ News h₀ L h' ((I, oI) :: (C, oC) :: (D, LCg.lst ys) :: news)) E' { s with heap := h, toks := tk })
  (hfin : ∀ ys, ys.length = n → (∀ i, i < n → ∃ y, ys[i]? = some y ∧ ok i y) → Fin ys news) :
  ∀ k i ys, i + k = n → ys.length = i → (∀ j, j < i → ∃ y, ys[j]? = some y ∧ ok j y) → LCg.CompRest prog w A h₀ L m env elt x scope cl s S P Fin k i ys news
  | 0, i, ys, hk, hl, hok => LCg.CompRest.zero (hfin ys (by omega) (by rw [show n = i by omega]; exact hok))
  | k + 1, i, ys, hk, hl, hok => LCg.CompRest.succ fun v I oI C oC D m₂ h tk E' hP hC hx F N off _ => by
    refine wpAny_mono (helt i v I oI C oC D m₂ h tk ys E' (by omega) hP hC hx F N) (fun y s₂ hy => ?_) fun _ _ e => e
    obtain ⟨hy, h', tk', rfl, F', N'⟩ := hy
    refine ⟨h', tk', news, rfl, F', N', off, hS, compRest_of ok hS helt hfin k (i + 1) (ys ++ [y]) (by omega) (by simp [hl]) fun j hj => ?_⟩
    by_cases h : j < i
    · obtain ⟨y', h1, h2⟩ := hok j h
      exact ⟨y', by rw [List.getElem?_append_left (by omega)]; exact h1, h2⟩
    · have : j = i := by omega
      subst this
      exact ⟨y, by rw [List.getElem?_append_right (by omega), hl]; simp, hy⟩
end
section
variable {w : World} {mean : ExcName → Option Value} {mg mb : Str → Option Value} {h₀ : Heap} {L fa : Addr} {cd : Value} {s : Shared} {m : Str → Option Value}
  {g : Geo} {l : Lw} {LI : Nat → Addr} {σ : St} {en : Str} {A B : List Addr} {f f' : Addr → Obj} {X : List (Addr × Obj)} {tab : Obj} {nm : Value} {pre : List (Int × Int × Int)}
abbrev lc6 : Expr := cmpL ((b18[5]?).getD (.Pass default))
abbrev lc7 : Expr := cmpL ((b18[6]?).getD (.Pass default))
abbrev lc8 : Expr := cmpR ((b18[6]?).getD (.Pass default))
theorem posElt (hB : Below callerA h₀ [] h₀) (X₀ : (K w.params).In h₀) (T : Top topProg lo mean mg mb h₀) (W : Wd w nm g pre σ A f) (I₁ : Inv g.N σ)
  (i : Nat) (v : Value) (I : Addr) (oI : Obj) (C : Addr) (oC : Obj) (D : Addr) (m₂ : Str → Option Value) (h : Heap) (tk : Nat) (ys : List Value) (E' : Value → Shared → Prop) (hi : i < g.N) (hv : v = .ref (g.X i)) (hC : LCg.NsObj oC m₂) (hx : m₂ (Str.ofString "stream") = some v)
  (F : Fr h₀ L h m) (N : News h₀ L h ((I, oI) :: (C, oC) :: (D, LCg.lst ys) :: lw14 tab A f B f' X)) :
  wpAny (model prg w) (callerA.deeper (lawEnv L fa cd)) (eval (lcElt lc6) (compEnvC (lcScope lc6) [] C (lawEnv L fa cd)))
    (fun y s₂ => (∃ t, y = .int (σ.at_ i) t) ∧ ∃ h' tk', s₂ = { s with heap := h', toks := tk' } ∧ Fr h₀ L h' m ∧ News h₀ L h' ((I, oI) :: (C, oC) :: (D, LCg.lst ys) :: lw14 tab A f B f' X)) E' { s with heap := h, toks := tk } := by
  subst hv
  obtain ⟨a1, t, z1, z2, e1⟩ := W.sD i hi
  obtain ⟨a2, u, z3, e2⟩ := W.sE i hi
  have up : ∀ b o, (b, o) ∈ lw14 tab A f B f' X → (b, o) ∈ (I, oI) :: (C, oC) :: (D, LCg.lst ys) :: lw14 tab A f B f' X := fun b o hb => .tail _ (.tail _ (.tail _ hb))
  have mX := up _ _ (in14e (tab := tab) (B := B) (f' := f') (X := X) (W.sX i hi).1 (W.sX i hi).2)
  have mD := up _ _ (in14e (tab := tab) (B := B) (f' := f') (X := X) a1 e1)
  have mB := up _ _ (in14e (tab := tab) (B := B) (f' := f') (X := X) (W.sB i hi).1 (W.sB i hi).2)
  have mE := up _ _ (in14e (tab := tab) (B := B) (f' := f') (X := X) a2 e2)
  have mC : (C, oC) ∈ (I, oI) :: (C, oC) :: (D, LCg.lst ys) :: lw14 tab A f B f' X := .tail _ (.head _)
  clear up
  have hp := I₁.pos i
  generalize (I, oI) :: (C, oC) :: (D, LCg.lst ys) :: lw14 tab A f B f' X = W9 at N mX mD mB mE mC ⊢
  show wpAny _ _ (eval (.Call (.Attribute _ _ _) _ _ _) _) _ _ _
  (k_with "call ref" => k_dflt (refine' pos_use ?k1 ?k2 ?k3 ?k4 ?k5 ?kK mX mD mB mE hp ?kd ?ku ?_; (case k1 => k_asm); (case k2 => k_asm); (case k3 => k_in); (case k4 => k_asm); (case k5 => k_asm); (case kK => exact rfl); (case kd => k_room); (case ku => k_units); intro h7 t7 tk7 F7 N7))
  k_steps
  all_goals first
    | exact F7
    | exact N7
end
end
section
local macro_rules | `(tactic| k_room) => `(tactic| ((try simp only [depth_mark, depth_under_make, depth_under_kw, depth_in1, depth_deeper, depth_caller]); (try dsimp only [ktrTop]); (simp only [recursionLimit] at *); omega))
local macro_rules | `(tactic| k_units) => `(tactic| ((simp only [units_in1, units_deeper, Around.mark_units, units_caller, cLine_is] at *); (try dsimp only [ktrTop] at *); omega))
local macro_rules | `(tactic| k_all) => `(tactic| assumption)
theorem fill_LT : PySem.Challenge.rw_br5015_01 = PySem.Challenge.rw_br5015_01 ∧ K = K := by
  k_with_none
  k_fill
  exact ⟨rfl, rfl⟩
local macro_rules | `(tactic| walk_at "compareOp NotEq ref ref") => `(tactic| k_extra "own cmp")
local macro_rules | `(tactic| walk_at "CompSrc") => `(tactic| k_extra "own src")
section
variable {w : World} {mean : ExcName → Option Value} {mg mb : Str → Option Value} {h₀ : Heap} {L fa : Addr} {cd : Value} {s : Shared} {m : Str → Option Value}
  {g : Geo} {l : Lw} {LI : Nat → Addr} {σ : St} {en : Str} {A B : List Addr} {f f' : Addr → Obj} {X : List (Addr × Obj)} {tab : Obj} {nm : Value} {pre : List (Int × Int × Int)}
theorem lenElt (hB : Below callerA h₀ [] h₀) (X₀ : (K w.params).In h₀) (T : Top topProg lo mean mg mb h₀) (W : Wd w nm g pre σ A f) (I₁ : Inv g.N σ)
  (i : Nat) (v : Value) (I : Addr) (oI : Obj) (C : Addr) (oC : Obj) (D : Addr) (m₂ : Str → Option Value) (h : Heap) (tk : Nat) (ys : List Value) (E' : Value → Shared → Prop) (hi : i < g.N) (hv : v = .ref (g.X i)) (hC : LCg.NsObj oC m₂) (hx : m₂ (Str.ofString "stream") = some v)
  (F : Fr h₀ L h m) (N : News h₀ L h ((I, oI) :: (C, oC) :: (D, LCg.lst ys) :: lw14 tab A f B f' X)) :
  wpAny (model prg w) (callerA.deeper (lawEnv L fa cd)) (eval (lcElt lc7) (compEnvC (lcScope lc7) [] C (lawEnv L fa cd)))
    (fun y s₂ => (∃ t, y = .int ((σ.kids i).length : Int) t) ∧ ∃ h' tk', s₂ = { s with heap := h', toks := tk' } ∧ Fr h₀ L h' m ∧ News h₀ L h' ((I, oI) :: (C, oC) :: (D, LCg.lst ys) :: lw14 tab A f B f' X)) E' { s with heap := h, toks := tk } := by
  subst hv
  obtain ⟨a1, t, z1, z2, e1⟩ := W.sD i hi
  obtain ⟨a2, nC, e2⟩ := W.sC i hi
  have hl := I₁.len i
  have up : ∀ b o, (b, o) ∈ lw14 tab A f B f' X → (b, o) ∈ (I, oI) :: (C, oC) :: (D, LCg.lst ys) :: lw14 tab A f B f' X := fun b o hb => .tail _ (.tail _ (.tail _ hb))
  have mX := up _ _ (in14e (tab := tab) (B := B) (f' := f') (X := X) (W.sX i hi).1 (W.sX i hi).2)
  have mD := up _ _ (in14e (tab := tab) (B := B) (f' := f') (X := X) a1 e1)
  have mK := up _ _ (in14e (tab := tab) (B := B) (f' := f') (X := X) a2 e2)
  have mC : (C, oC) ∈ (I, oI) :: (C, oC) :: (D, LCg.lst ys) :: lw14 tab A f B f' X := .tail _ (.head _)
  clear up
  generalize (I, oI) :: (C, oC) :: (D, LCg.lst ys) :: lw14 tab A f B f' X = W9 at N mX mD mK mC ⊢
  have hln : ∀ (s₃ : Shared) (Q : Value → Shared → Prop) (E : Value → Shared → Prop), News h₀ L s₃.heap W9 → (∀ t, Q (.int ((σ.kids i).length : Int) t) { s₃ with toks := s₃.toks + 1 + 1 }) → wpAny (model prg w) (callerA.deeper (lawEnv L fa cd)) (call (.builtin "len") [.ref (g.C i)]) Q E s₃ := fun s₃ Q E N₃ hQ => by
    refine call_len_list (PySem.IsL.isList (n := nC) (N₃ _ mK).1) (by simp only [List.size_toArray, List.length_map]; omega) ?_
    have e : ((((σ.kids i).map fun j => Value.ref (g.X j)).toArray.size : Nat) : Int) = ((σ.kids i).length : Int) := by simp
    rw [e]
    exact hQ _
  show wpAny _ _ (eval (.Call (.Name _ _) _ _ _) _) _ _ _
  (k_with "call builtin:len" => k_dflt (refine' hln _ _ _ ?k1 ?_; (case k1 => k_asm); intro t9))
  k_steps
  all_goals first
    | assumption
theorem rowsElt (hB : Below callerA h₀ [] h₀) (X₀ : (K w.params).In h₀) (T : Top topProg lo mean mg mb h₀) (D₁ : Ld w l LI σ en B f') (I₁ : Inv l.N σ)
  (i : Nat) (v : Value) (I : Addr) (oI : Obj) (C : Addr) (oC : Obj) (D : Addr) (m₂ : Str → Option Value) (h : Heap) (tk : Nat) (ys : List Value) (E' : Value → Shared → Prop) (hi : i < l.N) (hv : v = .ref (LI i)) (hC : LCg.NsObj oC m₂) (hx : m₂ (Str.ofString "rows") = some v)
  (Z : Addr × Obj) (F : Fr h₀ L h m) (N : News h₀ L h ((I, oI) :: (C, oC) :: (D, LCg.lst ys) :: Z :: lw14 tab A f B f' X)) :
  wpAny (model prg w) (callerA.deeper (lawEnv L fa cd)) (eval (lcElt lc8) (compEnvC (lcScope lc8) [] C (lawEnv L fa cd)))
    (fun y s₂ => (∃ t, y = .int ((σ.kids i).length : Int) t) ∧ ∃ h' tk', s₂ = { s with heap := h', toks := tk' } ∧ Fr h₀ L h' m ∧ News h₀ L h' ((I, oI) :: (C, oC) :: (D, LCg.lst ys) :: Z :: lw14 tab A f B f' X)) E' { s with heap := h, toks := tk } := by
  subst hv
  obtain ⟨a1, _, vs, nC, e1, hI⟩ := D₁.sLI i hi
  have hl := I₁.len i
  have hvl : vs.length = (σ.kids i).length := by rw [hI.1]; simp
  have up : ∀ b o, (b, o) ∈ lw14 tab A f B f' X → (b, o) ∈ (I, oI) :: (C, oC) :: (D, LCg.lst ys) :: Z :: lw14 tab A f B f' X := fun b o hb => .tail _ (.tail _ (.tail _ (.tail _ hb)))
  have mK : (LI i, PySem.W.listOf vs.toArray nC) ∈ (I, oI) :: (C, oC) :: (D, LCg.lst ys) :: Z :: lw14 tab A f B f' X := up _ _ (e1 ▸ in14B a1)
  have mC : (C, oC) ∈ (I, oI) :: (C, oC) :: (D, LCg.lst ys) :: Z :: lw14 tab A f B f' X := .tail _ (.head _)
  clear up
  generalize (I, oI) :: (C, oC) :: (D, LCg.lst ys) :: Z :: lw14 tab A f B f' X = W9 at N mK mC ⊢
  have hln : ∀ (s₃ : Shared) (Q : Value → Shared → Prop) (E : Value → Shared → Prop), News h₀ L s₃.heap W9 → (∀ t, Q (.int ((σ.kids i).length : Int) t) { s₃ with toks := s₃.toks + 1 + 1 }) → wpAny (model prg w) (callerA.deeper (lawEnv L fa cd)) (call (.builtin "len") [.ref (LI i)]) Q E s₃ := fun s₃ Q E N₃ hQ => by
    refine call_len_list (PySem.IsL.isList (n := nC) (N₃ _ mK).1) (by simp only [List.size_toArray]; omega) ?_
    have e : ((vs.toArray.size : Nat) : Int) = ((σ.kids i).length : Int) := by simp [hvl]
    rw [e]
    exact hQ _
  show wpAny _ _ (eval (.Call (.Name _ _) _ _ _) _) _ _ _
  (k_with "call builtin:len" => k_dflt (refine' hln _ _ _ ?k1 ?_; (case k1 => k_asm); intro t9))
  k_steps
  all_goals first
    | assumption
end
section
variable {w : World} {mean : ExcName → Option Value} {mg mb : Str → Option Value} {h₀ : Heap} {L fa SC : Addr} {cd : Value} {s : Shared} {Q : Flow → Shared → Prop} {E : Value → Shared → Prop}
  {nd b n e : Nat} {t1 tb tn te : Tok} {LD : Addr} {vk vp vq vf vt vd vm : Option Value} {g : Geo} {l : Lw} {LI : Nat → Addr} {σ : St} {en : Str} {A B : List Addr} {f f' : Addr → Obj} {X : List (Addr × Obj)} {tab : Obj} {nm : Value} {pre : List (Int × Int × Int)}
theorem pos_S (hB : Below callerA h₀ [] h₀) (X₀ : (K w.params).In h₀) (T : Top topProg lo mean mg mb h₀)
  (F : Fr h₀ L s.heap (MT nd b n e t1 tb tn te LD g.SL SC l.LL l.PS l.AT g.SN g.MD g.PL l.TW (g.X g.sp) vk vp vq vf vt vd vm)) (N : News h₀ L s.heap (lw14 tab A f B f' X))
  (G : GeoOk g) (hNN : l.N = g.N) (W : Wd w nm g pre σ A f) (D : Ld w l LI σ en B f') (I : Inv g.N σ)
  (nxt : ∀ h tk, Fr h₀ L h (MT nd b n e t1 tb tn te LD g.SL SC l.LL l.PS l.AT g.SN g.MD g.PL l.TW (g.X g.sp) vk vp vq vf vt vd vm) → News h₀ L h (lw14 tab A f B f' X) → Q .next { s with heap := h, toks := tk }) :
  wpAny (model prg w) (callerA.deeper (lawEnv L fa cd)) (exec ((b18[5]?).getD (.Pass default)) (lawEnv L fa cd)) Q E s := by
  show wpAny _ _ (exec (.If _ _ _ _) _) _ _ _
  have h7 := G.n7
  have hzz : (7 : Nat) ≤ sizeLine := by rw [sizeLine_eq]; decide
  obtain ⟨bL, nL, eL⟩ := W.sL
  obtain ⟨bA, vs, nA, eA, hA⟩ := D.sAT
  have mL : (g.SL, PySem.W.listOf ((List.range g.N).map fun j => Value.ref (g.X j)).toArray nL) ∈ lw14 tab A f B f' X := in14e bL eL
  rw [hNN] at hA
  have hiA := ints_are hA
  (k_with "own src" => k_dflt (refine' LCg.CompSrc.ledger (its := ((List.range g.N).map fun j => Value.ref (g.X j)).toArray) rfl ?k1 ?k2 mL ?k3 ?_; (case k1 => k_asm); (case k2 => k_asm); (case k3 => (simp only [List.size_toArray, List.length_map, List.length_range]; omega)); intro g9; refine' compRest_of (n := g.N) (fun i y => ∃ t, y = .int (σ.at_ i) t) ?hS ?helt ?hfin _ 0 [] ?hk rfl ?h0; (case hS => exact .inr ⟨_, mL, rfl, _, rfl⟩); (case hk => simp); (case h0 => (intro j hj; omega)); (case helt => (intro i v I9 oI C oC D9 m₂ h9 tk9 ys E' hi hP hC hx F9 N9; exact posElt hB X₀ T W I i v I9 oI C oC D9 m₂ h9 tk9 ys E' hi (by simp [hi] at hP; exact hP.symm) hC hx F9 N9)); (case' hfin => intro ys hyl hys)))
  (k_with "own cmp" => ((with_reducible rename News _ _ _ _ => N6); k_dflt (refine' ne_intsK ?h1 (ints_of hyl hys) ?h2 hiA ?h3 ?_; (case h1 => exact (News.isList N6 (.head _))); (case h2 => exact isL14B (fun q hq => N6 q (.tail _ hq)) bA eA); (case h3 => k_units))))
  k_steps
  · exact nxt _ _ (by assumption) fun q hq => N6 q (.tail _ hq)
  · rename ¬ _ = _ => hc
    exact absurd rfl hc
theorem len_S (hB : Below callerA h₀ [] h₀) (X₀ : (K w.params).In h₀) (T : Top topProg lo mean mg mb h₀)
  (F : Fr h₀ L s.heap (MT nd b n e t1 tb tn te LD g.SL SC l.LL l.PS l.AT g.SN g.MD g.PL l.TW (g.X g.sp) vk vp vq vf vt vd vm)) (N : News h₀ L s.heap (lw14 tab A f B f' X))
  (G : GeoOk g) (hNN : l.N = g.N) (W : Wd w nm g pre σ A f) (D : Ld w l LI σ en B f') (I : Inv g.N σ)
  (nxt : ∀ h tk, Fr h₀ L h (MT nd b n e t1 tb tn te LD g.SL SC l.LL l.PS l.AT g.SN g.MD g.PL l.TW (g.X g.sp) vk vp vq vf vt vd vm) → News h₀ L h (lw14 tab A f B f' X) → Q .next { s with heap := h, toks := tk }) :
  wpAny (model prg w) (callerA.deeper (lawEnv L fa cd)) (exec ((b18[6]?).getD (.Pass default)) (lawEnv L fa cd)) Q E s := by
  show wpAny _ _ (exec (.If _ _ _ _) _) _ _ _
  have h7 := G.n7
  have hzz : (7 : Nat) ≤ sizeLine := by rw [sizeLine_eq]; decide
  obtain ⟨bL, nL, eL⟩ := W.sL
  obtain ⟨bR, nR, eR⟩ := D.sLL
  have I' : Inv l.N σ := hNN ▸ I
  have mL : (g.SL, PySem.W.listOf ((List.range g.N).map fun j => Value.ref (g.X j)).toArray nL) ∈ lw14 tab A f B f' X := in14e bL eL
  rw [hNN] at eR
  have mR : (l.LL, PySem.W.listOf ((List.range g.N).map fun j => Value.ref (LI j)).toArray nR) ∈ lw14 tab A f B f' X := eR ▸ in14B bR
  (k_with "own src" => k_dflt (first
    | ((with_reducible show LCg.CompSrc _ _ _ _ _ _ _ _ _ _ _ _ (Value.ref g.SL) _); refine' LCg.CompSrc.ledger (its := ((List.range g.N).map fun j => Value.ref (g.X j)).toArray) rfl ?k1 ?k2 mL ?k3 ?_; (case k1 => k_asm); (case k2 => k_asm); (case k3 => (simp only [List.size_toArray, List.length_map, List.length_range]; omega)); intro g9; refine' compRest_of (n := g.N) (fun i y => ∃ t, y = .int ((σ.kids i).length : Int) t) ?hS ?helt ?hfin _ 0 [] ?hk rfl ?h0; (case hS => exact .inr ⟨_, mL, rfl, _, rfl⟩); (case hk => simp); (case h0 => (intro j hj; omega)); (case helt => (intro i v I9 oI C oC D9 m₂ h9 tk9 ys E' hi hP hC hx F9 N9; exact lenElt hB X₀ T W I i v I9 oI C oC D9 m₂ h9 tk9 ys E' hi (by simp [hi] at hP; exact hP.symm) hC hx F9 N9)); (case' hfin => intro ys hyl hys))
    | ((with_reducible rename News _ _ _ _ => N5); refine' LCg.CompSrc.ledger (its := ((List.range g.N).map fun j => Value.ref (LI j)).toArray) rfl ?zk1 N5 (.tail _ mR) ?zk3 ?_; (case zk1 => k_asm); (case zk3 => (simp only [List.size_toArray, List.length_map, List.length_range]; omega)); intro g9; refine' compRest_of (n := g.N) (fun i y => ∃ t, y = .int ((σ.kids i).length : Int) t) ?zhS ?zhelt ?zhfin _ 0 [] ?zhk rfl ?zh0; (case zhS => exact .inr ⟨_, .tail _ mR, rfl, _, rfl⟩); (case zhk => simp); (case zh0 => (intro j hj; omega)); (case zhelt => (intro i v I9 oI C oC D9 m₂ h9 tk9 ys E' hi hP hC hx F9 N9; exact rowsElt hB X₀ T D I' i v I9 oI C oC D9 m₂ h9 tk9 ys E' (by omega) (by simp [hi] at hP; exact hP.symm) hC hx _ F9 N9)); (case' zhfin => intro ys2 hyl2 hys2))))
  (k_with "own cmp" => ((with_reducible rename News _ _ _ _ => N6); k_dflt (refine' ne_intsK ?h1 (ints_of hyl hys) ?h2 (ints_of hyl2 hys2) ?h3 ?_; (case h1 => exact (News.isList N6 (.tail _ (.head _)))); (case h2 => exact (News.isList N6 (.head _))); (case h3 => k_units))))
  k_steps
  · exact nxt _ _ (by assumption) fun q hq => N6 q (.tail _ (.tail _ hq))
  · rename ¬ _ = _ => hc
    exact absurd rfl hc
end
end
section
local macro_rules | `(tactic| k_room) => `(tactic| ((try simp only [depth_mark, depth_under_make, depth_under_kw, depth_in1, depth_deeper, depth_caller]); (try dsimp only [ktrTop]); (simp only [recursionLimit] at *); omega))
local macro_rules | `(tactic| k_units) => `(tactic| ((simp only [units_in1, units_deeper, Around.mark_units, units_caller, cLine_is] at *); (try dsimp only [ktrTop] at *); omega))
local macro_rules | `(tactic| k_all) => `(tactic| assumption)
theorem fill_LU : PySem.Challenge.rw_br5015_01 = PySem.Challenge.rw_br5015_01 ∧ K = K := by
  k_with_none
  k_fill
  exact ⟨rfl, rfl⟩
noncomputable def Hist (g : Geo) : Nat → St → Str → Prop
  | 0, _, _ => True
  | i + 1, σ, en => ∃ c en', Inv g.N c ∧ Hist g i c en' ∧ Eqv σ (wlk g c).1 ∧ en = resStr (wlk g c).2
theorem hist_end {g : Geo} (G : GeoOk g) {σ : St} {en : Str} (h : Hist g 3 σ en) : σ.kids 0 = [] ∨ en = S "no handler" := by
  obtain ⟨c, en₁, I₁, ⟨b, en₂, I₂, ⟨a, en₃, I₃, _, e₃, _⟩, e₂, _⟩, e₁, rfl⟩ := h
  have hsp : g.sp + 1 = g.N := by have := G.n2; unfold Geo.sp; omega
  rcases third_walk (n := 6) G.pl5 hsp (fun σ h => walk_bomb h) I₃ I₂ (by have := G.n2; omega) e₃ e₂ with ⟨_, h⟩ | h
  · exact .inl (e₁.1 ▸ h)
  · right
    show resStr (walk g.pl g.sp 7 c 0 none).2 = _
    rw [h]
    rfl
structure J18 (w : World) (nm : Value) (g : Geo) (l : Lw) (i : Nat) (pre : List (Int × Int × Int)) (LI : Nat → Addr) (σ : St) (en : Str) (tab : Obj) (A : List Addr) (f : Addr → Obj) (B : List Addr) (f' : Addr → Obj) (X : List (Addr × Obj)) : Prop where
  ht : TabOk g A f tab
  ap : Apart A B X
  W : Wd w nm g pre σ A f
  O : Lw0 l
  D : Ld0 w l LI σ en B f'
  I : Inv g.N σ
  log : σ.log = []
  len : pre.length ≤ i * 9 ^ 7
  hist : Hist g i σ en
theorem Wd.turn {w : World} {nm : Value} {g : Geo} {pre : List (Int × Int × Int)} {σ : St} {A : List Addr} {f : Addr → Obj} (W : Wd w nm g pre σ A f) : Wd w nm g (pre ++ σ.log) { σ with log := [] } A f :=
  ⟨W.nod, W.sX, W.sD, W.sB, W.sE, W.sC, W.sL, by
    show g.SN ∈ A ∧ ∃ (n : Nat) (rs : List Addr), f g.SN = PySem.W.listOf (rs.map Value.ref).toArray n ∧ rs.length = (pre ++ σ.log ++ []).length ∧
      ∀ (i : Nat) (r : Addr) (e : Int × Int × Int), rs[i]? = some r → (pre ++ σ.log ++ [])[i]? = some e → r ∈ A ∧ 9 ≤ (g.tag r).1 ∧ ∃ t1 t2 t3, f r = rowOf e.1 e.2.1 e.2.2 t1 t2 t3
    rw [List.append_nil]; exact W.sN, W.sP, W.sM, W.han⟩
theorem Ld0.turn {w : World} {l : Lw} {LI : Nat → Addr} {σ : St} {en : Str} {B : List Addr} {f : Addr → Obj} (D : Ld0 w l LI σ en B f) : Ld0 w l LI { σ with log := [] } en B f := ⟨D.nod, D.sLL, D.sLI, D.inj, D.sAT, D.sPS, D.sTW⟩
section
variable {w : World} {mean : ExcName → Option Value} {mg mb : Str → Option Value} {h₀ : Heap} {L fa SC : Addr} {cd : Value} {s : Shared} {Q : Flow → Shared → Prop} {E : Value → Shared → Prop}
  {nd b n e : Nat} {t1 tb tn te : Tok} {LD : Addr} {vk vp vq vf vt vd vm : Option Value} {g : Geo} {l : Lw}
abbrev P18 (w : World) (nm : Value) (g : Geo) (l : Lw) (nd b n e : Nat) (t1 tb tn te : Tok) (LD SC : Addr) (vk vp vq vf : Option Value) (i : Nat) (mi : Str → Option Value) (news : List (Addr × Obj)) : Prop :=
  ∃ vt vd vm x pre LI σ en tab A f B f', mi = MT nd b n e t1 tb tn te LD g.SL SC l.LL l.PS l.AT g.SN g.MD g.PL l.TW (g.X g.sp) vk vp vq vf vt vd vm ∧ news = lw14 tab A f B f' [] ∧ J18 w nm g (l.due x) i pre LI σ en tab A f B f' []
theorem turn_18 (hB : Below callerA h₀ [] h₀) (X₀ : (K w.params).In h₀) (T : Top topProg lo mean mg mb h₀) (G : GeoOk g) (hN : g.N = nd + 2) (hNl : l.N = nd + 2) (hpl : l.pl = g.pl)
  (i : Nat) (mi : Str → Option Value) (news : List (Addr × Obj)) (h : Heap) (tk : Nat) (it : Addr) (oI : Obj) (tv : Tok) (hi : i < 3) (J : P18 w ((mg "__name__").getD .none) g l nd b n e t1 tb tn te LD SC vk vp vq vf i mi news)
  (F : Fr h₀ L h (fun y => if y = Str.ofString "turn" then some (.int (0 + (i : Int)) tv) else mi y)) (N : News h₀ L h ((it, oI) :: news)) (off : ∀ q ∈ news, q.1 ≠ it) :
  wpAny (model prg w) (callerA.deeper (lawEnv L fa cd)) (execs b18 (lawEnv L fa cd)) (fun fl s₂ => fl = .next ∧ ∃ h2 tk2 m2 news2, s₂ = { s with heap := h2, toks := tk2 } ∧ Fr h₀ L h2 m2 ∧ News h₀ L h2 ((it, oI) :: news2) ∧ (∀ q ∈ news2, q.1 ≠ it) ∧ P18 w ((mg "__name__").getD .none) g l nd b n e t1 tb tn te LD SC vk vp vq vf (i + 1) m2 news2) (fun _ _ => False) { s with heap := h, toks := tk } := by
  obtain ⟨vt, vd, vm, x, pre, LI, σ, en, tab, A, f, B, f', rfl, rfl, J⟩ := J
  replace F := mt_turn F
  have off' : ∀ q ∈ lw14 tab A f B f' [], q.1 ≠ it := off
  have ap' : Apart A B [(it, oI)] := ⟨J.ap.tA, J.ap.tB, J.ap.ab, fun q hq => by
    rw [List.mem_singleton.mp hq]
    exact ⟨fun z => off' _ (.head _) z.symm, fun z => off' _ (in14 z) rfl, fun z => off' _ (in14B z) rfl⟩⟩
  have N1 : News h₀ L h (lw14 tab A f B f' [(it, oI)]) := newsSub N fun q hq => by
    simp only [lw14, List.mem_cons, List.mem_append, List.not_mem_nil, or_false] at hq ⊢
    rcases hq with h | h | h | h
    · exact .inr (.inl h)
    · exact .inr (.inr (.inl h))
    · exact .inr (.inr (.inr h))
    · exact .inl h
  clear off off' N
  have hsp : g.sp = nd + 1 := by unfold Geo.sp; omega
  have hsp' : g.sp + 1 = g.N := by omega
  have hNN : l.N = g.N := by omega
  have hIw : Inv g.N (wlk g σ).1 := walk_inv G.pl5 hsp' 7 σ 0 none J.I (by omega) (by intro p e; cases e)
  obtain ⟨lg, hlg1, hlg2⟩ := walk_log (pl := g.pl) (sp := g.sp) 7 σ 0 none
  have hlg : (wlk g σ).1.log.length ≤ 9 ^ 7 := by show (walk g.pl g.sp 7 σ 0 none).1.log.length ≤ _; rw [hlg1, J.log, List.nil_append]; exact hlg2
  have hlen := J.len
  have hpow : (9 : Nat) ^ 7 = 4782969 := by decide
  rw [hpow] at hlg hlen
  have hi2 : i * 4782969 ≤ 2 * 4782969 := Nat.mul_le_mul_right _ (by omega)
  have Il : Inv l.N σ := hNN ▸ J.I
  show wpAny _ _ (execs [(b18[0]?).getD (.Pass default), (b18[1]?).getD (.Pass default), (b18[2]?).getD (.Pass default), (b18[3]?).getD (.Pass default), (b18[4]?).getD (.Pass default), (b18[5]?).getD (.Pass default), (b18[6]?).getD (.Pass default)] _) _ _ _
  refine wpAny_execs_cons (due_S (l := l.due x) hB X₀ T F N1 J.O ap' J.D J.log fun h1 tk1 x1 fB1 F1 N1 ap1 O1 D1 => ?_)
  refine wpAny_execs_cons (twin0_S (s := { s with heap := h1, toks := tk1 }) (l := l.due x1) hB X₀ T F1 N1 O1 ap1 D1 fun h2 tk2 fB2 F2 N2 D2 => ?_)
  refine wpAny_execs_cons (walk_S (s := { s with heap := h2, toks := tk2 }) (l := l.due x1) hB X₀ T hsp hNl hpl F2 N2 O1 ap1 D2 Il J.log fun h3 tk3 LI3 B3 fB3 F3 N3 ap3 D3 => ?_)
  refine wpAny_execs_cons (mark_S (s := { s with heap := h3, toks := tk3 }) (l := l.due x1) hB X₀ T F3 N3 J.W (by rw [J.log, List.append_nil]; omega) fun h4 tk4 tm F4 N4 => ?_)
  refine wpAny_execs_cons (ask_S (s := { s with heap := h4, toks := tk4 }) (l := l.due x1) hB X₀ T F4 N4 G O1 J.ht ap3 J.W D3 J.I J.log (by rw [hpow]; omega) (by rw [List.length_append]; omega) fun h5 tk5 A5 fA5 F5 N5 ht5 ap5 W5 => ?_)
  refine wpAny_execs_cons (pos_S (s := { s with heap := h5, toks := tk5 }) (l := l.due x1) hB X₀ T F5 N5 G hNN W5 D3 hIw fun h6 tk6 F6 N6 => ?_)
  refine wpAny_execs_cons (len_S (s := { s with heap := h6, toks := tk6 }) (l := l.due x1) hB X₀ T F6 N6 G hNN W5 D3 hIw fun h7 tk7 F7 N7 => ?_)
  refine wpAny_execs_nil ⟨rfl, h7, tk7, _, lw14 tab A5 fA5 B3 fB3 [], rfl, F7, newsSub N7 fun q hq => ?_, fun q hq z => ?_,
    ⟨_, _, _, x1, pre ++ (wlk g σ).1.log, LI3, { (wlk g σ).1 with log := [] }, resStr (wlk g σ).2, tab, A5, fA5, B3, fB3, rfl, rfl, ht5, ⟨ap5.tA, ap5.tB, ap5.ab, fun q hq => (by cases hq)⟩, W5.turn, O1.off, D3.off.turn, ⟨hIw.up, hIw.few, hIw.pos⟩, rfl, ?_, ⟨σ, en, J.I, J.hist, ⟨rfl, rfl, rfl⟩, rfl⟩⟩⟩
  · simp only [lw14, List.mem_cons, List.mem_append, List.not_mem_nil, or_false] at hq ⊢
    rcases hq with h | h | h | h
    · exact .inr (.inr (.inr h))
    · exact .inl h
    · exact .inr (.inl h)
    · exact .inr (.inr (.inl h))
  · obtain ⟨x1, x2, x3⟩ := ap5.xs (it, oI) (.head _)
    rcases List.mem_cons.mp hq with h | h
    · rw [h] at z; exact x1 z.symm
    · obtain ⟨a, o⟩ := q
      have z : a = it := z
      rw [List.append_nil] at h
      rcases List.mem_append.mp h with h | h
      · exact x2 (z ▸ (mem_led.mp h).1)
      · exact x3 (z ▸ (mem_led.mp h).1)
  · rw [List.length_append, hpow, Nat.succ_mul]
    omega
theorem range18 : Builtin.Range.small 0 3 1 = true ∧ Builtin.Range.rangeSize 0 3 1 = ((3 : Nat) : Int) := by decide +kernel
theorem for_18 (hB : Below callerA h₀ [] h₀) (X₀ : (K w.params).In h₀) (T : Top topProg lo mean mg mb h₀) (G : GeoOk g) (hN : g.N = nd + 2) (hNl : l.N = nd + 2) (hpl : l.pl = g.pl)
  {LI : Nat → Addr} {σ : St} {en : Str} {tab : Obj} {A : List Addr} {f : Addr → Obj} {B : List Addr} {f' : Addr → Obj}
  (F : Fr h₀ L s.heap (fun y => if y = Str.ofString "first" then vf else ML nd b n e t1 tb tn te LD g.SL SC l.LL l.PS l.AT g.SN g.MD g.PL l.TW (g.X g.sp) vk vp vq y)) (N : News h₀ L s.heap (lw14 tab A f B f' [])) (J : J18 w ((mg "__name__").getD .none) g l 0 [] LI σ en tab A f B f' [])
  (nxt : ∀ h tk vt vd vm x pre LI σ en tab A f B f', Fr h₀ L h (MT nd b n e t1 tb tn te LD g.SL SC l.LL l.PS l.AT g.SN g.MD g.PL l.TW (g.X g.sp) vk vp vq vf vt vd vm) → News h₀ L h (lw14 tab A f B f' []) → J18 w ((mg "__name__").getD .none) g (l.due x) 3 pre LI σ en tab A f B f' [] → Q .next { s with heap := h, toks := tk }) :
  wpAny (model prg w) (callerA.deeper (lawEnv L fa cd)) (exec (((fbody (st 26))[18]?).getD (.Pass default)) (lawEnv L fa cd)) Q E s := by
  show wpAny _ _ (exec (.For (.Name _ _) _ _ [] _) _) _ _ _
  have hMT : ∀ y, MT nd b n e t1 tb tn te LD g.SL SC l.LL l.PS l.AT g.SN g.MD g.PL l.TW (g.X g.sp) vk vp vq vf (ML nd b n e t1 tb tn te LD g.SL SC l.LL l.PS l.AT g.SN g.MD g.PL l.TW (g.X g.sp) vk vp vq (Str.ofString "turn")) (ML nd b n e t1 tb tn te LD g.SL SC l.LL l.PS l.AT g.SN g.MD g.PL l.TW (g.X g.sp) vk vp vq (Str.ofString "due")) (ML nd b n e t1 tb tn te LD g.SL SC l.LL l.PS l.AT g.SN g.MD g.PL l.TW (g.X g.sp) vk vp vq (Str.ofString "mark")) y = (if y = Str.ofString "first" then vf else ML nd b n e t1 tb tn te LD g.SL SC l.LL l.PS l.AT g.SN g.MD g.PL l.TW (g.X g.sp) vk vp vq y) := by
    intro y
    by_cases h1 : y = Str.ofString "mark"
    · subst h1; exact (if_pos rfl).trans (if_neg (by decide +kernel)).symm
    · refine (if_neg h1).trans ?_
      by_cases h2 : y = Str.ofString "due"
      · subst h2; exact (if_pos rfl).trans (if_neg (by decide +kernel)).symm
      · refine (if_neg h2).trans ?_
        by_cases h3 : y = Str.ofString "turn"
        · subst h3; exact (if_pos rfl).trans (if_neg (by decide +kernel)).symm
        · exact if_neg h3
  refine wpAny_For ?_
  (k_with "pyIter ref" => ((with_reducible rename Fr _ _ _ _ => F8); (with_reducible rename News _ _ _ _ => N8); (with_reducible rename IsRange _ _ _ _ _ _ _ _ => R8); k_dflt (refine' forR_W (n := 3) (P18 w ((mg "__name__").getD .none) g l nd b n e t1 tb tn te LD SC vk vp vq vf) rfl ?kx rfl rfl F8 ?kN R8 range18.1 range18.2 ?kP ?kbody ?kdone; (case kx => rfl); (case kP => exact ⟨_, _, _, l.DU, [], LI, σ, en, tab, A, f, B, f', (funext hMT).symm, rfl, J⟩); (case kN => exact N8); (case kbody => exact turn_18 (s := _) hB X₀ T G hN hNl hpl); (case kdone => (intro h9 tk9 mi9 news9 hP9 F9 N9; obtain ⟨vt, vd, vm, x9, pre9, LI9, σ9, en9, tab9, A9, f9, B9, f9', rfl, rfl, J9⟩ := hP9; exact nxt h9 tk9 vt vd vm x9 pre9 LI9 σ9 en9 tab9 A9 f9 B9 f9' F9 N9 J9)))))
  k_steps
end
end
section
local macro_rules | `(tactic| k_room) => `(tactic| ((try simp only [depth_mark, depth_under_make, depth_under_kw, depth_in1, depth_deeper, depth_caller]); (try dsimp only [ktrTop]); (simp only [recursionLimit] at *); omega))
local macro_rules | `(tactic| k_units) => `(tactic| ((simp only [units_in1, units_deeper, Around.mark_units, units_caller, cLine_is] at *); (try dsimp only [ktrTop] at *); omega))
local macro_rules | `(tactic| k_all) => `(tactic| assumption)
theorem fill_LV : PySem.Challenge.rw_br5015_01 = PySem.Challenge.rw_br5015_01 ∧ K = K := by
  k_with_none
  k_fill
  exact ⟨rfl, rfl⟩
local macro_rules | `(tactic| walk_at "compareOp Eq ref ref") => `(tactic| k_extra "own cmp")
section
variable {w : World} {mean : ExcName → Option Value} {mg mb : Str → Option Value} {h₀ : Heap} {L fa SC : Addr} {cd : Value} {s : Shared} {Q : Flow → Shared → Prop} {E : Value → Shared → Prop}
  {nd b n e : Nat} {t1 tb tn te : Tok} {LD : Addr} {vk vp vq vf vt vd vm : Option Value} {g : Geo} {l : Lw} {LI : Nat → Addr} {σ : St} {en : Str} {tab : Obj} {A : List Addr} {f : Addr → Obj} {B : List Addr} {f' : Addr → Obj} {X : List (Addr × Obj)}
theorem tab_0 (O : Lw0 l) (N : News h₀ L s.heap (lw14 tab A f B f' X)) (D : Ld0 w l LI σ en B f') : TabAt (strKind prg w) PyData.str s.heap l.TW [(.str (Str.ofString "bomb"), .int σ.bomb), (.str (Str.ofString "more"), .int σ.more), (.str (Str.ofString "end"), .str en)] := by
  obtain ⟨b1, kvs, h1, h2⟩ := D.sTW
  exact ⟨O.sys, kvs, Heap.dictOf_iff.mpr ⟨_, (N _ (in14B b1)).1, h1⟩, h2⟩
theorem last_S (hB : Below callerA h₀ [] h₀) (X₀ : (K w.params).In h₀) (T : Top topProg lo mean mg mb h₀) (hend : σ.kids 0 = [] ∨ en = S "no handler")
  (F : Fr h₀ L s.heap (MT nd b n e t1 tb tn te LD g.SL SC l.LL l.PS l.AT g.SN g.MD g.PL l.TW (g.X g.sp) vk vp vq vf vt vd vm)) (N : News h₀ L s.heap (lw14 tab A f B f' X)) (O : Lw0 l) (D : Ld0 w l LI σ en B f')
  (nxt : ∀ h tk, (∃ m', Fr h₀ L h m') → News h₀ L h (lw14 tab A f B f' X) → Q (.ret (.bool true)) { s with heap := h, toks := tk }) :
  wpAny (model prg w) (callerA.deeper (lawEnv L fa cd)) (exec (((fbody (st 26))[19]?).getD (.Pass default)) (lawEnv L fa cd)) Q E s := by
  show wpAny _ _ (exec (.Return _ _) _) _ _ _
  have hkl : 0 < l.N := by have := O.n2; omega
  obtain ⟨bI, _, vs, nI, eI, hI⟩ := D.sLI 0 hkl
  have hiI := ints_are hI
  (k_with "subscriptTail" => k_dflt (first
    | ((with_reducible show wpAny _ _ (subscriptTail _ _ _ (Value.str _ _)) _ _ _); refine' item_strTab (tab_0 O ?k1 D) ?k2 ?_ ?k3 ?k4; (case k1 => exact N6); (case k2 => rfl); (case k3 => with_unfolding_all rfl); (case k4 => (intro _; with_unfolding_all rfl)); intro v15 hv15; obtain ⟨t15, rfl⟩ := PyProof.V.Flat.str_inv hv15; (try dsimp only))
    | (refine' subL_0 (k := 0) O ?k1 D hkl ?_ ?k2; (case k1 => k_asm); (case k2 => with_unfolding_all rfl))))
  (k_with "own cmp" => ((with_reducible rename News _ _ _ _ => N5); k_dflt (refine' eq_intsK (ns := (σ.kids 0).map fun (j : Nat) => (j : Int)) (us := []) (ms := []) ?h1 hiI ?h2 .nil ?h3 ?_; (case h1 => exact isL14B (fun q hq => N5 q (.tail _ hq)) bI eI); (case h2 => exact News.isList N5 (.head _)); (case h3 => k_units)); (have N6 := newsSub N5 fun q hq => List.mem_cons_of_mem _ hq)))
  k_steps
  · rename decide _ = true => hc
    rw [hc]
    exact nxt _ _ ⟨_, by assumption⟩ N6
  · rename decide _ = false => hc
    have he : en = S "no handler" := hend.resolve_left fun h => by
      rw [h] at hc
      exact absurd hc (by decide)
    have hq : (en == Str.ofString "no handler") = true := by rw [he]; exact beq_self_eq_true _
    rw [hq]
    exact nxt _ _ ⟨_, by assumption⟩ N6
end
end
section
local macro_rules | `(tactic| k_room) => `(tactic| ((try simp only [depth_mark, depth_under_make, depth_under_kw, depth_in1, depth_deeper, depth_caller]); (try dsimp only [ktrTop]); (simp only [recursionLimit] at *); omega))
local macro_rules | `(tactic| k_units) => `(tactic| ((simp only [units_in1, units_deeper, Around.mark_units, units_caller, cLine_is] at *); (try dsimp only [ktrTop] at *); omega))
local macro_rules | `(tactic| k_all) => `(tactic| assumption)
theorem fill_LW : PySem.Challenge.rw_br5015_01 = PySem.Challenge.rw_br5015_01 ∧ K = K := by
  k_with_none
  k_fill
  exact ⟨rfl, rfl⟩
/-! the world in which statement 14 begins -/
def R0 : Rec8 := ⟨0, 0, 0, 0, 0, 0, 0, 0, #[], fun _ => 0, fun _ => 0, 0, 0, 0, 0⟩
def rk (rs : List Rec8) (k : Nat) : Rec8 := rs.reverse[k]?.getD R0
def ak (as : List Addr) (k : Nat) : Addr := as.reverse[k]?.getD 0
theorem rk_at {rs : List Rec8} {k : Nat} (hk : k < rs.length) : rs[rs.length - 1 - k]? = some (rk rs k) := by
  unfold rk
  rw [List.getElem?_reverse hk]
  have h : rs.length - 1 - k < rs.length := by omega
  rw [List.getElem?_eq_getElem h]
  rfl
theorem ak_at {as : List Addr} {k : Nat} (hk : k < as.length) : as[as.length - 1 - k]? = some (ak as k) := by
  unfold ak
  rw [List.getElem?_reverse hk]
  have h : as.length - 1 - k < as.length := by omega
  rw [List.getElem?_eq_getElem h]
  rfl
theorem str_base {P : Params} {base : List (Addr × Obj)} {p : Addr × Obj} (h : p ∈ base) : ∀ rs : List Rec8, p ∈ strLed P base rs
  | [] => h
  | _ :: rs => .tail _ (.tail _ (.tail _ (.tail _ (.tail _ (.tail _ (.tail _ (.tail _ (str_base h rs))))))))
theorem rec_mem {P : Params} {base : List (Addr × Obj)} {q : Addr × Obj} : ∀ {rs : List Rec8} {r : Rec8}, r ∈ rs → q ∈ r.led P [] → q ∈ strLed P base rs
  | r :: rs, _, .head _, hq => by
    show q ∈ r.led P (strLed P base rs)
    simp only [Rec8.led, fbLed, List.mem_cons, List.not_mem_nil, or_false] at hq ⊢
    rcases hq with h | h | h | h | h | h | h | h <;> simp [h]
  | _ :: rs, _, .tail _ h, hq => .tail _ (.tail _ (.tail _ (.tail _ (.tail _ (.tail _ (.tail _ (.tail _ (rec_mem h hq))))))))
theorem str_gt {P : Params} {base : List (Addr × Obj)} {p : Addr × Obj} (hb : p ∈ base) : ∀ {rs : List Rec8} {r : Rec8}, StrOrd P base rs → r ∈ rs → ∀ c, p.1 < slot r c
  | _ :: rs, _, o, .head _, c => Nat.lt_of_lt_of_le (o.1.a8 p (str_base hb rs)) (slot_ge o.1 c)
  | _ :: _, _, o, .tail _ h, c => str_gt hb o.2 h c
theorem slot_led {P : Params} {r : Rec8} (c : Nat) : ∃ o, (slot r c, o) ∈ r.led P [] := by
  match c with
  | 0 => exact ⟨_, .tail _ (.tail _ (.tail _ (.head _)))⟩
  | 1 => exact ⟨_, .tail _ (.tail _ (.tail _ (.tail _ (.head _))))⟩
  | 2 => exact ⟨_, .tail _ (.tail _ (.tail _ (.tail _ (.tail _ (.tail _ (.head _))))))⟩
  | 3 => exact ⟨_, .tail _ (.tail _ (.tail _ (.tail _ (.tail _ (.tail _ (.tail _ (.head _)))))))⟩
  | _ + 4 => exact ⟨_, .tail _ (.tail _ (.head _))⟩
theorem off1_mem {D : Addr} : ∀ {l : List (Addr × Obj)}, LCg.Off1 D l → ∀ q ∈ l, q.1 ≠ D
  | [], _, _, h => nomatch h
  | _ :: _, x, p, h => by
    rcases List.mem_cons.mp h with rfl | h
    · exact x.1
    · exact off1_mem x.2 p h
noncomputable def dd : List Addr → List Addr
  | [] => []
  | a :: l => if a ∈ l then dd l else a :: dd l
theorem mem_dd {a : Addr} : ∀ {l : List Addr}, a ∈ dd l ↔ a ∈ l
  | [] => Iff.rfl
  | b :: l => by
    unfold dd
    by_cases h : b ∈ l
    · rw [if_pos h, mem_dd (l := l), List.mem_cons]
      exact ⟨.inr, fun z => z.elim (fun e => e ▸ h) id⟩
    · rw [if_neg h, List.mem_cons, List.mem_cons, mem_dd (l := l)]
theorem dd_nodup : ∀ l : List Addr, (dd l).Nodup
  | [] => List.nodup_nil
  | b :: l => by
    unfold dd
    by_cases h : b ∈ l
    · rw [if_pos h]; exact dd_nodup l
    · rw [if_neg h]
      exact List.nodup_cons.mpr ⟨fun z => h (mem_dd.mp z), dd_nodup l⟩
theorem sp_slot {rs : List Rec8} {SL SN PL MD : Addr} {c k : Nat} (hc : c < 5) : spOf (fun k => (rk rs k).X) (fun k => (rk rs k).D) (fun k => (rk rs k).B) (fun k => (rk rs k).BD) (fun k => (rk rs k).C) SL SN PL MD (c, k) = slot (rk rs k) c := by
  match c, hc with
  | 0, _ => rfl
  | 1, _ => rfl
  | 2, _ => rfl
  | 3, _ => rfl
  | 4, _ => rfl
abbrev g14 (nd : Nat) (rs : List Rec8) (SL SN PL MD : Addr) : Geo := geoOf (nd + 2) (fun k => (rk rs k).X) (fun k => (rk rs k).D) (fun k => (rk rs k).B) (fun k => (rk rs k).BD) (fun k => (rk rs k).C) (fun k => (rk rs k).Y) (fun _ => 0) SL SN PL MD (fun _ => none)
abbrev l14 (nd : Nat) (LL AT PS TW SL : Addr) : Lw := ⟨nd + 2, LL, AT, PS, TW, SL, fun _ => none⟩
abbrev s14 (b e : Nat) : St := { kids := fun _ => [], at_ := fun _ => 0, bomb := (b : Int), more := (e : Int), log := [] }
theorem init_14 {w : World} {nm : Value} {h₀ h : Heap} {L : Addr} {nd b e : Nat} {rs : List Rec8} {as : List Addr} {SL LL PS AT SN MD PL TW : Addr} {oM oP oT : Obj} {vM : Array Value} {tz tb te : Tok} (hnd : nd ≤ 5)
  (hrl : rs.length = nd + 2) (hro : StrOrd w.params [(1152, tabObj #[])] rs) (u1 : LCg.Off1 SL (strLed w.params [(1152, tabObj #[])] rs)) (hal : as.length = nd + 2) {S1 R3 R4 R5 R6 R7 R8 R9 : List (Addr × Obj)}
  (e1 : S1 = (SL, LCg.lst (rs.reverse.map fun r => Value.ref r.X)) :: strLed w.params [(1152, tabObj #[])] rs) (hao : LsOrd S1 as) (u2 : LCg.Off1 LL (lsLed S1 as)) (e3 : R3 = (LL, LCg.lst (as.reverse.map Value.ref)) :: lsLed S1 as) (u3 : ∀ q ∈ R3, q.1 < PS)
  (e4 : R4 = (PS, PySem.W.listOf (List.replicate (nd + 2) Value.none).toArray 0) :: R3) (u4 : ∀ q ∈ R4, q.1 < AT) (e5 : R5 = (AT, PySem.W.listOf (List.replicate (nd + 2) (Value.int 0 tz)).toArray 0) :: R4) (u5 : ∀ q ∈ R5, q.1 < SN) (e6 : R6 = (SN, PySem.W.listOf #[] 0) :: R5) (u6 : ∀ q ∈ R6, q.1 ≠ MD)
  (e7 : R7 = (MD, oM) :: R6) (m1 : oM.cls = .type "LookupError") (m2 : oM.data = .fields vM) (m3 : vM[1]? = some .none) (m4 : ∃ a0, vM[0]? = some a0) (u7 : ∀ q ∈ R7, q.1 < PL) (e8 : R8 = (PL, oP) :: R7) (u8 : ∀ q ∈ R8, q.1 < TW) (e9 : R9 = (TW, oT) :: R8)
  (p1 : ∃ k1 k2 k3 k4, oP.IsDictOf (strKind prg w) (strPairs [(.str (Str.ofString "bomb") k1, .int (b : Int) tb), (.str (Str.ofString "more") k2, .int (e : Int) te), (.str (Str.ofString "end") k3, .str (Str.ofString "") k4)]))
  (p2 : ∃ k1 k2 k3 k4, oT.IsDictOf (strKind prg w) (strPairs [(.str (Str.ofString "bomb") k1, .int (b : Int) tb), (.str (Str.ofString "more") k2, .int (e : Int) te), (.str (Str.ofString "end") k3, .str (Str.ofString "") k4)]))
  (N : News h₀ L h R9) :
  ∃ A f B f', News h₀ L h (lw14 (tabObj #[]) A f B f' []) ∧ J14 w nm (g14 nd rs SL SN PL MD) (l14 nd LL AT PS TW SL) (ak as) (s14 b e) (Str.ofString "") nd 0 (fun _ => none) (fun _ => 0) (s14 b e) (tabObj #[]) A f B f' [] := by
  have i8 : ∀ q ∈ R8, q ∈ R9 := fun q hq => e9 ▸ .tail _ hq
  have i7 : ∀ q ∈ R7, q ∈ R8 := fun q hq => e8 ▸ .tail _ hq
  have i6 : ∀ q ∈ R6, q ∈ R7 := fun q hq => e7 ▸ .tail _ hq
  have i5 : ∀ q ∈ R5, q ∈ R6 := fun q hq => e6 ▸ .tail _ hq
  have i4 : ∀ q ∈ R4, q ∈ R5 := fun q hq => e5 ▸ .tail _ hq
  have i3 : ∀ q ∈ R3, q ∈ R4 := fun q hq => e4 ▸ .tail _ hq
  have iL : ∀ q ∈ lsLed S1 as, q ∈ R3 := fun q hq => e3 ▸ .tail _ hq
  have iS : ∀ q ∈ S1, q ∈ lsLed S1 as := fun q hq => ls_base hq as
  have iR : ∀ q ∈ strLed w.params [(1152, tabObj #[])] rs, q ∈ S1 := fun q hq => e1 ▸ .tail _ hq
  have iT : ((1152 : Nat), tabObj #[]) ∈ strLed w.params [(1152, tabObj #[])] rs := str_base (.head _) rs
  have j3 : ∀ q ∈ R3, q ∈ R9 := fun q hq => i8 _ (i7 _ (i6 _ (i5 _ (i4 _ (i3 _ hq)))))
  have jS : ∀ q ∈ S1, q ∈ R3 := fun q hq => iL _ (iS _ hq)
  have mSL : (SL, LCg.lst (rs.reverse.map fun r => Value.ref r.X)) ∈ S1 := e1 ▸ .head _
  have mLL : (LL, LCg.lst (as.reverse.map Value.ref)) ∈ R3 := e3 ▸ .head _
  have mPS : (PS, PySem.W.listOf (List.replicate (nd + 2) Value.none).toArray 0) ∈ R4 := e4 ▸ .head _
  have mAT : (AT, PySem.W.listOf (List.replicate (nd + 2) (Value.int 0 tz)).toArray 0) ∈ R5 := e5 ▸ .head _
  have mSN : (SN, PySem.W.listOf #[] 0) ∈ R6 := e6 ▸ .head _
  have mMD : (MD, oM) ∈ R7 := e7 ▸ .head _
  have mPL : (PL, oP) ∈ R8 := e8 ▸ .head _
  have mTW : (TW, oT) ∈ R9 := e9 ▸ .head _
  have mas : ∀ a ∈ as, (a, LCg.lst []) ∈ R3 := fun a ha => iL _ (ls_mem ha)
  clear e1 e3 e4 e5 e6 e7 e8 e9
  -- the law's own lists
  let Bl : List Addr := [LL, PS, AT, TW] ++ as
  have hBl : ∀ x, x ∈ Bl ↔ x = LL ∨ x = PS ∨ x = AT ∨ x = TW ∨ x ∈ as := fun x => by
    simp only [Bl, List.cons_append, List.nil_append, List.mem_cons]
  have sB : ∀ q ∈ S1, q.1 ∉ Bl := fun q hq hm => by
    rcases (hBl _).mp hm with h | h | h | h | h
    · exact off1_mem u2 q (iS _ hq) h
    · exact Nat.ne_of_lt (u3 q (jS _ hq)) h
    · exact Nat.ne_of_lt (u4 q (i3 _ (jS _ hq))) h
    · exact Nat.ne_of_lt (u8 q (i7 _ (i6 _ (i5 _ (i4 _ (i3 _ (jS _ hq))))))) h
    · exact Nat.lt_irrefl _ (ls_lt hq hao h)
  have nB : ∀ q ∈ R3, q.1 < SN := fun q hq => u5 q (i4 _ (i3 _ hq))
  have SNB : SN ∉ Bl := fun hm => by
    rcases (hBl _).mp hm with h | h | h | h | h
    · exact Nat.ne_of_gt (nB _ mLL) h
    · exact Nat.ne_of_gt (u5 _ (i4 _ mPS)) h
    · exact Nat.ne_of_gt (u5 _ mAT) h
    · exact Nat.ne_of_lt (u8 _ (i7 _ (i6 _ mSN))) h
    · exact Nat.ne_of_gt (nB _ (mas _ h)) rfl
  have MDB : MD ∉ Bl := fun hm => by
    rcases (hBl _).mp hm with h | h | h | h | h
    · exact u6 _ (i5 _ (i4 _ (i3 _ mLL))) h.symm
    · exact u6 _ (i5 _ (i4 _ mPS)) h.symm
    · exact u6 _ (i5 _ mAT) h.symm
    · exact Nat.ne_of_lt (u8 _ (i7 _ mMD)) h
    · exact u6 _ (i5 _ (i4 _ (i3 _ (mas _ h)))) rfl
  have PLB : PL ∉ Bl := fun hm => by
    rcases (hBl _).mp hm with h | h | h | h | h
    · exact Nat.ne_of_gt (u7 _ (i6 _ (i5 _ (i4 _ (i3 _ mLL))))) h
    · exact Nat.ne_of_gt (u7 _ (i6 _ (i5 _ (i4 _ mPS)))) h
    · exact Nat.ne_of_gt (u7 _ (i6 _ (i5 _ mAT))) h
    · exact Nat.ne_of_lt (u8 _ mPL) h
    · exact Nat.ne_of_gt (u7 _ (i6 _ (i5 _ (i4 _ (i3 _ (mas _ h)))))) rfl
  have tabB : (1152 : Nat) ∉ Bl := sB _ (iR _ iT)
  let f : Addr → Obj := fun a => (h.get? a).getD (tabObj #[])
  have hf : ∀ {a : Addr} {o : Obj}, (a, o) ∈ R9 → f a = o := fun {a o} hm => by
    show (h.get? a).getD _ = o
    rw [(N _ hm).1]; rfl
  let A : List Addr := dd ((R9.map (·.1)).filter fun a => a ≠ (1152 : Nat) ∧ a ∉ Bl)
  have hA : ∀ {a : Addr} {o : Obj}, (a, o) ∈ R9 → a ≠ (1152 : Nat) → a ∉ Bl → a ∈ A := fun {a o} hm h1 h2 => mem_dd.mpr (List.mem_filter.mpr ⟨List.mem_map.mpr ⟨_, hm, rfl⟩, decide_eq_true ⟨h1, h2⟩⟩)
  have hA' : ∀ {a : Addr}, a ∈ A → (∃ o, (a, o) ∈ R9) ∧ a ≠ (1152 : Nat) ∧ a ∉ Bl := fun {a} hm => by
    have z := List.mem_filter.mp (mem_dd.mp hm)
    obtain ⟨q, hq, e⟩ := List.mem_map.mp z.1
    exact ⟨⟨q.2, e ▸ hq⟩, of_decide_eq_true z.2⟩
  have hB9 : ∀ {a : Addr}, a ∈ Bl → ∃ o, (a, o) ∈ R9 := fun {a} hm => by
    rcases (hBl _).mp hm with rfl | rfl | rfl | rfl | h
    · exact ⟨_, j3 _ mLL⟩
    · exact ⟨_, i8 _ (i7 _ (i6 _ (i5 _ (i4 _ mPS))))⟩
    · exact ⟨_, i8 _ (i7 _ (i6 _ (i5 _ mAT)))⟩
    · exact ⟨_, mTW⟩
    · exact ⟨_, j3 _ (mas _ h)⟩
  have inB : ∀ {a : Addr}, a ∈ Bl → a ∈ dd Bl := fun hm => mem_dd.mpr hm
  -- the streams
  have rmem : ∀ k, k < nd + 2 → rk rs k ∈ rs := fun k hk => List.mem_of_getElem? (rk_at (by omega))
  have gt52 : ∀ k, k < nd + 2 → ∀ c, @LT.lt Nat _ 1152 (slot (rk rs k) c) := fun k hk c => str_gt (.head _) hro (rmem k hk) c
  have sIn : ∀ k, k < nd + 2 → ∀ c o, (slot (rk rs k) c, o) ∈ (rk rs k).led w.params [] → slot (rk rs k) c ∈ A ∧ f (slot (rk rs k) c) = o := fun k hk c o hm => by
    have z := iR _ (rec_mem (base := [(1152, tabObj #[])]) (rmem k hk) hm)
    exact ⟨hA (j3 _ (jS _ z)) (Nat.ne_of_gt (gt52 k hk c)) (sB _ z), hf (j3 _ (jS _ z))⟩
  have sS1 : ∀ k, k < nd + 2 → ∀ c, ∃ o, (slot (rk rs k) c, o) ∈ strLed w.params [(1152, tabObj #[])] rs := fun k hk c => slot_mem (rmem k hk)
  have nSLs : ∀ k, k < nd + 2 → ∀ c, slot (rk rs k) c ≠ SL := fun k hk c => by obtain ⟨o, ho⟩ := sS1 k hk c; exact off1_mem u1 _ ho
  have nSNs : ∀ k, k < nd + 2 → ∀ c, slot (rk rs k) c ≠ SN := fun k hk c => by obtain ⟨o, ho⟩ := sS1 k hk c; exact Nat.ne_of_lt (nB _ (jS _ (iR _ ho)))
  have nMDs : ∀ k, k < nd + 2 → ∀ c, slot (rk rs k) c ≠ MD := fun k hk c => by obtain ⟨o, ho⟩ := sS1 k hk c; exact u6 _ (i5 _ (i4 _ (i3 _ (jS _ (iR _ ho)))))
  have nPLs : ∀ k, k < nd + 2 → ∀ c, slot (rk rs k) c ≠ PL := fun k hk c => by obtain ⟨o, ho⟩ := sS1 k hk c; exact Nat.ne_of_lt (u7 _ (i6 _ (i5 _ (i4 _ (i3 _ (jS _ (iR _ ho)))))))
  have n1 : SL ≠ SN := Nat.ne_of_lt (nB _ (jS _ mSL))
  have n2 : SL ≠ MD := u6 _ (i5 _ (i4 _ (i3 _ (jS _ mSL))))
  have n3 : SL ≠ PL := Nat.ne_of_lt (u7 _ (i6 _ (i5 _ (i4 _ (i3 _ (jS _ mSL))))))
  have n4 : SN ≠ MD := u6 _ mSN
  have n5 : SN ≠ PL := Nat.ne_of_lt (u7 _ (i6 _ mSN))
  have n6 : MD ≠ PL := Nat.ne_of_lt (u7 _ mMD)
  have G : GeoOk (g14 nd rs SL SN PL MD) := geoOk_of (by omega) (by omega) (fun k q hq => by cases hq) fun p hp q hq e => by
    obtain ⟨c, k⟩ := p
    obtain ⟨c', k'⟩ := q
    have cs : ∀ {c k : Nat} {x : Addr}, c < 5 → k < nd + 2 → spOf (fun k => (rk rs k).X) (fun k => (rk rs k).D) (fun k => (rk rs k).B) (fun k => (rk rs k).BD) (fun k => (rk rs k).C) SL SN PL MD (c, k) = x → slot (rk rs k) c = x := fun hc _ e => (sp_slot hc).symm.trans e
    rcases of_mem_domOf hp with ⟨h1, h2⟩ | h | h | h | h <;> rcases of_mem_domOf hq with ⟨h3, h4⟩ | h' | h' | h' | h'
    · dsimp only at h1 h2 h3 h4
      have e' := (cs h1 h2 e).trans (sp_slot h3)
      obtain ⟨x1, x2⟩ := slot_inj h1 h3 hro (rk_at (by omega)) (rk_at (by omega)) e'
      rw [x2, show k = k' by omega]
    all_goals first
      | (cases h; cases h'; rfl)
      | (cases h'; exact absurd (cs h1 h2 e) (nSLs _ h2 _))
      | (cases h'; exact absurd (cs h1 h2 e) (nSNs _ h2 _))
      | (cases h'; exact absurd (cs h1 h2 e) (nPLs _ h2 _))
      | (cases h'; exact absurd (cs h1 h2 e) (nMDs _ h2 _))
      | (cases h; exact absurd (cs h3 h4 e.symm) (nSLs _ h4 _))
      | (cases h; exact absurd (cs h3 h4 e.symm) (nSNs _ h4 _))
      | (cases h; exact absurd (cs h3 h4 e.symm) (nPLs _ h4 _))
      | (cases h; exact absurd (cs h3 h4 e.symm) (nMDs _ h4 _))
      | (cases h; cases h'; exact absurd e n1)
      | (cases h; cases h'; exact absurd e n2)
      | (cases h; cases h'; exact absurd e n3)
      | (cases h; cases h'; exact absurd e n4)
      | (cases h; cases h'; exact absurd e n5)
      | (cases h; cases h'; exact absurd e n6)
      | (cases h; cases h'; exact absurd e.symm n1)
      | (cases h; cases h'; exact absurd e.symm n2)
      | (cases h; cases h'; exact absurd e.symm n3)
      | (cases h; cases h'; exact absurd e.symm n4)
      | (cases h; cases h'; exact absurd e.symm n5)
      | (cases h; cases h'; exact absurd e.symm n6)
  have lo52 : ∀ {q : Addr × Obj}, q ∈ R3 → q.1 ≠ (1152 : Nat) ∨ True := fun _ => .inr trivial
  clear lo52
  have SL52 : SL ≠ (1152 : Nat) := Ne.symm (off1_mem u1 _ iT)
  have SN52 : SN ≠ (1152 : Nat) := Nat.ne_of_gt (nB _ (jS _ (iR _ iT)))
  have MD52 : MD ≠ (1152 : Nat) := Ne.symm (u6 _ (i5 _ (i4 _ (i3 _ (jS _ (iR _ iT))))))
  have PLgt : @LT.lt Nat _ 1152 PL := u7 _ (i6 _ (i5 _ (i4 _ (i3 _ (jS _ (iR _ iT))))))
  have TWgt : @LT.lt Nat _ 1152 TW := u8 _ (i7 _ (i6 _ (i5 _ (i4 _ (i3 _ (jS _ (iR _ iT)))))))
  refine ⟨A, f, dd Bl, f, fun q hq => ?_, G, ?_, .inl rfl, ?_, ?_, ?_, fun _ _ => rfl, rfl, fun k j hj => (by cases hj), fun k => Nat.zero_le _⟩
  · rcases List.mem_cons.mp hq with rfl | hq
    · exact N _ (j3 _ (jS _ (iR _ iT)))
    · rw [List.append_nil] at hq
      have key : ∀ {a : Addr}, (∃ o, (a, o) ∈ R9) → h.get? a = some (f a) ∧ a ≠ L ∧ h₀.get? a = none := fun {a} ⟨o, ho⟩ => by
        rw [hf ho]; exact N _ ho
      obtain ⟨a, o⟩ := q
      rcases List.mem_append.mp hq with hq | hq
      · obtain ⟨ha, rfl⟩ := mem_led.mp hq
        exact key (hA' ha).1
      · obtain ⟨ha, rfl⟩ := mem_led.mp hq
        exact key (hB9 (mem_dd.mp ha))
  · refine ⟨by show 2 ≤ nd + 2; omega, by show nd + 2 ≤ 7; omega, fun k q hq => (by cases hq), Ne.symm (Nat.ne_of_gt (u4 _ (i3 _ mLL))), Nat.ne_of_lt (u3 _ mLL), Nat.ne_of_lt (u8 _ (i7 _ (i6 _ (i5 _ (i4 _ (i3 _ mLL)))))), Nat.ne_of_gt (u4 _ mPS), Nat.ne_of_lt (u8 _ (i7 _ (i6 _ (i5 _ mAT)))), Nat.ne_of_lt (u8 _ (i7 _ (i6 _ (i5 _ (i4 _ mPS))))), ?_⟩
    show (TW == sysModules) = false
    exact beq_false_of_ne (Nat.ne_of_gt (Nat.lt_trans (by decide) TWgt))
  · exact ⟨fun hm => (hA' hm).2.1 rfl, fun hm => tabB (mem_dd.mp hm), fun a ha hm => (hA' ha).2.2 (mem_dd.mp hm), fun q hq => (by cases hq)⟩
  · refine ⟨dd_nodup _, fun k hk => sIn k hk 0 _ (.tail _ (.tail _ (.tail _ (.head _)))), fun k hk => ⟨(sIn k hk 1 _ (.tail _ (.tail _ (.tail _ (.tail _ (.head _)))))).1, _, _, _, (sIn k hk 1 _ (.tail _ (.tail _ (.tail _ (.tail _ (.head _)))))).2⟩,
      fun k hk => sIn k hk 2 _ (.tail _ (.tail _ (.tail _ (.tail _ (.tail _ (.tail _ (.head _))))))), fun k hk => ⟨(sIn k hk 3 _ (.tail _ (.tail _ (.tail _ (.tail _ (.tail _ (.tail _ (.tail _ (.head _))))))))).1, _, _, (sIn k hk 3 _ (.tail _ (.tail _ (.tail _ (.tail _ (.tail _ (.tail _ (.tail _ (.head _))))))))).2⟩,
      fun k hk => ⟨(sIn k hk 4 _ (.tail _ (.tail _ (.head _)))).1, 0, (sIn k hk 4 _ (.tail _ (.tail _ (.head _)))).2⟩, ⟨hA (j3 _ (jS _ mSL)) SL52 (sB _ mSL), ?_⟩, ⟨hA (i8 _ (i7 _ (i6 _ mSN))) SN52 SNB, 0, [], hf (i8 _ (i7 _ (i6 _ mSN))), rfl, fun i r e hr => (by simp at hr)⟩,
      ⟨hA (i8 _ mPL) (Nat.ne_of_gt PLgt) PLB, beq_false_of_ne (Nat.ne_of_gt (Nat.lt_trans (by decide) PLgt)), ?_⟩, ⟨hA (i8 _ (i7 _ mMD)) MD52 MDB, fun _ => ?_⟩, fun k hk q hq => (by cases hq)⟩
    · refine ⟨(rs.reverse.map fun r => Value.ref r.X).length, (hf (j3 _ (jS _ mSL))).trans ?_⟩
      show PySem.W.listOf (rs.reverse.map fun r => Value.ref r.X).toArray _ = _
      congr 2
      apply List.ext_getElem?
      intro i
      show (rs.reverse.map fun r => Value.ref r.X)[i]? = ((List.range (nd + 2)).map fun j => Value.ref (rk rs j).X)[i]?
      by_cases hi : i < nd + 2
      · rw [List.getElem?_map, List.getElem?_map, List.getElem?_range hi, List.getElem?_reverse (by omega), rk_at (by omega)]
        rfl
      · rw [List.getElem?_eq_none (by simp; omega), List.getElem?_eq_none (by simp; omega)]
    · show PlanAt w (f PL) _ _
      rw [hf (i8 _ mPL)]
      obtain ⟨k1, k2, k3, k4, hd⟩ := p1
      exact ⟨_, hd, .cons (.int _ _) (.cons (.int _ _) (.cons (.str _ _) .nil))⟩
    · show ∃ vs a0, (f MD).cls = _ ∧ (f MD).data = _ ∧ _
      rw [hf (i8 _ (i7 _ mMD))]
      obtain ⟨a0, h0⟩ := m4
      exact ⟨vM, a0, m1, m2, m3, h0⟩
  · have lmem : ∀ k, k < nd + 2 → ak as k ∈ as := fun k hk => List.mem_of_getElem? (ak_at (by omega))
    refine ⟨dd_nodup _, ⟨inB ((hBl _).mpr (.inl rfl)), ?_⟩, fun k hk => ⟨inB ((hBl _).mpr (.inr (.inr (.inr (.inr (lmem k hk)))))), fun hsp => ?_, [], 0, hf (j3 _ (mas _ (lmem k hk))), Ints.nil⟩, fun i hi j hj e => ?_, ⟨inB ((hBl _).mpr (.inr (.inr (.inl rfl)))), ?_⟩, ⟨inB ((hBl _).mpr (.inr (.inl rfl))), ?_⟩, ⟨inB ((hBl _).mpr (.inr (.inr (.inr (.inl rfl))))), ?_⟩⟩
    · refine ⟨(as.reverse.map Value.ref).length, (hf (j3 _ mLL)).trans ?_⟩
      show PySem.W.listOf (as.reverse.map Value.ref).toArray _ = _
      congr 2
      apply List.ext_getElem?
      intro i
      show (as.reverse.map Value.ref)[i]? = ((List.range (nd + 2)).map fun j => Value.ref (ak as j))[i]?
      by_cases hi : i < nd + 2
      · rw [List.getElem?_map, List.getElem?_map, List.getElem?_range hi, List.getElem?_reverse (by omega), ak_at (by omega)]
        rfl
      · rw [List.getElem?_eq_none (by simp; omega), List.getElem?_eq_none (by simp; omega)]
    · have ha := lmem k hk
      have hm := mas _ ha
      rcases hsp with h | h | h | h | h
      · exact off1_mem u2 _ (ls_mem ha) h
      · exact Nat.ne_of_lt (u4 _ (i3 _ hm)) h
      · exact Nat.ne_of_lt (u3 _ hm) h
      · exact Nat.ne_of_lt (u8 _ (i7 _ (i6 _ (i5 _ (i4 _ (i3 _ hm)))))) h
      · exact Nat.ne_of_gt (ls_lt mSL hao ha) h
    · have hi : i < nd + 2 := hi
      have hj : j < nd + 2 := hj
      have e1 := ak_at (as := as) (k := i) (by omega)
      have e2 := ak_at (as := as) (k := j) (by omega)
      rw [e] at e1
      have := ls_inj hao e1 e2
      omega
    · refine ⟨_, 0, hf (i8 _ (i7 _ (i6 _ (i5 _ mAT)))), (by rw [List.length_replicate, List.length_map, List.length_range]; rfl), fun i x hx => ?_⟩
      simp only [List.getElem?_map] at hx
      obtain ⟨j, hj, rfl⟩ := Option.map_eq_some_iff.mp hx
      have hi : i < nd + 2 := by
        obtain ⟨h1, _⟩ := List.getElem?_eq_some_iff.mp hj
        rw [List.length_range] at h1
        exact h1
      exact ⟨tz, by rw [List.getElem?_replicate, if_pos hi]⟩
    · refine ⟨_, 0, hf (i8 _ (i7 _ (i6 _ (i5 _ (i4 _ mPS))))), (by rw [List.length_replicate]; rfl), fun k hk => ⟨fun _ => ?_, fun q hq => (by cases hq)⟩⟩
      have hk : k < nd + 2 := hk
      rw [List.getElem?_replicate, if_pos hk]
    · show TwinAt w (f TW) _ _ _
      rw [hf mTW]
      obtain ⟨k1, k2, k3, k4, hd⟩ := p2
      exact ⟨_, hd, .cons (.int _ _) (.cons (.int _ _) (.cons (.str _ _) .nil))⟩
end
section
local macro_rules | `(tactic| k_room) => `(tactic| ((try simp only [depth_mark, depth_under_make, depth_under_kw, depth_in1, depth_deeper, depth_caller]); (try dsimp only [ktrTop]); (simp only [recursionLimit] at *); omega))
local macro_rules | `(tactic| k_units) => `(tactic| ((simp only [units_in1, units_deeper, Around.mark_units, units_caller, cLine_is] at *); (try dsimp only [ktrTop] at *); omega))
local macro_rules | `(tactic| k_all) => `(tactic| assumption)
theorem fill_LX : PySem.Challenge.rw_br5015_01 = PySem.Challenge.rw_br5015_01 ∧ K = K := by
  k_with_none
  k_fill
  exact ⟨rfl, rfl⟩
section
variable {w : World} {mean : ExcName → Option Value} {mg mb : Str → Option Value} {h₀ : Heap} {L fa SC : Addr} {cd : Value} {s : Shared} {Q : Flow → Shared → Prop} {E : Value → Shared → Prop} {vals : List Value} {ns : List Int}
def TabEnd (tab : Obj) : Prop := tab = tabObj #[] ∨ ∃ c, tab = tabObj (#[] ++ #[rawInt 675, rawInt 11, .ref c])
/-- statements 14 to 19 -/
theorem law_14 (hB : Below callerA h₀ [] h₀) (X₀ : (K w.params).In h₀) (T : Top topProg lo mean mg mb h₀) (hT9 : CodeHd h₀ 1156 1152) (hL : h₀.IsList SC vals.toArray) (hI : IntsAre vals ns) (hlen : ns.length ≤ 63)
  {nd b n e : Nat} {t1 tb tn te : Tok} {LD : Addr} {g : Geo} {l : Lw} {LI : Nat → Addr} (hnd : nd ≤ 5) (h2 : 2 * nd ≤ ns.length) (hN : g.N = nd + 2) (hNl : l.N = nd + 2) {pl : Nat → Option Int} {H : Nat → Addr} {tab : Obj} {A : List Addr} {f : Addr → Obj} {B : List Addr} {f' : Addr → Obj}
  (F : Fr h₀ L s.heap (MS nd b n e t1 tb tn te LD g.SL SC l.LL l.PS l.AT g.SN g.MD g.PL l.TW (g.X g.sp))) (N : News h₀ L s.heap (lw14 tab A f B f' [])) (J : J14 w ((mg "__name__").getD .none) g l LI (s14 b e) (Str.ofString "") nd 0 pl H (s14 b e) tab A f B f' [])
  (fin : ∀ h tk tab m', Fr h₀ L h m' → News h₀ L h [(1152, tab)] → TabEnd tab → Q (.ret (.bool true)) { s with heap := h, toks := tk }) :
  wpC (model prg w) (callerA.deeper (lawEnv L fa cd)) (execs ((fbody (st 26)).drop 14) (lawEnv L fa cd)) Q E s := by
  show wpC _ _ (execs (((fbody (st 26))[14]?).getD (.Pass default) :: (fbody (st 26)).drop 15) _) _ _ _
  refine wpC_execs_cons (wpC_of (for_14 hB X₀ T hT9 hnd hN hNl h2 hL hI hlen F N J fun h1 tk1 vk vp vq pl1 H1 σ1 tab1 A1 f1 B1 f1' F1 N1 J1 => ?_))
  show wpC _ _ (execs (((fbody (st 26))[15]?).getD (.Pass default) :: (fbody (st 26)).drop 16) _) _ _ _
  refine wpC_execs_cons (wpC_of (first_S (s := { s with heap := h1, toks := tk1 }) hB X₀ T hL hI hlen F1 N1 fun h2 tk2 q tq F2 N2 hq => ?_))
  have hs := J1.same
  have hat : σ1.at_ = fun _ => 0 := by rw [hs]
  have hlog : σ1.log = [] := by rw [hs]
  show wpC _ _ (execs (((fbody (st 26))[16]?).getD (.Pass default) :: (fbody (st 26)).drop 17) _) _ _ _
  refine wpC_execs_cons (wpC_of (seek_S (s := { s with heap := h2, toks := tk2 }) (g := g.wth pl1 H1) (l := l.wth pl1) hB X₀ T hq (by rw [hat]) F2 N2 J1.G J1.ht J1.ap J1.W fun h3 tk3 f3 F3 N3 ht3 W3 => ?_))
  show wpC _ _ (execs (((fbody (st 26))[17]?).getD (.Pass default) :: (fbody (st 26)).drop 18) _) _ _ _
  refine wpC_execs_cons (wpC_of (ats0_S (s := { s with heap := h3, toks := tk3 }) (g := g.wth pl1 H1) (l := l.wth pl1) hB X₀ T J1.O.n2 F3 N3 J1.O J1.ap J1.D fun h4 tk4 f4 F4 N4 D4 => ?_))
  show wpC _ _ (execs (((fbody (st 26))[18]?).getD (.Pass default) :: (fbody (st 26)).drop 19) _) _ _ _
  have I : Inv (g.wth pl1 H1).N { σ1 with at_ := put σ1.at_ 0 q } := ⟨fun k j hj => by
      have := J1.up k j hj
      exact ⟨this.1, by show j < g.N; omega⟩, fun k => by
      have := J1.few k
      show (σ1.kids k).length + (if 0 ≤ σ1.more then 1 else 0) ≤ 7
      split <;> omega, fun k => by
      show 0 ≤ put σ1.at_ 0 q k ∧ put σ1.at_ 0 q k ≤ 5
      by_cases hk : k = 0
      · subst hk; rw [put_self]; exact hq
      · rw [put_ne hk, hat]; exact ⟨Int.le_refl 0, (by decide : (0 : Int) ≤ 5)⟩⟩
  refine wpC_execs_cons (wpC_of (for_18 (s := { s with heap := h4, toks := tk4 }) (g := g.wth pl1 H1) (l := l.wth pl1) (vf := some (.int q tq)) hB X₀ T J1.G hN hNl rfl F4 N4 ⟨ht3, J1.ap, W3, J1.O, D4, I, hlog, Nat.zero_le _, trivial⟩ fun h5 tk5 vt vd vm x5 pre5 LI5 σ5 en5 tab5 A5 f5 B5 f5' F5 N5 J5 => ?_))
  show wpC _ _ (execs (((fbody (st 26))[19]?).getD (.Pass default) :: (fbody (st 26)).drop 20) _) _ _ _
  refine wpC_execs_cons (wpC_of (last_S (s := { s with heap := h5, toks := tk5 }) (g := g.wth pl1 H1) (l := (l.wth pl1).due x5) hB X₀ T (hist_end J1.G J5.hist) F5 N5 J5.O J5.D fun h6 tk6 F6 N6 => ?_))
  obtain ⟨m6, F6⟩ := F6
  refine fin h6 tk6 tab5 m6 F6 (fun p hp => N6 p (by rw [List.mem_singleton.mp hp]; exact .head _)) ?_
  rcases J5.ht with h | ⟨c, _, _, _, h, _⟩
  · exact .inl h
  · exact .inr ⟨c, h⟩
theorem law_all (hB : Below callerA h₀ [] h₀) (F : Fr h₀ L s.heap (fun y => List.lookup y [((S "script"), Value.ref SC)].reverse)) (X₀ : (K w.params).In h₀) (N : News h₀ L s.heap [(1152, tabObj #[])])
  (T : Top topProg lo mean mg mb h₀) (hT9 : CodeHd h₀ 1156 1152) (hL : h₀.IsList SC vals.toArray) (hI : IntsAre vals ns) (hlen : ns.length ≤ 63)
  (fin : ∀ h tk tab m', Fr h₀ L h m' → News h₀ L h [(1152, tab)] → TabEnd tab → Q (.ret (.bool true)) { s with heap := h, toks := tk }) :
  wpC (model prg w) (callerA.deeper (lawEnv L fa cd)) (execs (fbody (st 26)) (lawEnv L fa cd)) Q E s := by
  refine law_C hB F X₀ N T hT9 hL hI hlen fun nd b n e t1 tb tn te LD SL h1 tk1 rs hnd hnl hb hn he hrl hro F1 N1 u1 => ?_
  refine lists_S (s := { s with heap := h1, toks := tk1 }) hB X₀ T hnd F1 N1 fun h2 tk2 LLa as F2 N2 hal hao u2 => ?_
  refine places_S (s := { s with heap := h2, toks := tk2 }) hB X₀ T hnd F2 N2 fun h3 tk3 PSa F3 N3 u3 => ?_
  refine ats_S (s := { s with heap := h3, toks := tk3 }) hB X₀ T hnd F3 N3 fun h4 tk4 ATa tz F4 N4 u4 => ?_
  refine seen_S (s := { s with heap := h4, toks := tk4 }) hB X₀ T F4 N4 fun h5 tk5 SNa F5 N5 u5 => ?_
  refine made_S (s := { s with heap := h5, toks := tk5 }) hB X₀ T F5 N5 fun h6 tk6 MD oM vM F6 N6 u6 m1 m2 m3 m4 => ?_
  refine plan_S (s := { s with heap := h6, toks := tk6 }) hB X₀ T F6 N6 fun h7 tk7 PL oP F7 N7 u7 p1 => ?_
  refine twin_S (s := { s with heap := h7, toks := tk7 }) hB X₀ T F7 N7 fun h8 tk8 TW oT F8 N8 u8 p2 => ?_
  have hSP : (rs.reverse.map fun r => Value.ref r.X)[nd + 1]? = some (.ref ((g14 nd rs SL SNa PL MD).X (g14 nd rs SL SNa PL MD).sp)) := by
    show (rs.reverse.map fun r => Value.ref r.X)[nd + 1]? = some (.ref (rk rs (nd + 1)).X)
    rw [List.getElem?_map, List.getElem?_reverse (by omega), rk_at (by omega)]
    rfl
  refine spare_S (s := { s with heap := h8, toks := tk8 }) (SP := (g14 nd rs SL SNa PL MD).X (g14 nd rs SL SNa PL MD).sp) hB X₀ T hnd F8 N8 (svs := rs.reverse.map fun r => Value.ref r.X) (.tail _ (.tail _ (.tail _ (.tail _ (.tail _ (.tail _ (.tail _ (ls_base (.head _) as)))))))) (by simp [hrl]) hSP fun h9 tk9 F9 N9 => ?_
  obtain ⟨A, f, B, f', N10, J⟩ := init_14 (nm := (mg "__name__").getD .none) (b := b) (e := e) hnd hrl hro u1 hal rfl hao u2 rfl u3 rfl u4 rfl u5 rfl u6 rfl m1 m2 m3 m4 u7 rfl u8 rfl p1 p2 N9
  exact law_14 (s := { s with heap := h9, toks := tk9 }) (g := g14 nd rs SL SNa PL MD) (l := l14 nd LLa ATa PSa TW SL) hB X₀ T hT9 hL hI hlen hnd hnl rfl rfl F9 N10 J fin
end
end
section
local macro_rules | `(tactic| k_room) => `(tactic| ((try simp only [depth_mark, depth_under_make, depth_under_kw, depth_in1, depth_deeper, depth_caller]); (try dsimp only [ktrTop]); (simp only [recursionLimit] at *); omega))
local macro_rules | `(tactic| k_units) => `(tactic| ((simp only [units_in1, units_deeper, Around.mark_units, units_caller, cLine_is] at *); (try dsimp only [ktrTop] at *); omega))
local macro_rules | `(tactic| k_all) => `(tactic| assumption)
theorem fill_LZ : PySem.Challenge.rw_br5015_01 = PySem.Challenge.rw_br5015_01 ∧ K = K := by
  k_with_none
  k_fill
  exact ⟨rfl, rfl⟩
theorem top_holds : PySem.Challenge.rw_br5015_01.Holds := by
  w_on
  o_law
  refine holds_C (r := PySem.Challenge.rw_br5015_01.row) (q := qv) (loose := loose) (Xt := xt) (XP := XL qv []) (Yf := hook.obs) (Ya := hook.val) (YP := hook.says) (N := 19000) left (Hook.of hook) (Hook.keeps hook) (fun s e => xl_of s (Bool.and_eq_true_iff.mp e).1) XL.keeps (by rfl) (by rfl) (by rfl) (fun s e => recFacts_of (Bool.and_eq_true_iff.mp e).2) (by rfl) (by assumption) (by decide +kernel) ⟨rfl, rfl, rfl, rfl, rfl, by decide +kernel⟩ ?hw ?hc
  (case hw => w_witness2)
  k_fill
  intro w s₀ s₁ mg mb G Y fa o pm cd doc dV kV ho hd hcd hD hmg hg args vals as hpre hlay hrd hwl hlo
  have KX := km_in_of Y
  km_tabs Y
  have X := (Ground.X G).1
  have V := (Ground.X G).2
  refine Ground.open G ?_
  intro T B D TE TW
  try (refine guard_noD D (by decide +kernel) ?_; clear D)
  km_lay T hmg ho hd cd
  clear hmg
  wrow_args hpre hlay hrd hwl hlo
  refine enter_callC ?_
  w_top on
  refine kn_postC hT9 (fun _ _ => rfl) ?_
  have he := Dflts.none hD rfl
  subst he
  refine call_fullC (by decide) ho hd (Top.nolimit T) hcd (BindsTo.of_eq rfl) (locs rfl) fun h₁ F => ?_
  w_binds F
  have N0 := (News.nil : News _ _ _ []).at F
  clear hd
  kn_ghosts F T
  k_drop
  rename Fr _ _ _ _ => F9
  rename News _ _ _ _ => N9
  rename Below _ _ _ _ => B9
  rename Top _ _ _ _ _ _ => T9
  rename Frag.In _ _ => X9
  rename Heap.IsList _ _ _ => L9
  rename IntsAre _ _ => I9
  have hlen9 : (_ : List Int).length ≤ 63 := Nat.le_of_not_lt (fun h => absurd (Int.ofNat_lt.mpr h) (by assumption))
  refine law_all (mean := _) (mb := _) B9 F9 X9 N9 T9 codeHd L9 I9 hlen9 ?_
  intro h tk tab m' F8 N8 hTab
  refine ⟨⟨.inl ⟨.bool true, .bool true, [], rfl, fun _ => rfl, .bool true, ?_, ?_⟩, F8.keep, rfl, hg⟩, ⟨?_, trivial⟩⟩
  · exact postW_of (X := true) (by wrow_shape) (by wtm_val) rfl
  · exact fun _ => ⟨List.nodup_nil, fun a ha => by cases ha⟩
  · rcases hTab with rfl | ⟨c, rfl⟩
    · exact ⟨_, (N8 _ (.head _)).1⟩
    · exact ⟨_, (N8 _ (.head _)).1⟩
end
end Mine
theorem PySem.Challenge.cw_br5015_01_holds : PySem.Challenge.rw_br5015_01.Holds := by
  exact Mine.top_holds
