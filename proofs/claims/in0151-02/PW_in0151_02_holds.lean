import PyProof.Rows.All
import Wide.All
import OpenK.AllK
import Wide.FinOn
import Lean
import PySem.Challenge.RW_in0151_02
open PySem PySem.W PyProof.Rows
set_option Elab.async false
set_option linter.all false
set_option maxRecDepth 100000
set_option maxHeartbeats 8000000
set_option rowWalk.seconds 0
namespace Mine
noncomputable def nth : List Stmt → Nat → Stmt
  | [], _ => .Pass default
  | s :: _, 0 => s
  | _ :: l, n + 1 => nth l n
noncomputable def cb : Stmt → List Stmt
  | .ClassDef _ _ _ b _ _ _ _ _ _ _ => b
  | _ => []
noncomputable abbrev bd : List Stmt := PySem.Challenge.pw_in0151_02.main.body
noncomputable def foS (nm ql : Str) (dV kV doc pm : Value) (an : Option Addr) (cd ct : Value) (st : Stmt) : Option Obj := match st with
  | .FunctionDef _ a b _ _ _ sc _ _ _ => some ⟨.type "function", none, .func (fnOf nm ql a b sc dV kV doc pm an cd ct), #[]⟩
  | _ => none
noncomputable abbrev Fo (nm ql : Str) (dV kV doc pm : Value) (an : Option Addr) (cd ct : Value) (st : Stmt) : Type := { o : Obj // foS nm ql dV kV doc pm an cd ct st = some o }
noncomputable abbrev dE (P : Params) (k : String) (t : Tok) (v : Value) : DictEntry := ⟨PyData.keyHash P (Str.ofString k), .str (Str.ofString k) t, v⟩
noncomputable def o46 : Fo (Str.ofString "read_uint1") (Str.ofString "read_uint1") (Value.none) (Value.none) (Value.none) (Value.str (Str.ofString "cpy313.pickletools") 286) (none) (Value.ref 45) (Value.none) (nth bd 3) := ⟨⟨_, _, .func (fnOf _ _ _ _ _ _ _ _ _ _ _ _), _⟩, rfl⟩
noncomputable def o53 : Fo (Str.ofString "read_string1") (Str.ofString "read_string1") (Value.none) (Value.none) (Value.none) (Value.str (Str.ofString "cpy313.pickletools") 286) (none) (Value.ref 52) (Value.none) (nth bd 4) := ⟨⟨_, _, .func (fnOf _ _ _ _ _ _ _ _ _ _ _ _), _⟩, rfl⟩
noncomputable def o60 : Fo (Str.ofString "read_bytes1") (Str.ofString "read_bytes1") (Value.none) (Value.none) (Value.none) (Value.str (Str.ofString "cpy313.pickletools") 286) (none) (Value.ref 59) (Value.none) (nth bd 5) := ⟨⟨_, _, .func (fnOf _ _ _ _ _ _ _ _ _ _ _ _), _⟩, rfl⟩
noncomputable def o74 : Fo (Str.ofString "_index") (Str.ofString "_index") (Value.none) (Value.none) (Value.none) (Value.str (Str.ofString "io") 314) (none) (Value.ref 73) (Value.none) (nth bd 8) := ⟨⟨_, _, .func (fnOf _ _ _ _ _ _ _ _ _ _ _ _), _⟩, rfl⟩
noncomputable def o101 : Fo (Str.ofString "__new__") (Str.ofString "IOBase.__new__") (Value.none) (Value.none) (Value.none) (Value.str (Str.ofString "io") 314) (none) (Value.ref 100) (Value.none) (nth (cb (nth bd 10)) 1) := ⟨⟨_, _, .func (fnOf _ _ _ _ _ _ _ _ _ _ _ _), _⟩, rfl⟩
noncomputable def o378 : Fo (Str.ofString "__init__") (Str.ofString "StringIO.__init__") (Value.ref 371) (Value.none) (Value.none) (Value.str (Str.ofString "io") 314) (none) (Value.ref 377) (Value.none) (nth (cb (nth bd 14)) 1) := ⟨⟨_, _, .func (fnOf _ _ _ _ _ _ _ _ _ _ _ _), _⟩, rfl⟩
noncomputable def o385 : Fo (Str.ofString "__translated") (Str.ofString "StringIO.__translated") (Value.none) (Value.none) (Value.none) (Value.str (Str.ofString "io") 314) (none) (Value.ref 384) (Value.none) (nth (cb (nth bd 14)) 2) := ⟨⟨_, _, .func (fnOf _ _ _ _ _ _ _ _ _ _ _ _), _⟩, rfl⟩
noncomputable def o392 : Fo (Str.ofString "__check") (Str.ofString "StringIO.__check") (Value.none) (Value.none) (Value.none) (Value.str (Str.ofString "io") 314) (none) (Value.ref 391) (Value.none) (nth (cb (nth bd 14)) 3) := ⟨⟨_, _, .func (fnOf _ _ _ _ _ _ _ _ _ _ _ _), _⟩, rfl⟩
noncomputable def o406 : Fo (Str.ofString "__line") (Str.ofString "StringIO.__line") (Value.none) (Value.none) (Value.none) (Value.str (Str.ofString "io") 314) (none) (Value.ref 405) (Value.none) (nth (cb (nth bd 14)) 5) := ⟨⟨_, _, .func (fnOf _ _ _ _ _ _ _ _ _ _ _ _), _⟩, rfl⟩
noncomputable def o453 : Fo (Str.ofString "close") (Str.ofString "StringIO.close") (Value.none) (Value.none) (Value.none) (Value.str (Str.ofString "io") 314) (none) (Value.ref 452) (Value.none) (nth (cb (nth bd 14)) 11) := ⟨⟨_, _, .func (fnOf _ _ _ _ _ _ _ _ _ _ _ _), _⟩, rfl⟩
noncomputable def o554 : Fo (Str.ofString "read") (Str.ofString "StringIO.read") (Value.ref 547) (Value.none) (Value.none) (Value.str (Str.ofString "io") 314) (none) (Value.ref 553) (Value.none) (nth (cb (nth bd 14)) 25) := ⟨⟨_, _, .func (fnOf _ _ _ _ _ _ _ _ _ _ _ _), _⟩, rfl⟩
noncomputable def o562 : Fo (Str.ofString "readline") (Str.ofString "StringIO.readline") (Value.ref 555) (Value.none) (Value.none) (Value.str (Str.ofString "io") 314) (none) (Value.ref 561) (Value.none) (nth (cb (nth bd 14)) 26) := ⟨⟨_, _, .func (fnOf _ _ _ _ _ _ _ _ _ _ _ _), _⟩, rfl⟩
noncomputable def o667 : Fo (Str.ofString "__init__") (Str.ofString "shlex.__init__") (Value.ref 660) (Value.none) (Value.none) (Value.str (Str.ofString "cpy313.shlex") 1029) (none) (Value.ref 666) (Value.none) (nth (cb (nth bd 23)) 0) := ⟨⟨_, _, .func (fnOf _ _ _ _ _ _ _ _ _ _ _ _), _⟩, rfl⟩
noncomputable def o674 : Fo (Str.ofString "punctuation_chars") (Str.ofString "shlex.punctuation_chars") (Value.none) (Value.none) (Value.none) (Value.str (Str.ofString "cpy313.shlex") 1029) (none) (Value.ref 673) (Value.none) (nth (cb (nth bd 23)) 1) := ⟨⟨_, _, .func (fnOf _ _ _ _ _ _ _ _ _ _ _ _), _⟩, rfl⟩
noncomputable def o690 : Fo (Str.ofString "push_source") (Str.ofString "shlex.push_source") (Value.ref 683) (Value.none) (Value.none) (Value.str (Str.ofString "cpy313.shlex") 1029) (none) (Value.ref 689) (Value.none) (nth (cb (nth bd 23)) 3) := ⟨⟨_, _, .func (fnOf _ _ _ _ _ _ _ _ _ _ _ _), _⟩, rfl⟩
noncomputable def o697 : Fo (Str.ofString "pop_source") (Str.ofString "shlex.pop_source") (Value.none) (Value.none) (Value.none) (Value.str (Str.ofString "cpy313.shlex") 1029) (none) (Value.ref 696) (Value.none) (nth (cb (nth bd 23)) 4) := ⟨⟨_, _, .func (fnOf _ _ _ _ _ _ _ _ _ _ _ _), _⟩, rfl⟩
noncomputable def o704 : Fo (Str.ofString "get_token") (Str.ofString "shlex.get_token") (Value.none) (Value.none) (Value.none) (Value.str (Str.ofString "cpy313.shlex") 1029) (none) (Value.ref 703) (Value.none) (nth (cb (nth bd 23)) 5) := ⟨⟨_, _, .func (fnOf _ _ _ _ _ _ _ _ _ _ _ _), _⟩, rfl⟩
noncomputable def o711 : Fo (Str.ofString "read_token") (Str.ofString "shlex.read_token") (Value.none) (Value.none) (Value.none) (Value.str (Str.ofString "cpy313.shlex") 1029) (none) (Value.ref 710) (Value.none) (nth (cb (nth bd 23)) 6) := ⟨⟨_, _, .func (fnOf _ _ _ _ _ _ _ _ _ _ _ _), _⟩, rfl⟩
noncomputable def o718 : Fo (Str.ofString "sourcehook") (Str.ofString "shlex.sourcehook") (Value.none) (Value.none) (Value.none) (Value.str (Str.ofString "cpy313.shlex") 1029) (none) (Value.ref 717) (Value.none) (nth (cb (nth bd 23)) 7) := ⟨⟨_, _, .func (fnOf _ _ _ _ _ _ _ _ _ _ _ _), _⟩, rfl⟩
noncomputable def o754 : Fo (Str.ofString "_law_words") (Str.ofString "_law_words") (Value.none) (Value.none) (Value.none) (Value.str (Str.ofString "law_in0151_02") 1170) (none) (Value.ref 753) (Value.none) (nth bd 25) := ⟨⟨_, _, .func (fnOf _ _ _ _ _ _ _ _ _ _ _ _), _⟩, rfl⟩
noncomputable def o761 : Fo (Str.ofString "_law_spelled") (Str.ofString "_law_spelled") (Value.none) (Value.none) (Value.none) (Value.str (Str.ofString "law_in0151_02") 1170) (none) (Value.ref 760) (Value.none) (nth bd 26) := ⟨⟨_, _, .func (fnOf _ _ _ _ _ _ _ _ _ _ _ _), _⟩, rfl⟩
noncomputable def o768 : Fo (Str.ofString "_law_octet") (Str.ofString "_law_octet") (Value.none) (Value.none) (Value.none) (Value.str (Str.ofString "law_in0151_02") 1170) (none) (Value.ref 767) (Value.none) (nth bd 27) := ⟨⟨_, _, .func (fnOf _ _ _ _ _ _ _ _ _ _ _ _), _⟩, rfl⟩
noncomputable def o775 : Fo (Str.ofString "_law_gathered") (Str.ofString "_law_gathered") (Value.none) (Value.none) (Value.none) (Value.str (Str.ofString "law_in0151_02") 1170) (none) (Value.ref 774) (Value.none) (nth bd 28) := ⟨⟨_, _, .func (fnOf _ _ _ _ _ _ _ _ _ _ _ _), _⟩, rfl⟩
noncomputable def o780 : Fo (Str.ofString "_law_hook") (Str.ofString "_law_hook") (Value.none) (Value.none) (Value.none) (Value.str (Str.ofString "law_in0151_02") 1170) (none) (Value.ref 779) (Value.none) (nth bd 29) := ⟨⟨_, _, .func (fnOf _ _ _ _ _ _ _ _ _ _ _ _), _⟩, rfl⟩
noncomputable def o787 : Fo (Str.ofString "_law_lexer") (Str.ofString "_law_lexer") (Value.none) (Value.none) (Value.none) (Value.str (Str.ofString "law_in0151_02") 1170) (none) (Value.ref 786) (Value.none) (nth bd 30) := ⟨⟨_, _, .func (fnOf _ _ _ _ _ _ _ _ _ _ _ _), _⟩, rfl⟩
noncomputable def o794 : Fo (Str.ofString "_law_told") (Str.ofString "_law_told") (Value.none) (Value.none) (Value.none) (Value.str (Str.ofString "law_in0151_02") 1170) (none) (Value.ref 793) (Value.none) (nth bd 31) := ⟨⟨_, _, .func (fnOf _ _ _ _ _ _ _ _ _ _ _ _), _⟩, rfl⟩
noncomputable def o799 : Fo (Str.ofString "_law_laid") (Str.ofString "_law_laid") (Value.none) (Value.none) (Value.none) (Value.str (Str.ofString "law_in0151_02") 1170) (none) (Value.ref 798) (Value.none) (nth bd 32) := ⟨⟨_, _, .func (fnOf _ _ _ _ _ _ _ _ _ _ _ _), _⟩, rfl⟩
noncomputable def o806 : Fo (Str.ofString "_law_refusal") (Str.ofString "_law_refusal") (Value.none) (Value.none) (Value.none) (Value.str (Str.ofString "law_in0151_02") 1170) (none) (Value.ref 805) (Value.none) (nth bd 33) := ⟨⟨_, _, .func (fnOf _ _ _ _ _ _ _ _ _ _ _ _), _⟩, rfl⟩
noncomputable def o813 : Fo (Str.ofString "_law_rewritten") (Str.ofString "_law_rewritten") (Value.none) (Value.none) (Value.none) (Value.str (Str.ofString "law_in0151_02") 1170) (none) (Value.ref 812) (Value.none) (nth bd 34) := ⟨⟨_, _, .func (fnOf _ _ _ _ _ _ _ _ _ _ _ _), _⟩, rfl⟩
noncomputable def o818 : Fo (Str.ofString "law") (Str.ofString "law") (Value.none) (Value.none) (Value.none) (Value.str (Str.ofString "law_in0151_02") 1170) (none) (Value.ref 817) (Value.none) (nth bd 35) := ⟨⟨_, _, .func (fnOf _ _ _ _ _ _ _ _ _ _ _ _), _⟩, rfl⟩
noncomputable def KK (P : Params) : Frag :=
  (nat_lit 2, ⟨Value.none, none, .dict #[dE P "\x69mport.loaded._collections" (185) (Value.bool true), dE P "class._frozen_importlib.BuiltinImporter" (187) (Value.ref 15), dE P "watched.\x69mport" (208) (Value.ref 19), dE P "class._frozen_importlib.ModuleSpec" (218) (Value.ref 23), dE P "sys.modules.booked-epoch" (247) (Value.int 3 0), dE P "sys.modules.landed._collections" (248) (Value.bool true), dE P "\x69mport.later-laid._collections" (263) (Value.bool true), dE P "watched.library" (265) (Value.ref 28), dE P "watched.library-objects" (0) (Value.str (Str.ofString "\x0d") 0), dE P "watched.library-deep._collections" (266) (Value.str (Str.ofString "\x04\x00\x00\x0c\x04\x00\x00\x0c\x04\x00\x00\x03\x04\x00\x00\x0c\x08\x04dict\x02") 0), dE P "type.__subclasses__.OSError.0" (350) (Value.int 84 0), dE P "type.__subclasses__.OSError.n" (351) (Value.int 1 0)] 12, #[]⟩) ::
  (nat_lit 3, ⟨Value.type "dict", none, .dict #[dE P "__name__" (165) (Value.str (Str.ofString "law_in0151_02") 1170), dE P "__doc__" (166) (Value.none), dE P "__package__" (167) (Value.none), dE P "__loader__" (168) (Value.builtin "__main__.__loader__#opaque"), dE P "__spec__" (169) (Value.none), dE P "__annotations__" (170) (Value.ref 6), dE P "__builtins__" (171) (Value.ref 4), dE P "__file__" (173) (Value.str (Str.ofString "/claim/cut.py") 172), dE P "__cached__" (174) (Value.none), dE P "deque" (272) (Value.type "collections.deque"), dE P "_wall" (285) (Value.ref 39), dE P "read_uint1" (295) (Value.ref 46), dE P "read_string1" (304) (Value.ref 53), dE P "read_bytes1" (313) (Value.ref 60), dE P "_whence" (323) (Value.ref 67), dE P "_index" (331) (Value.ref 74), dE P "UnsupportedOperation" (353) (Value.ref 84), dE P "IOBase" (385) (Value.ref 104), dE P "BufferedIOBase" (403) (Value.ref 119), dE P "TextIOBase" (421) (Value.ref 131), dE P "BytesIO" (683) (Value.ref 361), dE P "StringIO" (970) (Value.ref 608), dE P "_kind" (981) (Value.ref 617), dE P "_fspath" (990) (Value.ref 624), dE P "_check_arg_types" (1000) (Value.ref 631), dE P "isabs" (1007) (Value.ref 638), dE P "join" (1018) (Value.ref 645), dE P "dirname" (1028) (Value.ref 652), dE P "shlex" (1169) (Value.ref 743), dE P "_law_words" (1181) (Value.ref 754), dE P "_law_spelled" (1189) (Value.ref 761), dE P "_law_octet" (1196) (Value.ref 768), dE P "_law_gathered" (1206) (Value.ref 775), dE P "_law_hook" (1212) (Value.ref 780), dE P "_law_lexer" (1220) (Value.ref 787), dE P "_law_told" (1230) (Value.ref 794), dE P "_law_laid" (1236) (Value.ref 799), dE P "_law_refusal" (1246) (Value.ref 806), dE P "_law_rewritten" (1260) (Value.ref 813), dE P "law" (1266) (Value.ref 818)] 40, #[]⟩) ::
  (nat_lit 45, ⟨Value.type "code", none, Data.fields
  #[Value.str (Str.ofString "read_uint1") 288, Value.str (Str.ofString "read_uint1") 289,
    Value.str (Str.ofString "/claim/cut.py") 290, Value.int 6 0, Value.int 1 0, Value.int 0 0, Value.int 0 0,
    Value.int 3 0, Value.ref 40, Value.bool true, Value.int 273 0, Value.ref 41, Value.none, Value.ref 42, Value.ref 43,
    Value.ref 44, Value.int 293 0, Value.int 6 0, Value.str (Str.ofString "/claim/cut.py") 294], #[]⟩) ::
  (nat_lit 46, o46.1) ::
  (nat_lit 52, ⟨Value.type "code", none, Data.fields
  #[Value.str (Str.ofString "read_string1") 296, Value.str (Str.ofString "read_string1") 297,
    Value.str (Str.ofString "/claim/cut.py") 298, Value.int 11 0, Value.int 1 0, Value.int 0 0, Value.int 0 0,
    Value.int 3 0, Value.ref 47, Value.bool true, Value.int 273 0, Value.ref 48, Value.none, Value.ref 49, Value.ref 50,
    Value.ref 51, Value.int 302 0, Value.int 11 0, Value.str (Str.ofString "/claim/cut.py") 303], #[]⟩) ::
  (nat_lit 53, o53.1) ::
  (nat_lit 59, ⟨Value.type "code", none, Data.fields
  #[Value.str (Str.ofString "read_bytes1") 305, Value.str (Str.ofString "read_bytes1") 306,
    Value.str (Str.ofString "/claim/cut.py") 307, Value.int 18 0, Value.int 1 0, Value.int 0 0, Value.int 0 0,
    Value.int 3 0, Value.ref 54, Value.bool true, Value.int 273 0, Value.ref 55, Value.none, Value.ref 56, Value.ref 57,
    Value.ref 58, Value.int 311 0, Value.int 18 0, Value.str (Str.ofString "/claim/cut.py") 312], #[]⟩) ::
  (nat_lit 60, o60.1) ::
  (nat_lit 73, ⟨Value.type "code", none, Data.fields
  #[Value.str (Str.ofString "_index") 324, Value.str (Str.ofString "_index") 325,
    Value.str (Str.ofString "/claim/cut.py") 326, Value.int 31 0, Value.int 2 0, Value.int 0 0, Value.int 0 0,
    Value.int 3 0, Value.ref 68, Value.bool true, Value.int 273 0, Value.ref 69, Value.none, Value.ref 70, Value.ref 71,
    Value.ref 72, Value.int 329 0, Value.int 31 0, Value.str (Str.ofString "/claim/cut.py") 330], #[]⟩) ::
  (nat_lit 74, o74.1) ::
  (nat_lit 100, ⟨Value.type "code", none, Data.fields
  #[Value.str (Str.ofString "__new__") 368, Value.str (Str.ofString "IOBase.__new__") 369,
    Value.str (Str.ofString "/claim/cut.py") 370, Value.int 43 0, Value.int 1 0, Value.int 1 0, Value.int 0 0,
    Value.int 15 0, Value.ref 95, Value.bool true, Value.int 273 0, Value.ref 96, Value.none, Value.ref 97,
    Value.ref 98, Value.ref 99, Value.int 374 0, Value.int 43 0, Value.str (Str.ofString "/claim/cut.py") 375], #[]⟩) ::
  (nat_lit 101, o101.1) ::
  (nat_lit 103, ⟨Value.type "dict", none, .dict #[dE P "__module__" (361) (Value.str (Str.ofString "io") 366), dE P "__firstlineno__" (365) (Value.int 40 364), dE P "__new__" (376) (Value.ref 105), dE P "__static_attributes__" (377) (Value.ref 102), dE P "__dict__" (380) (Value.ref 106), dE P "__weakref__" (382) (Value.ref 107), dE P "__doc__" (383) (Value.none)] 4, #[]⟩) ::
  (nat_lit 104, ⟨Value.type "type", none, Data.cls
  { name := Str.ofString "IOBase", bases := [Value.type "object"], mro := [Value.ref 104, Value.type "object"],
    ns := 103, qualname := Str.ofString "IOBase", subclasses := [Value.ref 119, Value.ref 131] }, #[none, none, some (Value.str (Str.ofString "IOBase") 354), some (Value.str (Str.ofString "IOBase") 362),
  some Value.none, some (Value.bool true)]⟩) ::
  (nat_lit 105, ⟨Value.type "staticmethod", none, Data.fields #[Value.ref 101], #[]⟩) ::
  (nat_lit 106, ⟨Value.type "getset_descriptor", none, Data.fields
  #[Value.str (Str.ofString "__dict__") 379, Value.ref 104, Value.builtin "function.__dict__",
    Value.builtin "function.__dict__#set"], #[]⟩) ::
  (nat_lit 107, ⟨Value.type "getset_descriptor", none, Data.fields
  #[Value.str (Str.ofString "__weakref__") 381, Value.ref 104, Value.builtin "ExceptionGroup.__weakref__", Value.none], #[]⟩) ::
  (nat_lit 130, ⟨Value.type "dict", none, .dict #[dE P "__module__" (411) (Value.str (Str.ofString "io") 416), dE P "__firstlineno__" (415) (Value.int 49 414), dE P "__static_attributes__" (418) (Value.ref 129), dE P "__doc__" (419) (Value.none)] 2, #[]⟩) ::
  (nat_lit 131, ⟨Value.type "type", none, Data.cls
  { name := Str.ofString "TextIOBase", bases := [Value.ref 104],
    mro := [Value.ref 131, Value.ref 104, Value.type "object"], ns := 130, qualname := Str.ofString "TextIOBase",
    subclasses := [Value.ref 608] }, #[some (Value.ref 122), none, some (Value.str (Str.ofString "TextIOBase") 404),
  some (Value.str (Str.ofString "TextIOBase") 412), some Value.none, some (Value.bool true)]⟩) ::
  (nat_lit 361, ⟨Value.type "type", none, Data.cls
  { name := Str.ofString "BytesIO", bases := [Value.ref 119],
    mro := [Value.ref 361, Value.ref 119, Value.ref 104, Value.type "object"], ns := 360,
    qualname := Str.ofString "BytesIO" }, #[some (Value.ref 134), none, some (Value.str (Str.ofString "BytesIO") 422),
  some (Value.str (Str.ofString "BytesIO") 430), some Value.none, some (Value.bool true)]⟩) ::
  (nat_lit 371, ⟨Value.type "tuple", none, Data.seq #[Value.str (Str.ofString "") 698, Value.str (Str.ofString "\n") 699], #[]⟩) ::
  (nat_lit 377, ⟨Value.type "code", none, Data.fields
  #[Value.str (Str.ofString "__init__") 700, Value.str (Str.ofString "StringIO.__init__") 701,
    Value.str (Str.ofString "/claim/cut.py") 702, Value.int 224 0, Value.int 3 0, Value.int 0 0, Value.int 0 0,
    Value.int 3 0, Value.ref 372, Value.bool true, Value.int 273 0, Value.ref 373, Value.none, Value.ref 374,
    Value.ref 375, Value.ref 376, Value.int 706 0, Value.int 224 0, Value.str (Str.ofString "/claim/cut.py") 707], #[]⟩) ::
  (nat_lit 378, o378.1) ::
  (nat_lit 384, ⟨Value.type "code", none, Data.fields
  #[Value.str (Str.ofString "__translated") 709, Value.str (Str.ofString "StringIO.__translated") 710,
    Value.str (Str.ofString "/claim/cut.py") 711, Value.int 237 0, Value.int 2 0, Value.int 0 0, Value.int 0 0,
    Value.int 3 0, Value.ref 379, Value.bool true, Value.int 273 0, Value.ref 380, Value.none, Value.ref 381,
    Value.ref 382, Value.ref 383, Value.int 715 0, Value.int 237 0, Value.str (Str.ofString "/claim/cut.py") 716], #[]⟩) ::
  (nat_lit 385, o385.1) ::
  (nat_lit 391, ⟨Value.type "code", none, Data.fields
  #[Value.str (Str.ofString "__check") 718, Value.str (Str.ofString "StringIO.__check") 719,
    Value.str (Str.ofString "/claim/cut.py") 720, Value.int 245 0, Value.int 1 0, Value.int 0 0, Value.int 0 0,
    Value.int 3 0, Value.ref 386, Value.bool true, Value.int 273 0, Value.ref 387, Value.none, Value.ref 388,
    Value.ref 389, Value.ref 390, Value.int 722 0, Value.int 245 0, Value.str (Str.ofString "/claim/cut.py") 723], #[]⟩) ::
  (nat_lit 392, o392.1) ::
  (nat_lit 405, ⟨Value.type "code", none, Data.fields
  #[Value.str (Str.ofString "__line") 732, Value.str (Str.ofString "StringIO.__line") 733,
    Value.str (Str.ofString "/claim/cut.py") 734, Value.int 253 0, Value.int 2 0, Value.int 0 0, Value.int 0 0,
    Value.int 3 0, Value.ref 400, Value.bool true, Value.int 273 0, Value.ref 401, Value.none, Value.ref 402,
    Value.ref 403, Value.ref 404, Value.int 744 0, Value.int 253 0, Value.str (Str.ofString "/claim/cut.py") 745], #[]⟩) ::
  (nat_lit 406, o406.1) ::
  (nat_lit 452, ⟨Value.type "code", none, Data.fields
  #[Value.str (Str.ofString "close") 787, Value.str (Str.ofString "StringIO.close") 788,
    Value.str (Str.ofString "/claim/cut.py") 789, Value.int 305 0, Value.int 1 0, Value.int 0 0, Value.int 0 0,
    Value.int 3 0, Value.ref 447, Value.bool true, Value.int 273 0, Value.ref 448, Value.none, Value.ref 449,
    Value.ref 450, Value.ref 451, Value.int 791 0, Value.int 305 0, Value.str (Str.ofString "/claim/cut.py") 792], #[]⟩) ::
  (nat_lit 453, o453.1) ::
  (nat_lit 547, ⟨Value.type "tuple", none, Data.seq #[Value.int (-1) 891], #[]⟩) ::
  (nat_lit 553, ⟨Value.type "code", none, Data.fields
  #[Value.str (Str.ofString "read") 892, Value.str (Str.ofString "StringIO.read") 893,
    Value.str (Str.ofString "/claim/cut.py") 894, Value.int 367 0, Value.int 2 0, Value.int 2 0, Value.int 0 0,
    Value.int 3 0, Value.ref 548, Value.bool true, Value.int 273 0, Value.ref 549, Value.none, Value.ref 550,
    Value.ref 551, Value.ref 552, Value.int 899 0, Value.int 367 0, Value.str (Str.ofString "/claim/cut.py") 900], #[]⟩) ::
  (nat_lit 554, o554.1) ::
  (nat_lit 555, ⟨Value.type "tuple", none, Data.seq #[Value.int (-1) 903], #[]⟩) ::
  (nat_lit 561, ⟨Value.type "code", none, Data.fields
  #[Value.str (Str.ofString "readline") 904, Value.str (Str.ofString "StringIO.readline") 905,
    Value.str (Str.ofString "/claim/cut.py") 906, Value.int 381 0, Value.int 2 0, Value.int 2 0, Value.int 0 0,
    Value.int 3 0, Value.ref 556, Value.bool true, Value.int 273 0, Value.ref 557, Value.none, Value.ref 558,
    Value.ref 559, Value.ref 560, Value.int 909 0, Value.int 381 0, Value.str (Str.ofString "/claim/cut.py") 910], #[]⟩) ::
  (nat_lit 562, o562.1) ::
  (nat_lit 607, ⟨Value.type "dict", none, .dict #[dE P "__module__" (691) (Value.str (Str.ofString "_io") 696), dE P "__firstlineno__" (695) (Value.int 221 694), dE P "__init__" (708) (Value.ref 378), dE P "_StringIO__translated" (717) (Value.ref 385), dE P "_StringIO__check" (724) (Value.ref 392), dE P "_StringIO__check_dot" (731) (Value.ref 399), dE P "_StringIO__line" (746) (Value.ref 406), dE P "closed" (754) (Value.ref 414), dE P "line_buffering" (762) (Value.ref 422), dE P "newlines" (770) (Value.ref 430), dE P "encoding" (778) (Value.ref 438), dE P "errors" (786) (Value.ref 446), dE P "close" (793) (Value.ref 453), dE P "__enter__" (800) (Value.ref 460), dE P "__exit__" (808) (Value.ref 467), dE P "readable" (815) (Value.ref 474), dE P "writable" (822) (Value.ref 481), dE P "seekable" (829) (Value.ref 488), dE P "isatty" (836) (Value.ref 495), dE P "flush" (843) (Value.ref 502), dE P "fileno" (850) (Value.ref 509), dE P "detach" (857) (Value.ref 516), dE P "getvalue" (864) (Value.ref 523), dE P "tell" (871) (Value.ref 530), dE P "seek" (881) (Value.ref 538), dE P "truncate" (889) (Value.ref 546), dE P "read" (901) (Value.ref 554), dE P "readline" (911) (Value.ref 562), dE P "readlines" (921) (Value.ref 570), dE P "__iter__" (928) (Value.ref 577), dE P "__next__" (936) (Value.ref 584), dE P "write" (948) (Value.ref 591), dE P "writelines" (956) (Value.ref 598), dE P "__repr__" (963) (Value.ref 605), dE P "__static_attributes__" (967) (Value.ref 606), dE P "__doc__" (968) (Value.none)] 2, #[]⟩) ::
  (nat_lit 608, ⟨Value.type "type", none, Data.cls
  { name := Str.ofString "StringIO", bases := [Value.ref 131],
    mro := [Value.ref 608, Value.ref 131, Value.ref 104, Value.type "object"], ns := 607,
    qualname := Str.ofString "StringIO" }, #[some (Value.ref 364), none, some (Value.str (Str.ofString "StringIO") 684),
  some (Value.str (Str.ofString "StringIO") 692), some Value.none, some (Value.bool true)]⟩) ::
  (nat_lit 660, ⟨Value.type "tuple", none, Data.seq #[Value.none, Value.none, Value.bool false, Value.bool false], #[]⟩) ::
  (nat_lit 666, ⟨Value.type "code", none, Data.fields
  #[Value.str (Str.ofString "__init__") 1043, Value.str (Str.ofString "shlex.__init__") 1044,
    Value.str (Str.ofString "/claim/cut.py") 1045, Value.int 492 0, Value.int 5 0, Value.int 0 0, Value.int 0 0,
    Value.int 3 0, Value.ref 661, Value.bool true, Value.int 273 0, Value.ref 662, Value.none, Value.ref 663,
    Value.ref 664, Value.ref 665, Value.int 1052 0, Value.int 492 0, Value.str (Str.ofString "/claim/cut.py") 1053], #[]⟩) ::
  (nat_lit 667, o667.1) ::
  (nat_lit 673, ⟨Value.type "code", none, Data.fields
  #[Value.str (Str.ofString "punctuation_chars") 1055, Value.str (Str.ofString "shlex.punctuation_chars") 1056,
    Value.str (Str.ofString "/claim/cut.py") 1057, Value.int 533 0, Value.int 1 0, Value.int 0 0, Value.int 0 0,
    Value.int 3 0, Value.ref 668, Value.bool true, Value.int 273 0, Value.ref 669, Value.none, Value.ref 670,
    Value.ref 671, Value.ref 672, Value.int 1059 0, Value.int 533 0, Value.str (Str.ofString "/claim/cut.py") 1060], #[]⟩) ::
  (nat_lit 674, o674.1) ::
  (nat_lit 675, ⟨Value.type "property", none, Data.fields
  #[Value.ref 674, Value.none, Value.none, Value.none, Value.str (Str.ofString "punctuation_chars") 1062,
    Value.bool false], #[]⟩) ::
  (nat_lit 683, ⟨Value.type "tuple", none, Data.seq #[Value.none], #[]⟩) ::
  (nat_lit 689, ⟨Value.type "code", none, Data.fields
  #[Value.str (Str.ofString "push_source") 1071, Value.str (Str.ofString "shlex.push_source") 1072,
    Value.str (Str.ofString "/claim/cut.py") 1073, Value.int 540 0, Value.int 3 0, Value.int 0 0, Value.int 0 0,
    Value.int 3 0, Value.ref 684, Value.bool true, Value.int 273 0, Value.ref 685, Value.none, Value.ref 686,
    Value.ref 687, Value.ref 688, Value.int 1077 0, Value.int 540 0, Value.str (Str.ofString "/claim/cut.py") 1078], #[]⟩) ::
  (nat_lit 690, o690.1) ::
  (nat_lit 696, ⟨Value.type "code", none, Data.fields
  #[Value.str (Str.ofString "pop_source") 1080, Value.str (Str.ofString "shlex.pop_source") 1081,
    Value.str (Str.ofString "/claim/cut.py") 1082, Value.int 553 0, Value.int 1 0, Value.int 0 0, Value.int 0 0,
    Value.int 3 0, Value.ref 691, Value.bool true, Value.int 273 0, Value.ref 692, Value.none, Value.ref 693,
    Value.ref 694, Value.ref 695, Value.int 1084 0, Value.int 553 0, Value.str (Str.ofString "/claim/cut.py") 1085], #[]⟩) ::
  (nat_lit 697, o697.1) ::
  (nat_lit 703, ⟨Value.type "code", none, Data.fields
  #[Value.str (Str.ofString "get_token") 1087, Value.str (Str.ofString "shlex.get_token") 1088,
    Value.str (Str.ofString "/claim/cut.py") 1089, Value.int 560 0, Value.int 1 0, Value.int 0 0, Value.int 0 0,
    Value.int 3 0, Value.ref 698, Value.bool true, Value.int 273 0, Value.ref 699, Value.none, Value.ref 700,
    Value.ref 701, Value.ref 702, Value.int 1096 0, Value.int 560 0, Value.str (Str.ofString "/claim/cut.py") 1097], #[]⟩) ::
  (nat_lit 704, o704.1) ::
  (nat_lit 710, ⟨Value.type "code", none, Data.fields
  #[Value.str (Str.ofString "read_token") 1099, Value.str (Str.ofString "shlex.read_token") 1100,
    Value.str (Str.ofString "/claim/cut.py") 1101, Value.int 587 0, Value.int 1 0, Value.int 0 0, Value.int 0 0,
    Value.int 3 0, Value.ref 705, Value.bool true, Value.int 273 0, Value.ref 706, Value.none, Value.ref 707,
    Value.ref 708, Value.ref 709, Value.int 1107 0, Value.int 587 0, Value.str (Str.ofString "/claim/cut.py") 1108], #[]⟩) ::
  (nat_lit 711, o711.1) ::
  (nat_lit 718, o718.1) ::
  (nat_lit 742, ⟨Value.type "dict", none, .dict #[dE P "__module__" (1038) (Value.str (Str.ofString "cpy313.shlex") 1029), dE P "__firstlineno__" (1042) (Value.int 490 1041), dE P "__init__" (1054) (Value.ref 667), dE P "punctuation_chars" (1062) (Value.ref 675), dE P "push_token" (1070) (Value.ref 682), dE P "push_source" (1079) (Value.ref 690), dE P "pop_source" (1086) (Value.ref 697), dE P "get_token" (1098) (Value.ref 704), dE P "read_token" (1109) (Value.ref 711), dE P "sourcehook" (1117) (Value.ref 718), dE P "error_leader" (1126) (Value.ref 726), dE P "__iter__" (1133) (Value.ref 733), dE P "__next__" (1141) (Value.ref 740), dE P "__static_attributes__" (1162) (Value.ref 741), dE P "__dict__" (1164) (Value.ref 744), dE P "__weakref__" (1166) (Value.ref 745), dE P "__doc__" (1167) (Value.none)] 4, #[]⟩) ::
  (nat_lit 743, ⟨Value.type "type", none, Data.cls
  { name := Str.ofString "shlex", bases := [Value.type "object"], mro := [Value.ref 743, Value.type "object"],
    ns := 742, qualname := Str.ofString "shlex" }, #[none, none, some (Value.str (Str.ofString "shlex") 1031), some (Value.str (Str.ofString "shlex") 1039),
  some (Value.builtin "object.__new__"), some (Value.bool true)]⟩) ::
  (nat_lit 744, ⟨Value.type "getset_descriptor", none, Data.fields
  #[Value.str (Str.ofString "__dict__") 1163, Value.ref 743, Value.builtin "function.__dict__",
    Value.builtin "function.__dict__#set"], #[]⟩) ::
  (nat_lit 745, ⟨Value.type "getset_descriptor", none, Data.fields
  #[Value.str (Str.ofString "__weakref__") 1165, Value.ref 743, Value.builtin "ExceptionGroup.__weakref__", Value.none], #[]⟩) ::
  (nat_lit 753, ⟨Value.type "code", none, Data.fields
  #[Value.str (Str.ofString "_law_words") 1172, Value.str (Str.ofString "_law_words") 1173,
    Value.str (Str.ofString "/claim/cut.py") 1174, Value.int 743 0, Value.int 1 0, Value.int 0 0, Value.int 0 0,
    Value.int 3 0, Value.ref 748, Value.bool true, Value.int 273 0, Value.ref 749, Value.none, Value.ref 750,
    Value.ref 751, Value.ref 752, Value.int 1179 0, Value.int 743 0, Value.str (Str.ofString "/claim/cut.py") 1180], #[]⟩) ::
  (nat_lit 754, o754.1) ::
  (nat_lit 760, ⟨Value.type "code", none, Data.fields
  #[Value.str (Str.ofString "_law_spelled") 1182, Value.str (Str.ofString "_law_spelled") 1183,
    Value.str (Str.ofString "/claim/cut.py") 1184, Value.int 749 0, Value.int 2 0, Value.int 0 0, Value.int 0 0,
    Value.int 3 0, Value.ref 755, Value.bool true, Value.int 273 0, Value.ref 756, Value.none, Value.ref 757,
    Value.ref 758, Value.ref 759, Value.int 1187 0, Value.int 749 0, Value.str (Str.ofString "/claim/cut.py") 1188], #[]⟩) ::
  (nat_lit 761, o761.1) ::
  (nat_lit 767, ⟨Value.type "code", none, Data.fields
  #[Value.str (Str.ofString "_law_octet") 1190, Value.str (Str.ofString "_law_octet") 1191,
    Value.str (Str.ofString "/claim/cut.py") 1192, Value.int 751 0, Value.int 1 0, Value.int 0 0, Value.int 0 0,
    Value.int 3 0, Value.ref 762, Value.bool true, Value.int 273 0, Value.ref 763, Value.none, Value.ref 764,
    Value.ref 765, Value.ref 766, Value.int 1194 0, Value.int 751 0, Value.str (Str.ofString "/claim/cut.py") 1195], #[]⟩) ::
  (nat_lit 768, o768.1) ::
  (nat_lit 774, ⟨Value.type "code", none, Data.fields
  #[Value.str (Str.ofString "_law_gathered") 1197, Value.str (Str.ofString "_law_gathered") 1198,
    Value.str (Str.ofString "/claim/cut.py") 1199, Value.int 753 0, Value.int 2 0, Value.int 0 0, Value.int 0 0,
    Value.int 3 0, Value.ref 769, Value.bool true, Value.int 273 0, Value.ref 770, Value.none, Value.ref 771,
    Value.ref 772, Value.ref 773, Value.int 1204 0, Value.int 753 0, Value.str (Str.ofString "/claim/cut.py") 1205], #[]⟩) ::
  (nat_lit 775, o775.1) ::
  (nat_lit 779, ⟨Value.type "code", none, Data.fields
  #[Value.str (Str.ofString "_law_hook") 1207, Value.str (Str.ofString "_law_hook") 1208,
    Value.str (Str.ofString "/claim/cut.py") 1209, Value.int 761 0, Value.int 2 0, Value.int 0 0, Value.int 0 0,
    Value.int 3 0, Value.ref 776, Value.bool true, Value.int 273 0, Value.ref 777, Value.none, Value.none, Value.none,
    Value.ref 778, Value.int 1210 0, Value.int 761 0, Value.str (Str.ofString "/claim/cut.py") 1211], #[]⟩) ::
  (nat_lit 780, o780.1) ::
  (nat_lit 786, ⟨Value.type "code", none, Data.fields
  #[Value.str (Str.ofString "_law_lexer") 1213, Value.str (Str.ofString "_law_lexer") 1214,
    Value.str (Str.ofString "/claim/cut.py") 1215, Value.int 765 0, Value.int 1 0, Value.int 0 0, Value.int 0 0,
    Value.int 3 0, Value.ref 781, Value.bool true, Value.int 273 0, Value.ref 782, Value.none, Value.ref 783,
    Value.ref 784, Value.ref 785, Value.int 1218 0, Value.int 765 0, Value.str (Str.ofString "/claim/cut.py") 1219], #[]⟩) ::
  (nat_lit 787, o787.1) ::
  (nat_lit 793, ⟨Value.type "code", none, Data.fields
  #[Value.str (Str.ofString "_law_told") 1221, Value.str (Str.ofString "_law_told") 1222,
    Value.str (Str.ofString "/claim/cut.py") 1223, Value.int 771 0, Value.int 1 0, Value.int 0 0, Value.int 0 0,
    Value.int 3 0, Value.ref 788, Value.bool true, Value.int 273 0, Value.ref 789, Value.none, Value.ref 790,
    Value.ref 791, Value.ref 792, Value.int 1228 0, Value.int 771 0, Value.str (Str.ofString "/claim/cut.py") 1229], #[]⟩) ::
  (nat_lit 794, o794.1) ::
  (nat_lit 798, ⟨Value.type "code", none, Data.fields
  #[Value.str (Str.ofString "_law_laid") 1231, Value.str (Str.ofString "_law_laid") 1232,
    Value.str (Str.ofString "/claim/cut.py") 1233, Value.int 780 0, Value.int 1 0, Value.int 0 0, Value.int 0 0,
    Value.int 3 0, Value.ref 795, Value.bool true, Value.int 273 0, Value.ref 796, Value.none, Value.none, Value.none,
    Value.ref 797, Value.int 1234 0, Value.int 780 0, Value.str (Str.ofString "/claim/cut.py") 1235], #[]⟩) ::
  (nat_lit 799, o799.1) ::
  (nat_lit 805, ⟨Value.type "code", none, Data.fields
  #[Value.str (Str.ofString "_law_refusal") 1237, Value.str (Str.ofString "_law_refusal") 1238,
    Value.str (Str.ofString "/claim/cut.py") 1239, Value.int 783 0, Value.int 1 0, Value.int 0 0, Value.int 0 0,
    Value.int 3 0, Value.ref 800, Value.bool true, Value.int 273 0, Value.ref 801, Value.none, Value.ref 802,
    Value.ref 803, Value.ref 804, Value.int 1244 0, Value.int 783 0, Value.str (Str.ofString "/claim/cut.py") 1245], #[]⟩) ::
  (nat_lit 806, o806.1) ::
  (nat_lit 812, ⟨Value.type "code", none, Data.fields
  #[Value.str (Str.ofString "_law_rewritten") 1247, Value.str (Str.ofString "_law_rewritten") 1248,
    Value.str (Str.ofString "/claim/cut.py") 1249, Value.int 789 0, Value.int 1 0, Value.int 0 0, Value.int 0 0,
    Value.int 3 0, Value.ref 807, Value.bool true, Value.int 273 0, Value.ref 808, Value.none, Value.ref 809,
    Value.ref 810, Value.ref 811, Value.int 1258 0, Value.int 789 0, Value.str (Str.ofString "/claim/cut.py") 1259], #[]⟩) ::
  (nat_lit 813, o813.1) ::
  (nat_lit 817, ⟨Value.type "code", none, Data.fields
  #[Value.str (Str.ofString "law") 1261, Value.str (Str.ofString "law") 1262,
    Value.str (Str.ofString "/claim/cut.py") 1263, Value.int 812 0, Value.int 1 0, Value.int 0 0, Value.int 0 0,
    Value.int 3 0, Value.ref 814, Value.bool true, Value.int 273 0, Value.ref 815, Value.none, Value.none, Value.none,
    Value.ref 816, Value.int 1264 0, Value.int 812 0, Value.str (Str.ofString "/claim/cut.py") 1265], #[]⟩) ::
  (nat_lit 818, o818.1) :: []
noncomputable def asK : List Addr := [2, 3, 45, 46, 52, 53, 59, 60, 73, 74, 100, 101, 103, 104, 105, 106, 107, 130, 131, 361, 371, 377, 378, 384, 385, 391, 392, 405, 406, 452, 453, 547, 553, 554, 555, 561, 562, 607, 608, 660, 666, 667, 673, 674, 675, 683, 689, 690, 696, 697, 703, 704, 710, 711, 718, 742, 743, 744, 745, 753, 754, 760, 761, 767, 768, 774, 775, 779, 780, 786, 787, 793, 794, 798, 799, 805, 806, 812, 813, 817, 818]
noncomputable def qb : { b : List Stmt // ([0, 1, 3, 4, 5, 7, 8, 9, 10, 11, 12, 13, 14, 16, 17, 18, 19, 20, 21, 23, 25, 26, 27, 28, 29, 30, 31, 32, 33, 34, 35] : List Nat).filterMap (fun i => bd[i]?) = b } := ⟨[_, _, _, _, _, _, _, _, _, _, _, _, _, _, _, _, _, _, _, _, _, _, _, _, _, _, _, _, _, _, _], rfl⟩
noncomputable def q1 : Program := { PySem.Challenge.pw_in0151_02 with main := { PySem.Challenge.pw_in0151_02.main with body := qb.1 } }
noncomputable def loose1 : List Str := [Str.ofString "UnsupportedOperation", Str.ofString "IOBase", Str.ofString "BufferedIOBase", Str.ofString "TextIOBase", Str.ofString "BytesIO", Str.ofString "StringIO", Str.ofString "shlex"]
noncomputable abbrev hook : Hook := kmHook KK asK (fun _ => by kernel_rfl) [782]
end Mine

namespace Mine
noncomputable def runT (stp : SharedT → Thread → Option (SharedT × Thread)) (ok thr : Thread → Bool) : Nat → SharedT → Thread → Option SharedT
  | 0, _, _ => none
  | n + 1, s, t => match thr t with
    | true => some s
    | false => match ok t with
      | false => none
      | true => match stp s t with
        | some (s', t') => runT stp ok thr n s' t'
        | none => none
theorem runT_spec {p : Program} {w : World} {n₀ : Nat} {ann : Option Value} {tb : String → Option Builtin} : ∀ (n : Nat) (s : SharedT) (t : Thread) (s' : SharedT), runT (stepT (denote tb) p w) (stepOk n₀ ann) through n s t = some s' → topRun tb p w n₀ ann n s.abs t = some s'.abs
  | 0, _, _, _, h => by cases h
  | n + 1, s, t, s', h => by
    unfold runT at h
    unfold topRun
    cases ht : through t with
    | true => rw [ht] at h; cases h; rfl
    | false =>
      rw [ht] at h
      cases hk : stepOk n₀ ann t with
      | false => rw [hk] at h; cases h
      | true =>
        rw [hk] at h
        cases hs : stepT (denote tb) p w s t with
        | none => rw [hs] at h; cases h
        | some r =>
          obtain ⟨s₂, t₂⟩ := r
          rw [hs] at h
          rw [stepT_spec hs]
          exact runT_spec n s₂ t₂ s' h
noncomputable def growT : List Obj → BT → Nat → Option BT
  | [], t, _ => some t
  | o :: l, t, n => match ((t.ins n o).get n).isSome with
    | true => growT l (t.ins n o) (n + 1)
    | false => none
theorem growT_spec {life : Life} : ∀ (l : List Obj) (t t' : BT) (n : Nat), growT l t n = some t' → absHeap t' (n + l.length) life = ⟨(absHeap t n life).objs ++ l.toArray, life⟩
  | [], t, t', n, h => by cases h; show absHeap t n life = _; unfold absHeap; simp
  | o :: l, t, t', n, h => by
    unfold growT at h
    cases e : ((t.ins n o).get n).isSome with
    | false => rw [e] at h; cases h
    | true =>
      rw [e] at h
      have a := growT_spec (life := life) l (t.ins n o) t' (n + 1) h
      rw [absHeap_ins e] at a
      rw [List.length_cons, show n + (l.length + 1) = n + 1 + l.length by omega, a]
      unfold Heap.push
      simp
theorem growT_heap {h : Heap} {t : BT} (e : growT h.objs.toList .nil 0 = some t) : absHeap t h.objs.size h.life = h := by
  have a := growT_spec (life := h.life) _ _ _ _ e
  obtain ⟨objs, life⟩ := h
  rw [Nat.zero_add, Array.length_toList] at a
  rw [a]
  unfold absHeap BT.list
  simp
theorem left_of {p q : Program} {loose : List Str} {Xt : Shared → Bool} {α : Type} {Yf : Shared → α} {Ya : World → α} {N : Nat} {g0 : Bool}
    (h : ∀ w : World, ((fencedOpening treeTable p w N).bind fun s₀ => (growT s₀.heap.objs.toList .nil 0).bind fun t =>
      (runT (stepT (denote treeTable) p w) (stepOk s₀.heap.objs.size (s₀.heap.nsMap mainGlobals "__annotations__")) through N ⟨t, s₀.heap.objs.size, s₀.heap.life, s₀.gens, s₀.drawn, s₀.toks, s₀.os⟩ (topStub p)).map fun s₁ =>
        (s₀.heap.isNs mainGlobals && s₀.gens.size == 0, staticsOk (importedModules p.main.body) s₀.heap s₁.abs.heap && namesBound p s₁.abs.heap && gensDone s₁.abs && laidKept s₀.heap s₁.abs.heap, openSeen q loose (importedModules p.main.body) Xt g0 s₁.abs, Yf s₁.abs)) =
      some (true, true, openGood q loose, Ya w)) : LeftO p q loose Xt Yf Ya N g0 := fun w => by
  obtain ⟨s₀, e0, h⟩ := Option.bind_eq_some_iff.mp (h w)
  obtain ⟨t, e1, h⟩ := Option.bind_eq_some_iff.mp h
  obtain ⟨s₁, e2, h⟩ := Option.map_eq_some_iff.mp h
  simp only [Prod.mk.injEq] at h
  obtain ⟨a, b, c, d⟩ := h
  have r := runT_spec _ _ _ _ e2
  have e : (SharedT.abs ⟨t, s₀.heap.objs.size, s₀.heap.life, s₀.gens, s₀.drawn, s₀.toks, s₀.os⟩) = s₀ := by
    unfold SharedT.abs
    dsimp only
    rw [growT_heap e1]
  rw [e] at r
  unfold openEnds
  rw [e0]
  show (topFrom treeTable p w N s₀).map _ = _
  unfold topFrom
  rw [a]
  show ((topRun _ _ _ _ _ _ _ _).bind _).map _ = _
  rw [r]
  show (match _ with | true => some s₁.abs | false => none : Option Shared).map _ = _
  rw [b]
  exact congrArg some (Prod.ext c d)
end Mine

namespace Mine
open PySem.W
theorem left1 : LeftO PySem.Challenge.rw_in0151_02.row.toRowW.prog q1 loose1 (fun s => xlAt q1 [] s && recOk (RowW.records PySem.Challenge.rw_in0151_02.row.toRowW) s) hook.obs hook.val 10374 := by
  refine left_of ?_
  rw [PySem.W.Fast.te14364793385576792824, PySem.W.Fast.te10156331382660048174, PySem.W.Fast.te11892475500146522536, PySem.W.Fast.te6613529449190102663, PySem.W.Fast.te8920871248978507458, PySem.W.Fast.te5923862056798008813, PySem.W.Fast.te4187177175401517315]
  intro w
  kernel_rfl
theorem well1 : PySem.Challenge.rw_in0151_02.wellSaid = true := (congrFun PySem.W.Fast.te9446332074065402090 _).trans (by kernel_rfl)
end Mine

namespace Mine
noncomputable def Halt (P : Prop) : Prop := P
theorem Halt.out {P : Prop} (h : Halt P) : P := h
end Mine
namespace Mine
theorem o_a {x a b : Nat} (h : x < a) (e : Nat.ble a b = true) : x < b := Nat.lt_of_lt_of_le h (Nat.le_of_ble_eq_true e)
theorem o_b {x a b : Nat} (h : x < a) (e : Nat.ble a (b + 1) = true) : x ≤ b := Nat.le_of_lt_succ (o_a h e)
theorem o_c {x a b : Nat} (h : x ≤ a) (e : Nat.ble a b = true) : x ≤ b := Nat.le_trans h (Nat.le_of_ble_eq_true e)
theorem o_d {x a b : Nat} (h : x ≤ a) (e : Nat.ble (a + 1) b = true) : x < b := Nat.lt_of_le_of_lt h (Nat.le_of_ble_eq_true e)
theorem o_e {x a b : Nat} (h : b ≤ x) (e : Nat.ble a b = true) : a ≤ x := Nat.le_trans (Nat.le_of_ble_eq_true e) h
theorem o_f {x k n : Nat} (h : x = k) (e : Nat.ble n k = true) : n ≤ x := h ▸ Nat.le_of_ble_eq_true e
theorem o_g {x y a b : Nat} (h : x + y < a) (e : Nat.ble a b = true) : x < b := o_a (Nat.lt_of_le_of_lt (Nat.le_add_right x y) h) e
theorem o_h {x y z a b : Nat} (h : x + y < a) (e : Nat.ble (a + z) (b + 1) = true) : x + z ≤ b := Nat.le_of_lt_succ (o_a (Nat.add_lt_add_right (Nat.lt_of_le_of_lt (Nat.le_add_right x y) h) z) e)
theorem o_i {p r : Nat} (h : p ≤ r) (g : r ≤ p) : p = r := Nat.le_antisymm h g
theorem o_j {p r : Nat} (h : p + 1 ≤ r) (g : r ≤ p) : False := Nat.not_succ_le_self _ (Nat.le_trans h g)
theorem o_k {p r : Nat} (h : p ≤ r) (g : ¬p < r) : p = r := Nat.le_antisymm h (Nat.ge_of_not_lt g)
theorem o_l {p r : Nat} (g : ¬p < r) : r ≤ p := Nat.ge_of_not_lt g
theorem o_m {p r : Nat} (h : p ≤ r) (g : p ≠ r) : p < r := Nat.lt_of_le_of_ne h g
theorem o_n {p r : Nat} (g : p = r) : r ≤ p := Nat.le_of_eq g.symm
theorem o_o {p r : Nat} (g : (p : Int) ≥ r) (h : p < r) : False := absurd (Int.ofNat_lt.mpr h) (Int.not_lt.mpr g)
theorem o_p {p r : Nat} (g : (p : Int) = r) (h : p < r) : False := Nat.ne_of_lt h (Int.ofNat.inj g)
theorem o_q {p r : Nat} (g : (p : Int) > r) (h : p < r) : False := absurd (Int.ofNat_lt.mp g) (Nat.not_lt.mpr (Nat.le_of_lt h))
theorem o_r {p r : Nat} (g : (p : Int) < r) (h : ¬p < r) : False := h (Int.ofNat_lt.mp g)
theorem o_s {p r d : Nat} (h : r - p = d + 1) : p + 1 ≤ r := by omega
theorem o_t {p r d : Nat} (h : r - p = d + 1) : p < r := by omega
theorem o_u {p r d : Nat} (h : r - p = d + 1) (g : ¬p < r) : False := g (o_t h)
theorem o_v {p r q : Nat} (h : p < r) (g : p < q) (g2 : q ≤ r) : r - q < r - p := by omega
theorem o_w {p r : Nat} (h : p < r) : r - (p + 1) < r - p := by omega
theorem o_x {a b c : Nat} (h : a < b) (g : b < c) : a < c := Nat.lt_trans h g
theorem o_y {t p r a : Nat} (h : p + 1 ≤ r) (g : t + 2 * (r - p) < a) : t + (0 + 1) + 2 * (r - (p + 1)) < a := by omega
theorem o_z {t p r a : Nat} (h : p + 1 ≤ r) (g : t + 2 * (r - p) < a) : t + 2 * (r - (p + 1)) < a := by omega
theorem o_y2 {t p r a : Nat} (h : p + 1 ≤ r) (g : t + 2 * (r - p) < a) : t + (0 + 1) + (0 + 1) + 2 * (r - (p + 1)) < a := by omega
theorem o_1 {p r a b : Nat} (h : r < a) (e : Nat.ble (2 * a + 1) b = true) : 0 + 2 * (r - p) < b := by have := Nat.le_of_ble_eq_true e; omega
theorem o_2 {p r a b : Nat} (h : r < a) (e : Nat.ble (2 * a + 2) b = true) : 0 + 1 + 2 * (r - p) < b := by have := Nat.le_of_ble_eq_true e; omega
theorem o_3 {d a b m : Nat} (h : d + a < m) (e : Nat.ble b a = true) : d + b < m := Nat.lt_of_le_of_lt (Nat.add_le_add_left (Nat.le_of_ble_eq_true e) d) h
theorem o_4 {d a b c m : Nat} (h : d + a < m) (e : Nat.ble (b + c) a = true) : d + b + c < m := Nat.add_assoc d b c ▸ o_3 h e
theorem o_5 {d a m : Nat} (h : d + a < m) : d < m := Nat.lt_of_le_of_lt (Nat.le_add_right d a) h
theorem o_6 {d a b c f m : Nat} (h : d + a < m) (e : Nat.ble (b + c + f) a = true) : d + b + c + f < m := by have := Nat.le_of_ble_eq_true e; omega
theorem o_7 {d a b c f k m : Nat} (h : d + a < m) (e : Nat.ble (b + c + f + k) a = true) : d + b + c + f + k < m := by have := Nat.le_of_ble_eq_true e; omega
theorem o_8 {x : Nat} {a : Nat} {b : Int} (h : x < a) (e : decide ((a : Int) ≤ b) = true) : (x : Int) < b := Int.lt_of_lt_of_le (Int.ofNat_lt.mpr h) (of_decide_eq_true e)
theorem o_9 {x a b : Int} (h : x < a) (e : decide (a ≤ b) = true) : x < b := Int.lt_of_lt_of_le h (of_decide_eq_true e)
theorem o_10 {x a b : Int} (h : a ≤ x) (e : decide (b ≤ a) = true) : b ≤ x := Int.le_trans (of_decide_eq_true e) h
theorem o_11 {p r q : Nat} (h : p ≤ r) (g : q ≤ p) : q ≤ r := Nat.le_trans g h
theorem o_12 {x a b c : Nat} (h : x ≤ c) (g : c < a) (e : Nat.ble a b = true) : x < b := o_a (Nat.lt_of_le_of_lt h g) e
theorem o_13 {x a b c : Nat} (h : x ≤ c) (g : c < a) (e : Nat.ble a (b + 1) = true) : x ≤ b := Nat.le_of_lt_succ (o_12 h g e)
theorem o_14 {x a b c : Nat} (h : x = c) (g : c < a) (e : Nat.ble a b = true) : x < b := h ▸ o_a g e
theorem o_15 {x a b c : Nat} (h : x = c) (g : c < a) (e : Nat.ble a (b + 1) = true) : x ≤ b := h ▸ o_b g e
theorem o_16 {x a b : Nat} (g : x ≤ a) (h : a ≤ b) : x ≤ b + 1 := Nat.le_succ_of_le (Nat.le_trans g h)
theorem o_17 {x b : Nat} (h : x ≤ b) : x ≤ b + 1 := Nat.le_succ_of_le h
theorem o_18 {p q r : Nat} (h : p = r) (g : q < r) : q < p := h ▸ g
theorem o_19 {x y a b : Nat} (h : (x : Int) < y) (g : y < a) (e : Nat.ble a b = true) : x < b := o_a (Nat.lt_trans (Int.ofNat_lt.mp h) g) e
theorem o_20 {p r : Nat} (h : p < r) : p + 2 ≤ r + 1 := Nat.succ_le_succ h
theorem o_21 {p r : Nat} (h : p < r) : p + 1 ≤ r + 1 := Nat.succ_le_succ (Nat.le_of_lt h)
theorem o_22 {p r : Nat} (h : p + 1 ≤ r) : p + 1 ≤ r + 2 := Nat.le_trans h (Nat.le_add_right r 2)
theorem o_23 {p r : Nat} (h : p < r) : r + 1 - (p + 1) < r + 1 - p := by omega
theorem o_24 {p r : Nat} (h : p < r) : r + 1 - (p + 2) < r + 1 - p := by omega
theorem o_25 {p r : Nat} (h : p ≤ r + 1) (g : ¬p < r) (k : ¬r < p) : p = r := Nat.le_antisymm (Nat.ge_of_not_lt k) (Nat.ge_of_not_lt g)
theorem o_26 {p r : Nat} (h : p ≤ r + 1) (g : ¬p < r) (k : ¬r < p) : (p : Int) = r := congrArg Nat.cast (o_25 h g k)
theorem o_27 {p r : Nat} (g : (p : Int) > r) (h : ¬r < p) : False := h (Int.ofNat_lt.mp g)
theorem o_28 {p r d : Nat} (h : r - p = d + 1 + 1) : p + 2 ≤ r := by omega
theorem o_29 {p r : Nat} (h : p + 1 ≤ r) : (p : Int) < r := Int.ofNat_lt.mpr h
theorem o_30 {p r q : Nat} (h : p < r) (g : r - p = 0) : False := by omega
theorem o_31 {a : Nat} (h : (a : Int) < 0) : False := absurd h (Int.not_lt.mpr (Int.natCast_nonneg a))
structure Bk (Q : Flow → Shared → Prop) (fl : Flow) (s : Shared) : Prop where
  mk ::
  out : Q fl s
theorem genB {M : Model} {A : Around} {t : Sem Flow} {Q : Flow → Shared → Prop} {E : Value → Shared → Prop} {s : Shared} (h : ∀ Q1 : Flow → Shared → Prop, (∀ fl s', Q fl s' → Bk Q1 fl s') → wpAny M A t (Bk Q1) E s) : wpAny M A t Q E s :=
  wpAny_mono (h Q fun _ _ q => ⟨q⟩) (fun _ _ q => q.out) fun _ _ e => e
end Mine
local macro_rules | `(tactic| k_all) => `(tactic| assumption)
local macro_rules | `(tactic| k_room) => `(tactic| ktr_room)
local macro_rules | `(tactic| walk_at $s:str) => `(tactic| k_extra $s)
local macro_rules | `(tactic| omega) => `(tactic| k_extra "om")
section
open Mine
theorem Mine.pre_Defs : PySem.Challenge.rw_in0151_02 = PySem.Challenge.rw_in0151_02 ∧ Mine.KK = Mine.KK := by
  k_with_none
  k_fill
  k_with "om" => (first | with_reducible assumption | exact Nat.le_of_ble_eq_true rfl | with_reducible exact Nat.ne_of_lt (by assumption) | with_reducible exact Nat.ne_of_gt (by assumption) | with_reducible exact Nat.le_of_lt (by assumption) | with_reducible exact Nat.le_refl _ | with_reducible exact Nat.le_add_right _ _ | with_reducible exact Nat.lt_add_one _ | with_reducible exact Nat.succ_le_of_lt (by assumption) | with_reducible exact Nat.lt_of_succ_le (by assumption) | with_reducible exact Int.ofNat_lt.mpr (by assumption) | with_reducible exact Int.natCast_nonneg _ | with_reducible exact Mine.o_n (by assumption) | with_reducible exact Mine.o_l (by assumption) | with_reducible exact Mine.o_i (by assumption) (by assumption) | with_reducible exact Mine.o_k (by assumption) (by assumption) | with_reducible exact Mine.o_m (by assumption) (by assumption) | with_reducible exact Mine.o_w (by assumption) | with_reducible exact Mine.o_v (by assumption) (by assumption) (by assumption) | with_reducible exact Mine.o_s (by assumption) | with_reducible exact Mine.o_t (by assumption) | with_reducible exact Mine.o_17 (by assumption) | with_reducible exact Mine.o_y (by assumption) (by assumption) | with_reducible exact Mine.o_z (by assumption) (by assumption) | with_reducible exact Mine.o_y2 (by assumption) (by assumption) | exact Mine.o_a (a := 10000) (by with_reducible assumption) rfl | exact Mine.o_a (a := 9000) (by with_reducible assumption) rfl | exact Mine.o_a (a := 256) (by with_reducible assumption) rfl | exact Mine.o_a (a := 300) (by with_reducible assumption) rfl | exact Mine.o_a (by with_reducible assumption) rfl | exact Mine.o_b (a := 10000) (by with_reducible assumption) rfl | exact Mine.o_b (a := 9000) (by with_reducible assumption) rfl | exact Mine.o_b (a := 256) (by with_reducible assumption) rfl | exact Mine.o_b (by with_reducible assumption) rfl | exact Mine.o_c (by with_reducible assumption) rfl | exact Mine.o_d (by with_reducible assumption) rfl | exact Mine.o_e (by with_reducible assumption) rfl | exact Mine.o_f (by with_reducible assumption) rfl | exact Mine.o_g (by with_reducible assumption) rfl | exact Mine.o_h (by with_reducible assumption) rfl | exact Mine.o_1 (by with_reducible assumption) rfl | exact Mine.o_2 (by with_reducible assumption) rfl | exact Mine.o_3 (by with_reducible assumption) rfl | exact Mine.o_4 (by with_reducible assumption) rfl | with_reducible exact Mine.o_5 (by assumption) | exact Mine.o_6 (by with_reducible assumption) rfl | exact Mine.o_7 (by with_reducible assumption) rfl | exact Mine.o_12 (by with_reducible assumption) (by with_reducible assumption) rfl | exact Mine.o_13 (by with_reducible assumption) (by with_reducible assumption) rfl | exact Mine.o_14 (by with_reducible assumption) (by with_reducible assumption) rfl | exact Mine.o_15 (by with_reducible assumption) (by with_reducible assumption) rfl | with_reducible exact Mine.o_18 (by assumption) (by assumption) | with_reducible exact Mine.o_11 (by assumption) (by assumption) | with_reducible exact Mine.o_x (by assumption) (by assumption) | with_reducible exact Nat.ne_of_lt (Nat.lt_trans (by assumption) (by assumption)) | with_reducible exact Nat.ne_of_gt (Nat.lt_trans (by assumption) (by assumption)) | with_reducible exact Mine.o_r (by assumption) (by assumption) | with_reducible exact Mine.o_o (by assumption) (by assumption) | with_reducible exact Mine.o_p (by assumption) (by assumption) | with_reducible exact Mine.o_q (by assumption) (by assumption) | with_reducible exact Mine.o_u (by assumption) (by assumption) | with_reducible exact Mine.o_j (by assumption) (by assumption) | with_reducible exact Mine.o_20 (by assumption) | with_reducible exact Mine.o_21 (by assumption) | with_reducible exact Mine.o_22 (by assumption) | with_reducible exact Mine.o_23 (by assumption) | with_reducible exact Mine.o_24 (by assumption) | with_reducible exact Mine.o_28 (by assumption) | with_reducible exact Mine.o_29 (by assumption) | with_reducible exact Mine.o_31 (by assumption) | with_reducible exact Mine.o_25 (by assumption) (by assumption) (by assumption) | with_reducible exact Mine.o_26 (by assumption) (by assumption) (by assumption) | with_reducible exact Mine.o_27 (by assumption) (by assumption) | with_reducible exact Mine.o_30 (by assumption) (by assumption) | exact Mine.o_19 (by with_reducible assumption) (by with_reducible assumption) rfl | fail "om")
  k_with "my enter" => (refine' code_def ?k1_z ?k2_z ?k3_z ?k4_z ?k5_z ?kA_z ?kF_z ?kK_z ?k6_z ?k7_z ?k8_z ?k9_z ?kB_z ?_ ?c2_z ?c3_z ?c4_z ?c5_z; (case kA_z => exact rfl); (case kF_z => exact rfl); (case kK_z => first | exact rfl | assumption); (case k1_z => k_asm); (case k2_z => k_asm); (case k3_z => k_asm); (case k4_z => k_asm); (case k5_z => k_asm); (case k6_z => k_is); (case k7_z => k_is); (case k8_z => ktr_room); (case k9_z => first | exact BindsTo.of_eq rfl | exact binds_K (by k_in) rfl (by k_is) rfl rfl rfl); (case c5_z => decide); (case kB_z => exact locs rfl); (case c2_z => exact rfl); (case c3_z => exact rfl); (case c4_z => exact rfl); k_whole; intro G LL h1 FG F1 N1 B1 X1 T1; (try dsimp only); (try k_lift B1); (try k_fold))
  k_with "call builtin:str.find" => (refine Mine.find4 (by first | rfl | omega) ?_)
  k_with "truthy str" => ((with_reducible show wpAny _ _ (PySem.truthy (Value.str (Str.mk (List.toArray _)) _)) _ _ _); (refine Mine.truthy_T (by first | assumption | omega) ?_); intro _)
  k_with "truthy str" => ((with_reducible show wpAny _ _ (PySem.truthy (Value.str (Str.mk (List.toArray [_])) _)) _ _ _); (refine Mine.truthy_one ?_); intro _)
  k_with "compareOp In str str" => ((with_reducible show wpAny _ _ (compareOp CmpOp.In (Value.str (Str.mk (List.toArray [_])) _) _) _ _ _); first | refine Mine.in_ws ?_ | refine Mine.in_cm ?_ | refine Mine.in_es ?_ | refine Mine.in_dt ?_ | refine Mine.in_wc ?_ | refine Mine.in_none ?_ | refine Mine.in_qs ?_)
  k_with "inplaceOp Add str str" => ((with_reducible show wpAny _ _ (inplaceOp _ (Value.str (Str.mk (List.toArray _)) _) (Value.str (Str.mk (List.toArray _)) _)) _ _ _); (refine Mine.iadd_T (by first | omega | (simp only [List.length_append, List.length_cons, List.length_nil] at *; omega)) ?_); intro _ _)
  k_with "compareOp Eq str str" => ((with_reducible show wpAny _ _ (compareOp CmpOp.Eq (Value.str (Str.mk (List.toArray [_])) _) _) _ _ _); ((with_reducible first | refine Mine.eq_nl ?_ ?_ | refine Mine.eq_sp ?_ ?_ | refine Mine.eq_lc ?_ ?_ | refine Mine.eq_hs ?_ ?_ | refine Mine.eq_dq ?_ ?_ | refine Mine.eq_bs ?_ ?_ | refine Mine.eq_dd ?_ ?_) <;> (intro hspz; first | (exfalso; revert hspz; decide) | (subst hspz) | skip)))
  k_with "compareOp NotEq str str" => ((with_reducible show wpAny _ _ (compareOp CmpOp.NotEq (Value.str (Str.mk (List.toArray [_])) _) _) _ _ _); ((with_reducible refine Mine.ne_dd ?_ ?_) <;> (intro hspz; first | (exfalso; revert hspz; decide) | (subst hspz) | skip)))
  k_with "exec If" => refine wpAny_If ?_
  k_with "call type:ValueError" => (k_dflt (refine Mine.raise_VE ?_); intro h'z ez hmxz)
  k_with "leaving ref" => (k_dflt (refine' leave_raiseS ?k1_z (Heap.MadeExc.of ?k2_z) ?k3_z ?k4_z ?_; (case k1_z => assumption); (case k2_z => assumption); (case k3_z => assumption); (case k4_z => assumption)); intro h'z t'z R1z R2z U1z)
  k_with "subscriptTail Name Name str int" => (k_dflt (refine Mine.item_T (by omega) (by omega) ?_; intro cz s'z hsufz tkz kz))
  k_with "subscriptTail Name Name str int" => (k_dflt (refine Mine.item_H (by assumption) (by omega) ?_; intro tkz kz))
  k_with "call ref" => (k_here; (with_reducible show wpAny _ _ (call (Value.ref 554) [Value.ref _, Value.int _ _]) _ _ _); k_dflt (refine' Mine.rd1_at ?k1_z ?k2_z ?k3_z ?k4_z ?k5_z ?kK_z ?km_z ?kU_z ?kn_z ?kp_z ?kd_z ?ku_z ?_ ?_; (case k1_z => k_asm); (case k2_z => k_asm); (case k3_z => k_asm); (case k4_z => k_asm); (case k5_z => k_asm); (case kK_z => first | exact rfl | assumption); (case km_z => k_mem); (case kU_z => k_updF); (case kn_z => omega); (case kp_z => constructor <;> omega); (case kd_z => ktr_room); (case ku_z => ktr_units); all_goals (intro cz s'z hsufz h'z tk'z tz t'z F'z N'z; (try dsimp only at N'z); (try k_sweep))))
  k_with "call ref" => (k_here; (try simp only [List.nil_append, List.cons_append, List.append_nil]); (with_reducible show wpAny _ _ (call (Value.ref 562) [Value.ref _]) _ _ _); k_dflt (refine' Mine.rl_at ?k1_z ?k2_z ?k3_z ?k4_z ?k5_z ?kK_z ?km_z ?kU_z ?kn_z ?kp_z ?kd_z ?ku_z ?_; (case k1_z => k_asm); (case k2_z => k_asm); (case k3_z => k_asm); (case k4_z => k_asm); (case k5_z => k_asm); (case kK_z => first | exact rfl | assumption); (case km_z => k_mem); (case kU_z => k_updF); (case kn_z => omega); (case kp_z => constructor <;> omega); (case kd_z => ktr_room); (case ku_z => ktr_units); (intro xz h'z tk'z tz t'z F'z N'z; (try dsimp only at N'z); (try k_sweep))))
  k_with "exec While Constant cons nil" => refine Mine.Halt.out ?_
  k_with "KswEnd" => refine Mine.Halt.out ?_
  k_with "truthy ref" => (k_here; k_dflt (refine' Mine.dq_truthy_N ?N_z ?m_z ?f_z ?_; (case N_z => k_asm); (case m_z => k_mem); (case f_z => first | decide | omega | (simp only [List.length_cons, List.length_nil]; omega)); k_whole); intro _; (try simp only [List.isEmpty_cons, List.isEmpty_nil, Bool.not_false, Bool.not_true]))
  k_with "getMethod ref" => (k_here; (with_reducible show wpAny _ _ (getMethod (Value.ref _) (PySem.Str.ofString "appendleft") _) _ _ _); k_dflt (refine' Mine.dq_method ?N_z ?m_z Mine.slot_dq_appendleft Mine.type_dq_appendleft ?_; (case N_z => k_asm); (case m_z => k_mem)))
  k_with "getMethod ref" => (k_here; (with_reducible show wpAny _ _ (getMethod (Value.ref _) (PySem.Str.ofString "popleft") _) _ _ _); k_dflt (refine' Mine.dq_method ?N_z ?m_z Mine.slot_dq_popleft Mine.type_dq_popleft ?_; (case N_z => k_asm); (case m_z => k_mem)))
  k_with "call builtin:collections.deque.appendleft" => (k_here; k_dflt (refine' Mine.dq_appendleft ?k1_z ?k2_z ?k3_z ?z_z ?_; (case k1_z => k_asm); (case k2_z => k_asm); (case k3_z => k_upd); (case z_z => first | decide | omega)); intro h'z F'z N'z; (try k_sweep))
  k_with "call builtin:collections.deque.popleft" => (k_here; k_dflt (refine' Mine.dq_popleft ?k1_z ?k2_z ?k3_z ?z_z ?_; (case k1_z => k_asm); (case k2_z => k_asm); (case k3_z => k_upd); (case z_z => first | decide | omega)); intro h'z F'z N'z; (try k_sweep))
  k_with "compareOp In str str" => ((with_reducible show wpAny _ _ (compareOp CmpOp.In (Value.str (Mine.ES.str _) _) _) _ _ _); (rename Mine.ES => ezz; cases ezz <;> dsimp only [Mine.ES.str] at *))
  k_with "compareOp In str str" => ((with_reducible show wpAny _ _ (compareOp CmpOp.In (Value.str (Mine.ES.str _) _) _) _ _ _); (rename Mine.ES => ezz; cases ezz <;> dsimp only [Mine.ES.str] at *); all_goals (try (exfalso; (have hqz := (by assumption : Mine.ES.sp = Mine.ES.sp → _ ≤ _) rfl); omega)))
  exact ⟨rfl, rfl⟩
namespace Mine
noncomputable abbrev MyAddr := Addr
noncomputable abbrev en (hs : Nat → Int) (ts : Nat → Tok) (i : Nat) (x : String) (v : Value) : DictEntry := ⟨hs i, .str (Str.ofString x) (ts i), v⟩
noncomputable abbrev sioD (hs : Nat → Int) (ts : Nat → Tok) (row : Str) (pos : Int) (t1 t2 t3 : Tok) : Obj := dictOf [en hs ts 0 "_StringIO__newline" (.str (Str.ofString "\n") t1), en hs ts 1 "_StringIO__buf" (.str row t2), en hs ts 2 "_StringIO__pos" (.int pos t3)] 3
noncomputable abbrev wcs : Str := Str.ofString "abcdfeghijklmnopqrstuvwxyzABCDEFGHIJKLMNOPQRSTUVWXYZ0123456789_ßàáâãäåæçèéêëìíîïðñòóôõöøùúûüýþÿÀÁÂÃÄÅÆÇÈÉÊËÌÍÎÏÐÑÒÓÔÕÖØÙÚÛÜÝÞ"
noncomputable abbrev lexD (hs : Nat → Int) (ts : Nat → Tok) (sio pb fs : Addr) (nf su rd hk : Value) (tc : Nat → Tok) (state : Value) (line : Int) (tl : Tok) (token : Str) (tt : Tok) : Obj :=
  dictOf [en hs ts 0 "instream" (.ref sio), en hs ts 1 "infile" nf, en hs ts 2 "posix" (.bool true), en hs ts 3 "eof" .none,
    en hs ts 4 "commenters" (.str (Str.ofString "#") (tc 4)), en hs ts 5 "wordchars" (.str wcs (tc 5)), en hs ts 6 "whitespace" (.str (Str.ofString " \t\r\n") (tc 6)),
    en hs ts 7 "whitespace_split" (.bool false), en hs ts 8 "quotes" (.str (Str.ofString "'\"") (tc 8)), en hs ts 9 "escape" (.str (Str.ofString "\\") (tc 9)),
    en hs ts 10 "escapedquotes" (.str (Str.ofString "\"") (tc 10)), en hs ts 11 "state" state, en hs ts 12 "pushback" (.ref pb), en hs ts 13 "lineno" (.int line tl),
    en hs ts 14 "debug" (.int 0 (tc 14)), en hs ts 15 "token" (.str token tt), en hs ts 16 "filestack" (.ref fs), en hs ts 17 "source" su,
    en hs ts 18 "_punctuation_chars" (.str (Str.ofString "") (tc 18)), en hs ts 19 "read" rd, en hs ts 20 "sourcehook" hk] 21
noncomputable abbrev Con (d u : Nat) (w : World) (f : Addr) (news : List (Addr × Obj)) (pre : Prop) (vs : List Value) (R : Value → List (Addr × Obj) → Prop) (RE : List Value → List (Addr × Obj) → Prop) : Prop :=
  ∀ (p : Program) (loose : List Str) (mean : ExcName → Option Value) (mg mb : Str → Option Value) (dp un : Nat) (gd : Option (List Code)) (cn : Str) (cs : Scope) (a : Addr) (ccd : Value) (cl : List (Str × Addr)) (outer : List Env) (A₀ : Around) (base h₀ : Heap) (L : Addr) (m : Str → Option Value) (s : Shared) (Q E : Value → Shared → Prop),
    Below A₀ base outer h₀ → Fr h₀ L s.heap m → (Mine.KK w.params).In h₀ → News h₀ L s.heap news → Top p loose mean mg mb h₀ → cs.kind = .function →
    pre → dp + d < recursionLimit → un + u < cLine →
    (∀ (v : Value) (h' : Heap) (tk' : Nat) (news' : List (Addr × Obj)), R v news' → Fr h₀ L h' m → News h₀ L h' news' → Q v { s with heap := h', toks := tk' }) →
    (∀ (e t : Addr) (g' h' : Heap) (tk' : Nat) (es : List Value) (news' : List (Addr × Obj)), RE es news' → Fr h₀ L g' m → RaisedS base g' (envX cn cs L a ccd cl :: outer) e (.type "ValueError") t es news' h' → RaisedK base (envX cn cs L a ccd cl :: outer) e (.type "ValueError") t es news' h' → g'.UpToSlots h' → E (.ref e) { s with heap := h', toks := tk' }) →
      wpAny (model PySem.Challenge.pw_in0151_02 w) (ktrTop dp un gd cn cs L a ccd cl outer) (call (.ref f) vs) Q E s
theorem News.sub {h₀ h : Heap} {L : Addr} {l l' : List (Addr × Obj)} (N : News h₀ L h l) (hs : ∀ p ∈ l', p ∈ l) : News h₀ L h l' := fun p hp => N p (hs p hp)
theorem Con.lift1 {dd uu : Nat} {w : World} {f : Addr} {pre : Prop} {vs : List Value} {P : Value → Obj → Prop} {sio sd : Addr} {io o : Obj} {led : List (Addr × Obj)} {g : Obj → List (Addr × Obj)}
    (C : ∀ tail, (∀ q ∈ tail, q.1 ≠ sd) → Con dd uu w f ((sio, io) :: (sd, o) :: tail) pre vs (fun v n' => ∃ o', P v o' ∧ n' = (sio, io) :: (sd, o') :: tail) (fun _ _ => False))
    (hm : (sio, io) ∈ led) (U : UpdF sd o led g) : Con dd uu w f led pre vs (fun v n' => ∃ o', P v o' ∧ n' = g o') (fun _ _ => False) := by
  obtain ⟨pr, po, h1, h2, h3, h4⟩ := U.split
  intro p loose mean mg mb dp un gd cn cs a ccd cl outer A₀ base h₀ L m s Q E B F X N T hk hp hd hu ret _
  refine C (pr ++ po) (fun q hq => ?_) p loose mean mg mb dp un gd cn cs a ccd cl outer A₀ base h₀ L m s Q E B F X (News.sub N fun q hq => ?_) T hk hp hd hu ?_ (fun _ _ _ _ _ _ _ h _ _ _ _ => h.elim)
  · rcases List.mem_append.mp hq with h | h
    · exact h3 q h
    · exact h4 q h
  · rw [h1]
    rcases List.mem_cons.mp hq with rfl | hq
    · rw [← h1]; exact hm
    rcases List.mem_cons.mp hq with rfl | hq
    · simp
    rcases List.mem_append.mp hq with h | h <;> simp [h]
  · rintro v h' tk' n' ⟨o', hP, rfl⟩ F' N'
    refine ret v h' tk' _ ⟨o', hP, rfl⟩ F' (News.sub N' fun q hq => ?_)
    rw [h2] at hq
    rcases List.mem_append.mp hq with h | h
    · simp [h]
    rcases List.mem_cons.mp h with rfl | h
    · simp
    · simp [h]
end Mine

end
section
open Mine
namespace Mine
noncomputable abbrev T (l : List Nat) : Str := ⟨l.toArray⟩
theorem T_len (l : List Nat) : (T l).length = l.length := by show l.toArray.size = _; simp
theorem T_app (a b : List Nat) : T a ++ T b = T (a ++ b) := by
  show Str.mk (a.toArray ++ b.toArray) = _
  simp
theorem T_empty (l : List Nat) : (T l == Str.ofString "") = l.isEmpty := by
  have e : Str.ofString "" = T [] := by decide +kernel
  rw [e, Bool.eq_iff_iff, beq_iff_eq, List.isEmpty_iff]
  constructor
  · intro h
    have := congrArg (fun x : Str => x.cps.toList) h
    simpa using this
  · rintro rfl; rfl
theorem slice_T (l : List Nat) (i j : Nat) (h : i ≤ j) (hj : j ≤ l.length) : Txt.slice (T l) (some (i : Int)) (some (j : Int)) = T ((l.drop i).take (j - i)) := by
  have := eq_of_beq (slice_closes (x := T l) (i := i) (j := j) (by simp; omega))
  rw [this]
  simp only [List.toList_toArray, Int.toNat_natCast]
  congr 3
  omega
theorem slice_to (l : List Nat) (j : Nat) (hj : j ≤ l.length) : Txt.slice (T l) none (some (j : Int)) = T (l.take j) := by
  have := eq_of_beq (slice_closes_to (x := T l) (j := j) (by simp; omega))
  rw [this]
  simp
theorem slice_chop (x : Str) (c : Nat) : Txt.slice (x ++ ⟨#[c]⟩) none (some (-1)) = x := by
  have hlen : (x ++ (⟨#[c]⟩ : Str)).length = x.length + 1 := by
    show (x.cps ++ #[c]).size = _
    rw [Array.size_append]; rfl
  have e : Txt.slice (x ++ ⟨#[c]⟩) none (some (-1)) = Txt.slice (x ++ ⟨#[c]⟩) none (some (x.length : Int)) := by
    unfold Txt.slice Builtin.Str.strSliceIndices
    rw [hlen]
    simp only [show (1 : Int) > 0 by decide, if_true, show (-1 : Int) < 0 by decide, show ¬ ((x.length : Int) < 0) by omega, if_false]
    rw [show (-1 : Int) + ((x.length + 1 : Nat) : Int) = (x.length : Int) by omega]
  rw [e]
  have := eq_of_beq (slice_closes_to (x := x ++ ⟨#[c]⟩) (j := x.length) (by show _ ∧ _ ≤ ((x.cps ++ #[c]).toList.length : Int); simp; show (x.cps.size : Int) ≤ _; omega))
  rw [this]
  show Str.mk _ = x
  obtain ⟨cps⟩ := x
  show Str.mk (((cps ++ #[c]).toList.drop _).take ((cps.size : Int) - 0).toNat).toArray = _
  have : ((cps.size : Int) - 0).toNat = cps.toList.length := by simp
  rw [this]
  simp
end Mine
namespace Mine
noncomputable def aft (s : List Nat) : List Nat := (s.dropWhile (· != 10)).drop 1
theorem aft_cons (c : Nat) (s : List Nat) : aft (c :: s) = if c = 10 then s else aft s := by
  unfold aft
  by_cases h : c = 10
  · subst h; simp
  · simp [h]
theorem aft_none : ∀ (s : List Nat), (∀ v, v < s.length → s.getD v 0 ≠ 10) → aft s = []
  | [], _ => rfl
  | c :: s, h => by
    rw [aft_cons, if_neg (by simpa using h 0 (by simp))]
    exact aft_none s fun v hv => by simpa using h (v + 1) (by simpa using hv)
theorem aft_at : ∀ (s : List Nat) (k : Nat), k < s.length → s.getD k 0 = 10 → (∀ v, v < k → s.getD v 0 ≠ 10) → aft s = s.drop (k + 1)
  | [], k, h, _, _ => by simp at h
  | c :: s, 0, _, h, _ => by
    rw [aft_cons, if_pos (by simpa using h)]; simp
  | c :: s, k + 1, h, h1, h2 => by
    rw [aft_cons, if_neg (by simpa using h2 0 (by omega))]
    rw [aft_at s k (by simpa using h) (by simpa using h1) (fun v hv => by simpa using h2 (v + 1) (by omega))]
    simp
theorem aft_le : ∀ (s : List Nat), (aft s).length ≤ s.length
  | [] => by simp [aft]
  | c :: s => by
    rw [aft_cons]
    split
    · simp
    · have := aft_le s; simp; omega
theorem find_nl (r : List Nat) (p : Nat) (hp : p ≤ r.length) :
    (Txt.find3 (T r) (Str.ofString "\n") p = -1 ∧ aft (r.drop p) = []) ∨
    ∃ k : Nat, Txt.find3 (T r) (Str.ofString "\n") p = k ∧ p ≤ k ∧ k < r.length ∧ aft (r.drop p) = r.drop (k + 1) := by
  have hs : Str.ofString "\n" = ⟨#[10]⟩ := by decide +kernel
  have hf : PySem.fromIndex (T r).length p = p := by unfold PySem.fromIndex; omega
  have hg : ∀ v, (T r).cps.getD v 0 = r.getD v 0 := fun v => by simp [T, Array.getD, List.getD]; split <;> simp_all
  rw [hs]
  rcases StrLaws.find3_spec (T r) 10 p with ⟨h, hn⟩ | ⟨k, h, h1, h2, h3, h4⟩
  · refine .inl ⟨h, aft_none _ fun v hv => ?_⟩
    have := hn (p + v) (by rw [hf]; omega) (by rw [T_len]; simp at hv; omega)
    rw [hg] at this
    simpa [List.getD] using this
  · rw [hf] at h1
    rw [T_len] at h2
    rw [hg] at h3
    refine .inr ⟨k, h, h1, h2, ?_⟩
    have := aft_at (r.drop p) (k - p) (by simp; omega) (by simp [List.getD]; rw [show p + (k - p) = k by omega]; simpa [List.getD] using h3) (fun v hv => by
      have := h4 (p + v) (by rw [hf]; omega) (by omega)
      rw [hg] at this
      simpa [List.getD] using this)
    rw [this, List.drop_drop]
    congr 1
    omega
end Mine

end
section
open Mine
namespace Mine
open PySem.Builtin PySem.Builtin.Str
section
variable {prog : Program} {w : World} {A : Around} {E : Value → Shared → Prop} {s : Shared} {x y : Str} {t u v v' : Tok} {i j : Int} {Q : Value → Shared → Prop}
theorem gives_find4 (x y : Str) (i j : Int) (t u v v' : Tok) (hj : j = x.length) : Gives («str.find» ⟨[.str x t, .str y u, .int i v, .int j v'], []⟩) (.int (Txt.find3 x y i)) := by
  subst hj
  show Gives (match occurrences x y (fromIndex x.length i) (min (fromIndex x.length x.length) x.length) 1 with | k :: _ => retInt k | [] => (do rule "str.find.not-found"; retInt (-1))) _
  have : min (fromIndex x.length x.length) x.length = x.length := by unfold fromIndex; omega
  rw [this]
  unfold Txt.find3
  cases occurrences x y (fromIndex x.length i) x.length 1 with
  | nil => exact .rule (.of_eq rfl)
  | cons k _ => exact .of_eq rfl
theorem find4 (hj : j = x.length) (hq : Q (.int (Txt.find3 x y i) s.toks) { s with toks := s.toks + 1 }) : wpAny (model prog w) A (call (.builtin "str.find") [.str x t, .str y u, .int i v, .int j v']) Q E s :=
  call_gives F.slot_str_find (typeIs_str _ _ _) F.entry_str_find (F.args_str_find_4 _ _ _ _) (gives_find4 x y i j t u v v' hj) hq
end
end Mine
namespace Mine
section
variable {prog : Program} {w : World} {A : Around} {E : Value → Shared → Prop} {s : Shared} {t : Tok}
theorem truthy_one {c : Nat} {Q : Bool → Shared → Prop} (h : ∀ k, Q true { s with toks := k }) : wpAny (model prog w) A (truthy (.str (⟨[c].toArray⟩ : Str) t)) Q E s :=
  P.truthy_str (by show ¬ ((([c].toArray).size : Int) ≥ 2 ^ 63); simp) (h _)
theorem truthy_T {l : List Nat} {Q : Bool → Shared → Prop} (hl : l.length < 1000000) (h : ∀ k, Q (!l.isEmpty) { s with toks := k }) : wpAny (model prog w) A (truthy (.str (⟨l.toArray⟩ : Str) t)) Q E s := by
  have e : (⟨l.toArray⟩ : Str).length = l.length := by show l.toArray.size = _; simp
  refine P.truthy_str (by rw [e]; omega) ?_
  rw [e]
  have hne : ((l.length : Int) != 0) = !l.isEmpty := by
    cases l with
    | nil => rfl
    | cons a l => simp; omega
  rw [hne]
  exact h _
end
end Mine
namespace Mine
noncomputable def isW (c : Nat) : Bool := c == 32 || c == 9 || c == 13 || c == 10
noncomputable def isQ (c : Nat) : Bool := c == 39 || c == 34
noncomputable def isC (c : Nat) : Bool := (48 ≤ c && c ≤ 57) || (65 ≤ c && c ≤ 90) || (97 ≤ c && c ≤ 122) || c == 95 || (192 ≤ c && c ≤ 255 && c != 215 && c != 247)
theorem small_mem (l : List Nat) (p : Nat → Bool) (h1 : ∀ c : Fin 256, decide (c.val ∈ l) = p c.val) (h2 : ∀ x ∈ l, x < 256) (h3 : ∀ c, 256 ≤ c → p c = false) (c : Nat) : decide (c ∈ l) = p c := by
  by_cases h : c < 256
  · exact h1 ⟨c, h⟩
  · rw [h3 c (by omega)]
    refine decide_eq_false fun hm => ?_
    have := h2 c hm
    omega
theorem isW_big (c : Nat) (h : 256 ≤ c) : isW c = false := by unfold isW; simp; omega
theorem isQ_big (c : Nat) (h : 256 ≤ c) : isQ c = false := by unfold isQ; simp; omega
theorem isC_big (c : Nat) (h : 256 ≤ c) : isC c = false := by unfold isC; simp; omega
section
variable {prog : Program} {w : World} {A : Around} {E : Value → Shared → Prop} {s : Shared} {t u : Tok} {c : Nat} {Q : Value → Shared → Prop}
theorem in_lit {x : Str} {p : Nat → Bool} (hx : decide (c ∈ x.cps.toList) = p c) (h : Q (.bool (p c)) s) : wpAny (model prog w) A (compareOp .In (.str (⟨[c].toArray⟩ : Str) u) (.str x t)) Q E s := by
  refine P.in_str ?_
  have e := StrLaws.found_one x c
  rw [hx] at e
  show Q (.bool !(Builtin.Str.occurrences x ⟨#[c]⟩ 0 x.length 1).isEmpty) s
  rw [e]
  exact h
theorem in_ws (h : Q (.bool (isW c)) s) : wpAny (model prog w) A (compareOp .In (.str (⟨[c].toArray⟩ : Str) u) (.str (Str.ofString " \t\r\n") t)) Q E s :=
  in_lit (small_mem _ isW (by decide +kernel) (by decide +kernel) isW_big c) h
theorem in_qs (h : Q (.bool (isQ c)) s) : wpAny (model prog w) A (compareOp .In (.str (⟨[c].toArray⟩ : Str) u) (.str (Str.ofString "'\"") t)) Q E s :=
  in_lit (small_mem _ isQ (by decide +kernel) (by decide +kernel) isQ_big c) h
theorem in_cm (h : Q (.bool (c == 35)) s) : wpAny (model prog w) A (compareOp .In (.str (⟨[c].toArray⟩ : Str) u) (.str (Str.ofString "#") t)) Q E s :=
  in_lit (p := (· == 35)) (small_mem _ (· == 35) (by decide +kernel) (by decide +kernel) (fun c h => by simp; omega) c) h
theorem in_es (h : Q (.bool (c == 92)) s) : wpAny (model prog w) A (compareOp .In (.str (⟨[c].toArray⟩ : Str) u) (.str (Str.ofString "\\") t)) Q E s :=
  in_lit (p := (· == 92)) (small_mem _ (· == 92) (by decide +kernel) (by decide +kernel) (fun c h => by simp; omega) c) h
theorem in_dt (h : Q (.bool (c == 34)) s) : wpAny (model prog w) A (compareOp .In (.str (⟨[c].toArray⟩ : Str) u) (.str (Str.ofString "\"") t)) Q E s :=
  in_lit (p := (· == 34)) (small_mem _ (· == 34) (by decide +kernel) (by decide +kernel) (fun c h => by simp; omega) c) h
theorem in_none (h : Q (.bool false) s) : wpAny (model prog w) A (compareOp .In (.str (⟨[c].toArray⟩ : Str) u) (.str (Str.ofString "") t)) Q E s :=
  in_lit (p := fun _ => false) (by simp [show (Str.ofString "").cps = #[] by decide +kernel]) h
theorem in_wc (h : Q (.bool (isC c)) s) : wpAny (model prog w) A (compareOp .In (.str (⟨[c].toArray⟩ : Str) u) (.str (Str.ofString "abcdfeghijklmnopqrstuvwxyzABCDEFGHIJKLMNOPQRSTUVWXYZ0123456789_ßàáâãäåæçèéêëìíîïðñòóôõöøùúûüýþÿÀÁÂÃÄÅÆÇÈÉÊËÌÍÎÏÐÑÒÓÔÕÖØÙÚÛÜÝÞ") t)) Q E s :=
  in_lit (small_mem _ isC (by decide +kernel) (by decide +kernel) isC_big c) h
theorem eq_one {d : Nat} {y : Str} (hy : y = ⟨[d].toArray⟩) (h : Q (.bool (c == d)) s) : wpAny (model prog w) A (compareOp .Eq (.str (⟨[c].toArray⟩ : Str) u) (.str y t)) Q E s := by
  subst hy
  refine P.eq_str ?_
  have e : (([c] : List Nat) == [d]) = (c == d) := by simp
  show Q (.bool (([c] : List Nat) == [d])) s
  rw [e]
  exact h
theorem ne_one {d : Nat} {y : Str} (hy : y = ⟨[d].toArray⟩) (h : Q (.bool (c != d)) s) : wpAny (model prog w) A (compareOp .NotEq (.str (⟨[c].toArray⟩ : Str) u) (.str y t)) Q E s := by
  subst hy
  refine P.ne_str ?_
  have e : (([c] : List Nat) != [d]) = (c != d) := by simp [bne]
  show Q (.bool (([c] : List Nat) != [d])) s
  rw [e]
  exact h
end
end Mine
namespace Mine
section
variable {prog : Program} {w : World} {A : Around} {E : Value → Shared → Prop} {s : Shared} {t u : Tok} {c : Nat} {Q : Value → Shared → Prop}
theorem eq_split {d : Nat} {y : Str} (hy : y = ⟨[d].toArray⟩) (h1 : c = d → Q (.bool true) s) (h2 : c ≠ d → Q (.bool false) s) : wpAny (model prog w) A (compareOp .Eq (.str (⟨[c].toArray⟩ : Str) u) (.str y t)) Q E s := by
  refine eq_one hy ?_
  by_cases h : c = d
  · rw [show (c == d) = true by simpa using h]; exact h1 h
  · rw [show (c == d) = false by simpa using h]; exact h2 h
theorem ne_split {d : Nat} {y : Str} (hy : y = ⟨[d].toArray⟩) (h1 : c = d → Q (.bool false) s) (h2 : c ≠ d → Q (.bool true) s) : wpAny (model prog w) A (compareOp .NotEq (.str (⟨[c].toArray⟩ : Str) u) (.str y t)) Q E s := by
  refine ne_one hy ?_
  by_cases h : c = d
  · rw [show (c != d) = false by simpa using h]; exact h1 h
  · rw [show (c != d) = true by simpa using h]; exact h2 h
theorem iadd_T {a b : List Nat} (hz : a.length + b.length ≤ 1000000) (h : ∀ tk k, Q (.str (⟨(a ++ b).toArray⟩ : Str) tk) { s with toks := k }) :
    wpAny (model prog w) A (inplaceOp .Add (.str (⟨a.toArray⟩ : Str) t) (.str (⟨b.toArray⟩ : Str) u)) Q E s := by
  refine P.iadd_str ?_
  have hs : sizeLine = 16777216 := by decide
  have la : (⟨a.toArray⟩ : Str).length = a.length := by show a.toArray.size = _; simp
  have lb : (⟨b.toArray⟩ : Str).length = b.length := by show b.toArray.size = _; simp
  have lab : ((⟨a.toArray⟩ : Str) ++ (⟨b.toArray⟩ : Str)) = ⟨(a ++ b).toArray⟩ := by show Str.mk (a.toArray ++ b.toArray) = _; simp
  rw [la, lb]
  split
  · rename_i e
    have : a = [] := List.eq_nil_of_length_eq_zero (by simpa using e)
    subst this
    exact h u s.toks
  · split
    · rename_i e
      have : b = [] := List.eq_nil_of_length_eq_zero (by simpa using e)
      subst this
      have := h t s.toks
      rw [List.append_nil] at this
      exact this
    · rw [lab]
      exact ⟨by show (a ++ b).toArray.size ≤ _; simp; omega, h _ _⟩
end
end Mine
namespace Mine
section
variable {prog : Program} {w : World} {A : Around} {E : Value → Shared → Prop} {s : Shared} {t u : Tok} {c : Nat} {Q : Value → Shared → Prop}
theorem eq_nl (h1 : c = 10 → Q (.bool true) s) (h2 : c ≠ 10 → Q (.bool false) s) : wpAny (model prog w) A (compareOp .Eq (.str (⟨[c].toArray⟩ : Str) u) (.str (Str.ofString "\n") t)) Q E s := eq_split (d := 10) (by decide +kernel) h1 h2
theorem eq_sp (h1 : c = 32 → Q (.bool true) s) (h2 : c ≠ 32 → Q (.bool false) s) : wpAny (model prog w) A (compareOp .Eq (.str (⟨[c].toArray⟩ : Str) u) (.str (Str.ofString " ") t)) Q E s := eq_split (d := 32) (by decide +kernel) h1 h2
theorem eq_lc (h1 : c = 99 → Q (.bool true) s) (h2 : c ≠ 99 → Q (.bool false) s) : wpAny (model prog w) A (compareOp .Eq (.str (⟨[c].toArray⟩ : Str) u) (.str (Str.ofString "c") t)) Q E s := eq_split (d := 99) (by decide +kernel) h1 h2
theorem eq_dd {d : Nat} (h1 : c = d → Q (.bool true) s) (h2 : c ≠ d → Q (.bool false) s) : wpAny (model prog w) A (compareOp .Eq (.str (⟨[c].toArray⟩ : Str) u) (.str (⟨[d].toArray⟩ : Str) t)) Q E s := eq_split rfl h1 h2
theorem ne_dd {d : Nat} (h1 : c = d → Q (.bool false) s) (h2 : c ≠ d → Q (.bool true) s) : wpAny (model prog w) A (compareOp .NotEq (.str (⟨[c].toArray⟩ : Str) u) (.str (⟨[d].toArray⟩ : Str) t)) Q E s := ne_split rfl h1 h2
end
end Mine
namespace Mine
section
variable {prog : Program} {w : World} {A : Around} {E : Value → Shared → Prop} {s : Shared}
theorem raise_VE {rest : List Value} (h : ∀ h' e, Heap.MadeExc s.heap h' e "ValueError" rest → E (.ref e) { s with heap := h' }) (hrest : rest.length ≤ sizeLine := by size_fits) :
    wpAny (model prog w) A (call (.type "ValueError") rest) (Raisable E) E s := by
  obtain ⟨hp, g, d, tk, os⟩ := s
  exact wpAny_call_exc PySem.F.excCall_ValueError (hrest := hrest) fun h' e hm => raisable_of_new excClass_ValueError hm.newExc (h h' e hm)
end
end Mine
namespace Mine
section
variable {prog : Program} {w : World} {A : Around} {E : Value → Shared → Prop} {s : Shared} {t u : Tok} {Q : Value → Shared → Prop} {value slice : PySem.Expr}
theorem item_eq (r : List Nat) (pl : Nat) (h : pl < r.length) : Txt.item (⟨r.toArray⟩ : Str) pl = ⟨[r[pl]].toArray⟩ := by
  have e : (⟨r.toArray⟩ : Str).length = r.length := by show r.toArray.size = _; simp
  unfold Txt.item Txt.charAt
  rw [e]
  have hq : seqIndex? (pl : Int) r.length = some pl := by
    unfold seqIndex?
    simp
    omega
  rw [hq]
  simp [h]
theorem item_T {r : List Nat} {pl : Nat} (hi : pl < r.length) (hl : r.length < 1000000) (h : ∀ c s', (r.drop pl = c :: s' ∧ pl + 1 ≤ r.length) → ∀ tk k, Q (.str (⟨[c].toArray⟩ : Str) tk) { s with toks := k })
    (hs : subscripted slice false (.str (⟨r.toArray⟩ : Str) t) (.int pl u) = operate [.str (⟨r.toArray⟩ : Str) t, .int pl u] (getItem (.str (⟨r.toArray⟩ : Str) t) (.int pl u)) := by with_unfolding_all rfl)
    (ht : ∀ x, letTemporaryGo value (.str (⟨r.toArray⟩ : Str) t) x = pure () := by intro _; with_unfolding_all rfl) :
    wpAny (model prog w) A (subscriptTail value slice (.str (⟨r.toArray⟩ : Str) t) (.int pl u)) Q E s := by
  have e : (⟨r.toArray⟩ : Str).length = r.length := by show r.toArray.size = _; simp
  refine item_str (fitsSsize_of (N := 9223372036854775808) (by omega) (by omega) (Int.le_refl _)) (by omega) (by omega) (fun _ => ?_) hs ht
  rw [item_eq r pl hi]
  exact h r[pl] (r.drop (pl + 1)) ⟨List.drop_eq_getElem_cons hi, hi⟩ _ _
end
end Mine
namespace Mine
section
variable {prog : Program} {w : World} {A : Around} {E : Value → Shared → Prop} {s : Shared} {t u : Tok} {Q : Value → Shared → Prop} {value slice : PySem.Expr}
theorem item_H {r s' : List Nat} {pl c : Nat} (hd : r.drop pl = c :: s' ∧ pl + 1 ≤ r.length) (hl : r.length < 1000000) (h : ∀ tk k, Q (.str (⟨[c].toArray⟩ : Str) tk) { s with toks := k })
    (hs : subscripted slice false (.str (⟨r.toArray⟩ : Str) t) (.int pl u) = operate [.str (⟨r.toArray⟩ : Str) t, .int pl u] (getItem (.str (⟨r.toArray⟩ : Str) t) (.int pl u)) := by with_unfolding_all rfl)
    (ht : ∀ x, letTemporaryGo value (.str (⟨r.toArray⟩ : Str) t) x = pure () := by intro _; with_unfolding_all rfl) :
    wpAny (model prog w) A (subscriptTail value slice (.str (⟨r.toArray⟩ : Str) t) (.int pl u)) Q E s :=
  item_T (by omega) hl (fun c' s'' hd' tk k => by
    have e := hd'.1.symm.trans hd.1
    obtain rfl : c' = c := (List.cons.inj e).1
    exact h tk k) hs ht
end
end Mine
namespace Mine
section
variable {prog : Program} {w : World} {A : Around} {E : Value → Shared → Prop} {s : Shared} {t u : Tok} {c : Nat} {Q : Value → Shared → Prop}
theorem eq_hs (h1 : c = 35 → Q (.bool true) s) (h2 : c ≠ 35 → Q (.bool false) s) : wpAny (model prog w) A (compareOp .Eq (.str (⟨[c].toArray⟩ : Str) u) (.str (Str.ofString "#") t)) Q E s := eq_split (d := 35) (by decide +kernel) h1 h2
theorem eq_dq (h1 : c = 34 → Q (.bool true) s) (h2 : c ≠ 34 → Q (.bool false) s) : wpAny (model prog w) A (compareOp .Eq (.str (⟨[c].toArray⟩ : Str) u) (.str (Str.ofString "\"") t)) Q E s := eq_split (d := 34) (by decide +kernel) h1 h2
theorem eq_bs (h1 : c = 92 → Q (.bool true) s) (h2 : c ≠ 92 → Q (.bool false) s) : wpAny (model prog w) A (compareOp .Eq (.str (⟨[c].toArray⟩ : Str) u) (.str (Str.ofString "\\") t)) Q E s := eq_split (d := 92) (by decide +kernel) h1 h2
end
end Mine

end
section
open Mine
namespace Mine
open PySem.Builtin
section facts
theorem owner_deque : Manifest.owners.lookup (String.ofList ['e', 'u', 'q', 'e', 'd', '.', 's', 'n', 'o', 'i', 't', 'c', 'e', 'l', 'l', 'o', 'c'].reverse) = some Manifest.sig_collections_deque := by kernel_rfl
theorem slot_dq_appendleft : Slot "collections.deque" "appendleft" "collections.deque.appendleft" :=
  .of (owner := "collections.deque") (n := "appendleft") (by rw [typeLookup_type, builtinLookup_eq_fast]; kernel_rfl) (by decide +kernel) (by decide +kernel) (by decide +kernel)
    (by first | exact .inl (by decide +kernel) | exact .inr (by decide +kernel)) (by rw [isSubtype_type]; kernel_rfl)
theorem slot_dq_popleft : Slot "collections.deque" "popleft" "collections.deque.popleft" :=
  .of (owner := "collections.deque") (n := "popleft") (by rw [typeLookup_type, builtinLookup_eq_fast]; kernel_rfl) (by decide +kernel) (by decide +kernel) (by decide +kernel)
    (by first | exact .inl (by decide +kernel) | exact .inr (by decide +kernel)) (by rw [isSubtype_type]; kernel_rfl)
theorem slot_dq_len : Slot "collections.deque" "__len__" "collections.deque.__len__" :=
  .of (owner := "collections.deque") (n := "__len__") (by rw [typeLookup_type, builtinLookup_eq_fast]; kernel_rfl) (by decide +kernel) (by decide +kernel) (by decide +kernel)
    (by first | exact .inl (by decide +kernel) | exact .inr (by decide +kernel)) (by rw [isSubtype_type]; kernel_rfl)
theorem noBool_dq : typeLookup (.type "collections.deque") "__bool__" = pure none := by rw [typeLookup_type, builtinLookup_eq_fast]; kernel_rfl
theorem plainAttrs_dq : PlainAttrs "collections.deque" :=
  ⟨⟨"collections.deque.__getattribute__", by rw [typeLookup_type, builtinLookup_eq_fast]; kernel_rfl, by decide +kernel⟩, by rw [typeLookup_type, builtinLookup_eq_fast]; kernel_rfl⟩
theorem entry_dq_appendleft : entryFor table "collections.deque.appendleft" = some Builtin.«collections.deque.appendleft» := entryFor_of_tree (by kernel_rfl)
theorem entry_dq_popleft : entryFor table "collections.deque.popleft" = some Builtin.«collections.deque.popleft» := entryFor_of_tree (by kernel_rfl)
theorem entry_dq_len : entryFor table "collections.deque.__len__" = some Builtin.«collections.deque.__len__» := entryFor_of_tree (by kernel_rfl)
theorem type_dq_appendleft : typeOf (.builtin "collections.deque.appendleft") = pure (.type "method_descriptor") := by show builtinType _ = _; rw [builtinType_eq_fast]; kernel_rfl
theorem type_dq_popleft : typeOf (.builtin "collections.deque.popleft") = pure (.type "method_descriptor") := by show builtinType _ = _; rw [builtinType_eq_fast]; kernel_rfl
theorem args_dq_appendleft (a b : Value) : argsOk "collections.deque.appendleft" ⟨[a, b], []⟩ := by
  unfold argsOk; rw [signature?_of (id := "collections.deque.appendleft") (n := ['t', 'f', 'e', 'l', 'd', 'n', 'e', 'p', 'p', 'a']) (o := ['e', 'u', 'q', 'e', 'd', '.', 's', 'n', 'o', 'i', 't', 'c', 'e', 'l', 'l', 'o', 'c']) (by kernel_rfl) owner_deque]; kernel_rfl
theorem args_dq_popleft (a : Value) : argsOk "collections.deque.popleft" ⟨[a], []⟩ := by
  unfold argsOk; rw [signature?_of (id := "collections.deque.popleft") (n := ['t', 'f', 'e', 'l', 'p', 'o', 'p']) (o := ['e', 'u', 'q', 'e', 'd', '.', 's', 'n', 'o', 'i', 't', 'c', 'e', 'l', 'l', 'o', 'c']) (by kernel_rfl) owner_deque]; kernel_rfl
theorem args_dq_len (a : Value) : argsOk "collections.deque.__len__" ⟨[a], []⟩ := by
  unfold argsOk; rw [signature?_of (id := "collections.deque.__len__") (n := ['_', '_', 'n', 'e', 'l', '_', '_']) (o := ['e', 'u', 'q', 'e', 'd', '.', 's', 'n', 'o', 'i', 't', 'c', 'e', 'l', 'l', 'o', 'c']) (by kernel_rfl) owner_deque]; kernel_rfl
end facts
noncomputable abbrev dqO (n : Int) (xs : List Value) : Obj := { cls := .type "collections.deque", data := .fields (#[.none, rawInt n] ++ xs.toArray) }
section
variable {prog : Program} {w : World} {A : Around} {E : Value → Shared → Prop} {s : Shared} {h₀ : Heap} {L D : Addr} {m : Str → Option Value} {news news' : List (Addr × Obj)} {n : Int} {xs : List Value}
theorem dq_type (ho : s.heap.get? D = some (dqO n xs)) : s.TypeIs (.ref D) "collections.deque" := ⟨_, ho, rfl⟩
theorem dq_len_body {Q : Value → Shared → Prop} (ho : s.heap.get? D = some (dqO n xs)) (hfit : (xs.length : Int) < 2 ^ 63)
    (h : Q (.int xs.length (s.toks + 1)) { s with toks := s.toks + 1 + 1 }) : wpAny (model prog w) A (Builtin.«len» ⟨[.ref D], []⟩) (fun fin s' => ∃ r, fin = .done (.ret r) ∧ Q r s') E s := by
  unfold Builtin.«len»
  refine wpAny_bind (m := oneArg "len" _) (wpAny_pure ?_)
  refine wpAny_bind (m := callSpecial? (.ref D) (Str.ofString "__len__")) (wpAny_callSpecial?_slot (name := Str.ofString "__len__") (dq_type ho) slot_dq_len
    (wpAny_call_entry slot_dq_len (dq_type ho) entry_dq_len ?_ (args_dq_len _)))
  show wpAny _ _ (do retInt (← Deque.size (.ref D))) _ _ s
  unfold Deque.size
  refine wpAny_bind (wpAny_bind (wpAny_fieldsOf ho rfl ?_))
  have hz : (#[Value.none, rawInt n] ++ xs.toArray).size - 2 = xs.length := by simp
  rw [hz]
  refine wpAny_pure (wpAny_bind (wpAny_mkInt (wpAny_pure ⟨_, rfl, ?_⟩)))
  refine wpAny_bind (wpAny_holding (wpAny_pure ?_))
  refine wpAny_bind (wpAny_letGo ?_)
  show wpAny _ _ (if ((xs.length : Nat) : Int) < 0 then _ else _) _ _ _
  rw [if_neg (by omega)]
  show wpAny _ _ (if ((xs.length : Nat) : Int) ≥ 2 ^ 63 then _ else _) _ _ _
  rw [if_neg (by omega)]
  exact wpAny_bind (wpAny_mkInt (wpAny_pure ⟨_, rfl, h⟩))
theorem dq_truthy {Q : Bool → Shared → Prop} (ho : s.heap.get? D = some (dqO n xs)) (hfit : (xs.length : Int) < 2 ^ 63)
    (h : Q (!xs.isEmpty) { s with toks := s.toks + 1 + 1 }) : wpAny (model prog w) A (truthy (.ref D)) Q E s := by
  have hne : ((xs.length : Int) != 0) = !xs.isEmpty := by
    cases xs with
    | nil => rfl
    | cons a l => simp; omega
  have key : wpAny (model prog w) A (runValue (.builtin "len" ⟨[.ref D], []⟩)) (fun r s' => r = .int xs.length (s.toks + 1) ∧ Q (!xs.isEmpty) s') E s := by
    refine wpAny_runValue (codeAny_builtin entry_len ?_)
    rw [Around.under_plainId plain_len _]
    exact wpAny_mono (dq_len_body (Q := fun r s' => r = .int xs.length (s.toks + 1) ∧ Q (!xs.isEmpty) s') ho hfit ⟨rfl, h⟩)
      (fun fin s' h' => by obtain ⟨r, rfl, hq⟩ := h'; exact hq) fun _ _ e => e
  unfold truthy
  first
    | refine wpAny_bind (wpAny_callSpecial?_none (name := Str.ofString "__bool__") (dq_type ho) noBool_dq ?_)
    | refine wpAny_bind (wpAny_pure (wpAny_bind (wpAny_callSpecial?_none (name := Str.ofString "__bool__") (dq_type ho) noBool_dq ?_)))
  first
    | refine wpAny_bind (wpAny_specialOf (name := Str.ofString "__len__") (dq_type ho) slot_dq_len.lookup ?_)
    | refine wpAny_bind (wpAny_pure (wpAny_bind (wpAny_specialOf (name := Str.ofString "__len__") (dq_type ho) slot_dq_len.lookup ?_)))
  first
    | exact wpAny_bind (wpAny_mono key (fun r s' h' => by obtain ⟨rfl, hq⟩ := h'; exact wpAny_pure (hne ▸ hq)) fun _ _ e => e)
    | exact wpAny_bind (wpAny_pure (wpAny_bind (wpAny_mono key (fun r s' h' => by obtain ⟨rfl, hq⟩ := h'; exact wpAny_pure (hne ▸ hq)) fun _ _ e => e)))
theorem dq_truthy_N {Q : Bool → Shared → Prop} (N : News h₀ L s.heap news) (hm : (D, dqO n xs) ∈ news) (hfit : (xs.length : Int) < 2 ^ 63)
    (h : ∀ k, Q (!xs.isEmpty) { s with toks := k }) : wpAny (model prog w) A (truthy (.ref D)) Q E s := dq_truthy (N _ hm).1 hfit (h _)
theorem dq_method {name : Str} {id : String} {pl : Sem Bool} {Q : Value × List Value → Shared → Prop} (N : News h₀ L s.heap news) (hm : (D, dqO n xs) ∈ news) (slot : Slot "collections.deque" name id)
    (hty : typeOf (.builtin id) = pure (.type "method_descriptor")) (h : Q (.builtin id, [.ref D]) s) : wpAny (model prog w) A (getMethod (.ref D) name pl) Q E s :=
  getMethod_builtin (dq_type (N _ hm).1) plainAttrs_dq slot hty (fun a e => by cases e; exact ⟨_, (N _ hm).1, rfl⟩) h
theorem dq_change {Q : Unit → Shared → Prop} {f : Array Value → Array Value} {ys : List Value} (F : Fr h₀ L s.heap m) (N : News h₀ L s.heap news) (U : Upd D (dqO n xs) (dqO (n + 1) ys) news news') (hf : f xs.toArray = ys.toArray) (hsz : ys.length ≤ sizeLine)
    (h : ∀ h', Fr h₀ L h' m → News h₀ L h' news' → Q () { s with heap := h' }) : wpAny (model prog w) A (Deque.change (.ref D) f) Q E s := by
  obtain ⟨pre, post, rfl, rfl, a, b⟩ := U.split
  have z := N (D, dqO n xs) (List.mem_append.mpr (.inr (.head _)))
  unfold Deque.change Deque.state
  refine wpAny_bind (wpAny_bind (wpAny_field z.1 rfl (x := rawInt n) (by simp) (wpAny_pure ?_)))
  have he : (#[Value.none, rawInt n] ++ xs.toArray).extract 2 (#[Value.none, rawInt n] ++ xs.toArray).size = xs.toArray := by
    apply Array.ext'
    simp
  have hg : (fun vs : Array Value => #[vs.getD 0 .none, rawInt (if true = true then n + 1 else n)] ++ f (vs.extract 2 vs.size)) (#[Value.none, rawInt n] ++ xs.toArray) = #[Value.none, rawInt (n + 1)] ++ ys.toArray := by
    show #[(#[Value.none, rawInt n] ++ xs.toArray).getD 0 .none, rawInt (n + 1)] ++ f _ = _
    rw [he, hf]
    congr 1
    simp [Array.getD]
  refine wpAny_updateFields z.1 rfl ?_ (Nat.le_trans (Nat.le_of_eq (congrArg Array.size hg)) (by simp; omega))
  refine h _ (F.change (Heap.SameBut.update ..) z.2.1 z.2.2) (news_set N a b (Heap.SameBut.update ..) ?_)
  rw [Heap.get?_update_self _ z.1 rfl]
  exact congrArg (fun z => some (⟨.type "collections.deque", none, .fields z, #[]⟩ : Obj)) hg
theorem dq_appendleft {x : Value} {Q : Value → Shared → Prop} (F : Fr h₀ L s.heap m) (N : News h₀ L s.heap news) (U : Upd D (dqO n xs) (dqO (n + 1) (x :: xs)) news news') (hsz : xs.length < 1000)
    (h : ∀ h', Fr h₀ L h' m → News h₀ L h' news' → Q .none { s with heap := h' }) : wpAny (model prog w) A (call (.builtin "collections.deque.appendleft") [.ref D, x]) Q E s := by
  have hz : sizeLine = 16777216 := by decide
  have hmem : (D, dqO n xs) ∈ news := by
    obtain ⟨pre, post, rfl, rfl, a, b⟩ := U.split
    simp
  have hmem' : (D, dqO (n + 1) (x :: xs)) ∈ news' := by
    obtain ⟨pre, post, rfl, rfl, a, b⟩ := U.split
    simp
  refine wpAny_call_entry slot_dq_appendleft (dq_type (N _ hmem).1) entry_dq_appendleft ?_ (args_dq_appendleft _ _)
  show wpAny _ _ (do Deque.pushLeft (.ref D) x; ret .none) _ _ s
  unfold Deque.pushLeft
  refine wpAny_bind (wpAny_bind (dq_change F N U (by simp) (by simp; omega) fun h' F' N' => ?_))
  unfold Deque.maxlen
  refine wpAny_bind (wpAny_bind (wpAny_field (N' _ hmem').1 rfl (x := .none) (by simp) (wpAny_pure ?_)))
  exact wpAny_pure (wpAny_pure ⟨.none, rfl, h h' F' N'⟩)
theorem dq_popleft {x : Value} {Q : Value → Shared → Prop} (F : Fr h₀ L s.heap m) (N : News h₀ L s.heap news) (U : Upd D (dqO n (x :: xs)) (dqO (n + 1) xs) news news') (hsz : xs.length < 1000)
    (h : ∀ h', Fr h₀ L h' m → News h₀ L h' news' → Q x { s with heap := h' }) : wpAny (model prog w) A (call (.builtin "collections.deque.popleft") [.ref D]) Q E s := by
  have hz : sizeLine = 16777216 := by decide
  have hmem : (D, dqO n (x :: xs)) ∈ news := by
    obtain ⟨pre, post, rfl, rfl, a, b⟩ := U.split
    simp
  refine wpAny_call_entry slot_dq_popleft (dq_type (N _ hmem).1) entry_dq_popleft ?_ (args_dq_popleft _)
  show wpAny _ _ (do
    let some x := (← Deque.items (.ref D))[0]? | rule "collections.deque.popleft.empty"; raiseError "IndexError" "pop from an empty deque"
    Deque.change (.ref D) (·.eraseIdxIfInBounds 0)
    ret x) _ _ s
  unfold Deque.items
  refine wpAny_bind (wpAny_bind (wpAny_fieldsOf (N _ hmem).1 rfl (wpAny_pure ?_)))
  have he : ((#[Value.none, rawInt n] ++ (x :: xs).toArray).extract 2 (#[Value.none, rawInt n] ++ (x :: xs).toArray).size)[0]? = some x := by
    simp
  rw [he]
  refine wpAny_bind (dq_change F N U (by simp) (by omega) fun h' F' N' => ?_)
  exact wpAny_pure ⟨x, rfl, h h' F' N'⟩
end
end Mine

end
section
open Mine
namespace Mine
inductive St | fin | ws | sq | dq | esc | wd
inductive ES | sp | wd | dq
noncomputable def St.val (t : Tok) : St → Value
  | .fin => .none
  | .ws => .str (T [32]) t
  | .sq => .str (T [39]) t
  | .dq => .str (T [34]) t
  | .esc => .str (T [92]) t
  | .wd => .str (T [97]) t
noncomputable def ES.str : ES → Str
  | .sp => T [32]
  | .wd => T [97]
  | .dq => T [34]
noncomputable def ES.st : ES → St
  | .sp => .ws
  | .wd => .wd
  | .dq => .dq
noncomputable def bump (c : Nat) (line : Int) : Int := if c = 10 then line + 1 else line
inductive Out
  | done (s : List Nat) (st : St) (tok : List Nat) (line : Int) (q : Bool) (push : List Nat)
  | bad (esc : Bool) (st : St) (tok : List Nat) (line : Int)
inductive Run : List Nat → St → List Nat → Int → Bool → ES → Out → Prop
  | fin0 {tok line q es} : Run [] .fin tok line q es (.done [] .fin [] line q [])
  | ws0 {tok line q es} : Run [] .ws tok line q es (.done [] .fin tok line q [])
  | wsW {c s line line' es O} : line' = bump c line → isW c = true → Run s .ws [] line' false es O → Run (c :: s) .ws [] line false es O
  | wsC {s tok line q es O} : Run (aft s) .ws tok (line + 1) q es O → Run (35 :: s) .ws tok line q es O
  | wsE {s tok line q es O} : Run s .esc tok line q .wd O → Run (92 :: s) .ws tok line q es O
  | wsD {c s tok line q es O} : isC c = true → Run s .wd [c] line q es O → Run (c :: s) .ws tok line q es O
  | wsQ {s tok line q es O} : Run s .sq tok line q es O → Run (39 :: s) .ws tok line q es O
  | wsR {s tok line q es O} : Run s .dq tok line q es O → Run (34 :: s) .ws tok line q es O
  | wsP {c s tok line q es} : isW c = false → (c == 35) = false → (c == 92) = false → isC c = false → isQ c = false → Run (c :: s) .ws tok line q es (.done s .ws [c] line q [])
  | sq0 {tok line q es} : Run [] .sq tok line q es (.bad false .sq tok line)
  | dq0 {tok line q es} : Run [] .dq tok line q es (.bad false .dq tok line)
  | sqE {s tok line q es O} : Run s .wd tok line true es O → Run (39 :: s) .sq tok line q es O
  | sqC {c s tok line line' q es O} : line' = bump c line → c ≠ 39 → Run s .sq (tok ++ [c]) line' true es O → Run (c :: s) .sq tok line q es O
  | dqE {s tok line q es O} : Run s .wd tok line true es O → Run (34 :: s) .dq tok line q es O
  | dqX {s tok line q es O} : Run s .esc tok line true .dq O → Run (92 :: s) .dq tok line q es O
  | dqC {c s tok line line' q es O} : line' = bump c line → c ≠ 34 → (c == 92) = false → Run s .dq (tok ++ [c]) line' true es O → Run (c :: s) .dq tok line q es O
  | esc0 {tok line q es} : Run [] .esc tok line q es (.bad true .esc tok line)
  | escC {c s tok line line' q es O} : line' = bump c line → (es = .dq → c = 92 ∨ c = 34) → Run s es.st (tok ++ [c]) line' q es O → Run (c :: s) .esc tok line q es O
  | escB {c s tok line line' q O} : line' = bump c line → c ≠ 92 → c ≠ 34 → Run s .dq (tok ++ [92] ++ [c]) line' q .dq O → Run (c :: s) .esc tok line q .dq O
  | wd0 {tok line q es} : Run [] .wd tok line q es (.done [] .fin tok line q [])
  | wdW {c s tok line line' q es} : line' = bump c line → isW c = true → Run (c :: s) .wd tok line q es (.done s .ws tok line' q [])
  | wdC {s tok line q es} : Run (35 :: s) .wd tok line q es (.done (aft s) .ws tok (line + 1) q [])
  | wdQ {s tok line q es O} : Run s .sq tok line q es O → Run (39 :: s) .wd tok line q es O
  | wdR {s tok line q es O} : Run s .dq tok line q es O → Run (34 :: s) .wd tok line q es O
  | wdE {s tok line q es O} : Run s .esc tok line q .wd O → Run (92 :: s) .wd tok line q es O
  | wdD {c s tok line q es O} : isC c = true → Run s .wd (tok ++ [c]) line q es O → Run (c :: s) .wd tok line q es O
  | wdP {c s tok line q es} : isW c = false → (c == 35) = false → (c == 92) = false → isC c = false → isQ c = false → Run (c :: s) .wd tok line q es (.done s .ws tok line q [c])
noncomputable def out0 : St → List Nat → Int → Bool → Out
  | .fin, _, line, q => .done [] .fin [] line q []
  | .ws, tok, line, q => .done [] .fin tok line q []
  | .sq, tok, line, _ => .bad false .sq tok line
  | .dq, tok, line, _ => .bad false .dq tok line
  | .esc, tok, line, _ => .bad true .esc tok line
  | .wd, tok, line, q => .done [] .fin tok line q []
noncomputable def nilP (s : List Nat) (P : Prop) : Prop := match s with
  | [] => P
  | _ :: _ => True
theorem Run.inv {s : List Nat} {st : St} {tok : List Nat} {line : Int} {q : Bool} {es : ES} {O : Out} (h : Run s st tok line q es O) : nilP s (O = out0 st tok line q) := by
  apply Run.casesOn (motive := fun s st tok line q es O _ => nilP s (O = out0 st tok line q)) h
  all_goals intros; first | exact True.intro | exact rfl
theorem Run.inv0 {s : List Nat} {st : St} {tok : List Nat} {line : Int} {q : Bool} {es : ES} {O : Out} (h : Run s st tok line q es O) (e : s = []) : O = out0 st tok line q := by
  subst e; exact h.inv
structure LC where
  pos : Nat
  st : St
  tok : List Nat
  line : Int
  q : Bool
  es : ES
  tst : Tok
  tl : Tok
  tt : Tok
  t3 : Tok
  tes : Tok
theorem isQ_cases {c : Nat} (h : isQ c = true) : c = 39 ∨ c = 34 := by
  unfold isQ at h
  simpa using h
theorem drop_succ {r s : List Nat} {pos c : Nat} (h : r.drop pos = c :: s) : r.drop (pos + 1) = s := by
  rw [← List.drop_drop, h]; rfl
theorem aft_suffix : ∀ (l : List Nat), ∃ p, l = p ++ aft l
  | [] => ⟨[], rfl⟩
  | c :: l => by
    rw [aft_cons]
    split
    · exact ⟨[c], rfl⟩
    · obtain ⟨p, hp⟩ := aft_suffix l
      exact ⟨c :: p, by rw [List.cons_append, ← hp]⟩
theorem drop_tail {r y z : List Nat} (h : r = y ++ z) : r.drop (r.length - z.length) = z := by
  subst h
  have : (y ++ z).length - z.length = y.length := by simp
  rw [this, List.drop_left]
theorem drop_aft {r : List Nat} {p : Nat} : r.drop (r.length - (aft (r.drop p)).length) = aft (r.drop p) := by
  obtain ⟨q, hq⟩ := aft_suffix (r.drop p)
  exact drop_tail (y := r.take p ++ q) (by rw [List.append_assoc, ← hq, List.take_append_drop])
noncomputable def pushV (l : List (Nat × Tok)) : List Value := l.map fun p => .str (T [p.1]) p.2
end Mine

end
section
open Mine
namespace Mine
theorem Con.use {dd uu : Nat} {w : World} {f : Addr} {news : List (Addr × Obj)} {pre : Prop} {vs : List Value} {R : Value → List (Addr × Obj) → Prop} {RE : List Value → List (Addr × Obj) → Prop} (C : Con dd uu w f news pre vs R RE)
    {p : Program} {loose : List Str} {mean : ExcName → Option Value} {mg mb : Str → Option Value} {dp un : Nat} {gd : Option (List Code)} {cn : Str} {cs : Scope} {a : Addr} {ccd : Value} {cl : List (Str × Addr)} {outer : List Env} {A₀ : Around} {base h₀ : Heap} {L : Addr} {m : Str → Option Value} {s : Shared} {Q E : Value → Shared → Prop}
    (B : Below A₀ base outer h₀) (F : Fr h₀ L s.heap m) (X : (Mine.KK w.params).In h₀) (N : News h₀ L s.heap news) (T : Top p loose mean mg mb h₀) (hk : cs.kind = .function)
    (hp : pre) (hd : dp + dd < recursionLimit) (hu : un + uu < cLine)
    (ret : ∀ (v : Value) (h' : Heap) (tk' : Nat) (news' : List (Addr × Obj)), R v news' → Fr h₀ L h' m → News h₀ L h' news' → Q v { s with heap := h', toks := tk' })
    (exc : ∀ (e t : Addr) (g' h' : Heap) (tk' : Nat) (es : List Value) (news' : List (Addr × Obj)), RE es news' → Fr h₀ L g' m → RaisedS base g' (envX cn cs L a ccd cl :: outer) e (.type "ValueError") t es news' h' → RaisedK base (envX cn cs L a ccd cl :: outer) e (.type "ValueError") t es news' h' → g'.UpToSlots h' → E (.ref e) { s with heap := h', toks := tk' }) :
    wpAny (model PySem.Challenge.pw_in0151_02 w) (ktrTop dp un gd cn cs L a ccd cl outer) (call (.ref f) vs) Q E s :=
  C p loose mean mg mb dp un gd cn cs a ccd cl outer A₀ base h₀ L m s Q E B F X N T hk hp hd hu ret exc
end Mine

end
section
open Mine
namespace Mine
noncomputable abbrev Loc := List (Str × Value)
noncomputable abbrev Led := List (Addr × Obj)
structure Fn where
  cn : Str
  cs : Scope
  a : Addr
  ccd : Value
structure Fx where
  w : World
  p : Program
  loose : List Str
  mean : ExcName → Option Value
  mg : Str → Option Value
  mb : Str → Option Value
  dp : Nat
  un : Nat
  c : Nat
  u : Nat
  gd : Option (List Code)
  cl : List (Str × Addr)
  outer : List Env
  A₀ : Around
  base : Heap
  G : Heap
  L : Addr
noncomputable abbrev Fx.M (x : Fx) : Model := model PySem.Challenge.pw_in0151_02 x.w
noncomputable abbrev Fx.env (x : Fx) (f : Fn) : Env := envX f.cn f.cs x.L f.a f.ccd x.cl
noncomputable abbrev Fx.A (x : Fx) (f : Fn) : Around := ktrTop x.dp x.un x.gd f.cn f.cs x.L f.a f.ccd x.cl x.outer
structure Fx.Ok (x : Fx) (f : Fn) : Prop where
  B : Below x.A₀ x.base x.outer x.G
  X : (Mine.KK x.w.params).In x.G
  T : Top x.p x.loose x.mean x.mg x.mb x.G
  k : f.cs.kind = .function
  hd : x.dp + x.c < recursionLimit
  hu : x.un + x.u < cLine
noncomputable def look (m : Loc) (y : Str) : Option Value := m.lookup y
noncomputable def Kn (x : Fx) (m : Loc) (n : Led) (h : Heap) : Prop := (∃ mm, Fr x.G x.L h mm ∧ ∀ y v, look m y = some v → mm y = some v) ∧ News x.G x.L h n
noncomputable def Rz (x : Fx) (f : Fn) (e : Addr) (es : List Value) (n : Led) (h' : Heap) : Prop :=
  (∃ h mm, Heap.MadeExcOf h h' e (.type "ValueError") es ∧ Fr x.G x.L h mm ∧ News x.G x.L h n) ∨
  (∃ t g mm, Fr x.G x.L g mm ∧ RaisedS x.base g (x.env f :: x.outer) e (.type "ValueError") t es n h' ∧ g.UpToSlots h')
structure Tr {α : Type} (x : Fx) (f : Fn) (m : Loc) (n : Led) (t : Sem α) (R : α → Loc → Led → Prop) (X : List Value → Led → Prop) : Prop where
  mk ::
  run : ∀ (s : Shared) (Q : α → Shared → Prop) (E : Value → Shared → Prop), x.Ok f → Kn x m n s.heap →
    (∀ a m' n' h' tk', R a m' n' → Kn x m' n' h' → Q a { s with heap := h', toks := tk' }) →
    (∀ e h' tk' es n', X es n' → Rz x f e es n' h' → E (.ref e) { s with heap := h', toks := tk' }) →
    PassesOwn x.M (x.A f) (x.env f) E → wpAny x.M (x.A f) t Q E s
noncomputable abbrev NoX : List Value → Led → Prop := fun _ _ => False
section
variable {α β : Type} {x : Fx} {f : Fn} {m : Loc} {n : Led}
theorem Tr.mono {t : Sem α} {R R' : α → Loc → Led → Prop} {X X' : List Value → Led → Prop} (h : Tr x f m n t R X) (hr : ∀ a m' n', R a m' n' → R' a m' n') (hx : ∀ es n', X es n' → X' es n') : Tr x f m n t R' X' :=
  Tr.mk fun s Q E ok st q e po => h.run s Q E ok st (fun a m' n' h' tk' r => q a m' n' h' tk' (hr _ _ _ r)) (fun e' h' tk' es n' r => e e' h' tk' es n' (hx _ _ r)) po
theorem Kn.weak {m' : Loc} {n' : Led} {h : Heap} (s : Kn x m n h) (hm : ∀ p ∈ m', look m p.1 = some p.2) (hn : ∀ q ∈ n', q ∈ n) : Kn x m' n' h := by
  obtain ⟨⟨mm, F, k⟩, N⟩ := s
  refine ⟨⟨mm, F, fun y v e => ?_⟩, fun q hq => N q (hn q hq)⟩
  have : (y, v) ∈ m' := by
    clear k hn hm
    unfold look at e
    induction m' with
    | nil => cases e
    | cons p r ih =>
      rw [List.lookup_cons] at e
      split at e
      · next hy => rw [beq_iff_eq] at hy; cases e; subst hy; exact List.mem_cons_self
      · exact List.mem_cons_of_mem _ (ih e)
  exact k y v (hm _ this)
theorem Tr.weak {m' : Loc} {n' : Led} {t : Sem α} {R : α → Loc → Led → Prop} {X : List Value → Led → Prop} (hm : ∀ p ∈ m', look m p.1 = some p.2) (hn : ∀ q ∈ n', q ∈ n) (h : Tr x f m' n' t R X) : Tr x f m n t R X :=
  Tr.mk fun s Q E ok st => h.run s Q E ok (st.weak hm hn)
theorem Tr.seq {t : Sem β} {t₁ : Sem α} {t₂ : α → Sem β} {R₁ : α → Loc → Led → Prop} {R : β → Loc → Led → Prop} {X : List Value → Led → Prop}
    (k : ∀ (s : Shared) (Q : β → Shared → Prop) (E : Value → Shared → Prop), wpAny x.M (x.A f) t₁ (fun v s₁ => wpAny x.M (x.A f) (t₂ v) Q E s₁) E s → wpAny x.M (x.A f) t Q E s)
    (h₁ : Tr x f m n t₁ R₁ X) (h₂ : ∀ v m₁ n₁, R₁ v m₁ n₁ → Tr x f m₁ n₁ (t₂ v) R X) : Tr x f m n t R X :=
  Tr.mk fun s Q E ok st q e po => k s Q E (h₁.run s _ E ok st (fun v m₁ n₁ h' tk' r st' => (h₂ v m₁ n₁ r).run _ Q E ok st' q e po) e po)
theorem Tr.as {t t₁ : Sem α} {R : α → Loc → Led → Prop} {X : List Value → Led → Prop}
    (k : ∀ (s : Shared) (Q : α → Shared → Prop) (E : Value → Shared → Prop), wpAny x.M (x.A f) t₁ Q E s → wpAny x.M (x.A f) t Q E s) (h₁ : Tr x f m n t₁ R X) : Tr x f m n t R X :=
  Tr.mk fun s Q E ok st q e po => k s Q E (h₁.run s Q E ok st q e po)
theorem Tr.fin {t : Sem α} {R : α → Loc → Led → Prop} {X : List Value → Led → Prop} {V : α → Prop}
    (k : ∀ (s : Shared) (Q : α → Shared → Prop) (E : Value → Shared → Prop), (∀ v tk, V v → Q v { s with toks := tk }) → wpAny x.M (x.A f) t Q E s) (h : ∀ v, V v → R v m n) : Tr x f m n t R X :=
  Tr.mk fun s Q E _ st q _ _ => k s Q E fun v tk hv => q v m n s.heap tk (h v hv) st
theorem Tr.finS {t : Sem α} {R : α → Loc → Led → Prop} {X : List Value → Led → Prop} {V : α → Prop}
    (k : ∀ (s : Shared) (mm : Str → Option Value) (Q : α → Shared → Prop) (E : Value → Shared → Prop), x.Ok f → Fr x.G x.L s.heap mm → (∀ y v, look m y = some v → mm y = some v) → News x.G x.L s.heap n → (∀ v tk, V v → Q v { s with toks := tk }) → wpAny x.M (x.A f) t Q E s) (h : ∀ v, V v → R v m n) : Tr x f m n t R X :=
  Tr.mk fun s Q E ok st q _ _ => by
    obtain ⟨⟨mm, F, km⟩, N⟩ := st
    exact k s mm Q E ok F km N fun v tk hv => q v m n s.heap tk (h v hv) ⟨⟨mm, F, km⟩, N⟩
theorem Tr.use {t : Sem α} {V : α → Prop} (h : Tr x f m n t (fun v m' n' => V v ∧ m' = m ∧ n' = n) NoX) {s : Shared} {Q : α → Shared → Prop} {E : Value → Shared → Prop} (ok : x.Ok f) (st : Kn x m n s.heap)
    (q : ∀ v h' tk', V v → Kn x m n h' → Q v { s with heap := h', toks := tk' }) (po : PassesOwn x.M (x.A f) (x.env f) E) : wpAny x.M (x.A f) t Q E s :=
  h.run s Q E ok st (fun v m' n' h' tk' r st' => q v h' tk' r.1 (r.2.1 ▸ r.2.2 ▸ st')) (fun _ _ _ _ _ z => z.elim) po
noncomputable abbrev IsS (y : Str) (v : Value) : Prop := ∃ t, v = .str y t
noncomputable abbrev IsI (i : Int) (v : Value) : Prop := ∃ t, v = .int i t
noncomputable def Ep (x : Fx) (f : Fn) (m : Loc) (n : Led) (e : Expr) (V : Value → Prop) : Prop := Tr x f m n (eval e (x.env f)) (fun v m' n' => V v ∧ m' = m ∧ n' = n) NoX
noncomputable def Tp (x : Fx) (f : Fn) (m : Loc) (n : Led) (e : Expr) (b : Bool) : Prop := Tr x f m n (isTrue e (x.env f) (eval e (x.env f))) (fun c m' n' => c = b ∧ m' = m ∧ n' = n) NoX
noncomputable abbrev Ev (x : Fx) (f : Fn) (m : Loc) (n : Led) (e : Expr) (R : Value → Loc → Led → Prop) (X : List Value → Led → Prop) : Prop := Tr x f m n (eval e (x.env f)) R X
noncomputable abbrev Ex (x : Fx) (f : Fn) (m : Loc) (n : Led) (ts : List Stmt) (R : Flow → Loc → Led → Prop) (X : List Value → Led → Prop) : Prop := Tr x f m n (execs ts (x.env f)) R X
theorem Ep.go {e : Expr} {V : Value → Prop} {R : Value → Loc → Led → Prop} {X : List Value → Led → Prop} (h : Ep x f m n e V) (k : ∀ v, V v → R v m n) : Ev x f m n e R X :=
  Tr.mono h (fun v m' n' r => by obtain ⟨hv, rfl, rfl⟩ := r; exact k v hv) (fun _ _ z => z.elim)
theorem Tp.go {e : Expr} {b : Bool} {R : Bool → Loc → Led → Prop} {X : List Value → Led → Prop} (h : Tp x f m n e b) (k : R b m n) : Tr x f m n (isTrue e (x.env f) (eval e (x.env f))) R X :=
  Tr.mono h (fun v m' n' r => by obtain ⟨rfl, rfl, rfl⟩ := r; exact k) (fun _ _ z => z.elim)
theorem Ex.nil {R : Flow → Loc → Led → Prop} {X : List Value → Led → Prop} (h : R .next m n) : Ex x f m n [] R X :=
  Tr.mk fun s _ _ _ st q _ _ => wpAny_execs_nil (q _ _ _ s.heap s.toks h st)
theorem Ex.st {a : Stmt} {r : List Stmt} {R : Flow → Loc → Led → Prop} {X : List Value → Led → Prop} {R₁ : Flow → Loc → Led → Prop} (h₁ : Tr x f m n (exec a (x.env f)) R₁ X)
    (h₂ : ∀ m₁ n₁, R₁ .next m₁ n₁ → Ex x f m₁ n₁ r R X) (h₃ : ∀ fl m₁ n₁, fl ≠ .next → R₁ fl m₁ n₁ → R fl m₁ n₁) : Ex x f m n (a :: r) R X :=
  Tr.mk fun s Q E ok st q e po => wpAny_execs_cons (h₁.run s _ E ok st (fun fl m₁ n₁ h' tk' r st' => by
    cases fl with
    | next => exact (h₂ m₁ n₁ r).run _ Q E ok st' q e po
    | brk => exact q _ _ _ h' tk' (h₃ _ _ _ (by intro z; cases z) r) st'
    | cont => exact q _ _ _ h' tk' (h₃ _ _ _ (by intro z; cases z) r) st'
    | ret v => exact q _ _ _ h' tk' (h₃ _ _ _ (by intro z; cases z) r) st') e po)
theorem Ex.go {a : Stmt} {r : List Stmt} {R : Flow → Loc → Led → Prop} {X : List Value → Led → Prop} (h₁ : Tr x f m n (exec a (x.env f)) (fun fl m₁ n₁ => fl = .next ∧ Ex x f m₁ n₁ r R X) X) : Ex x f m n (a :: r) R X :=
  Ex.st h₁ (fun _ _ h => h.2) (fun _ _ _ hn h => absurd h.1 hn)
theorem execs_app (env : Env) (b : List Stmt) : ∀ a : List Stmt, execs (a ++ b) env = (do match ← execs a env with | .next => execs b env | fl => pure fl)
  | [] => rfl
  | t :: a => by
    show execs (t :: (a ++ b)) env = _
    rw [execs_cons, execs_cons, bind_assoc]
    congr 1
    funext fl
    cases fl with
    | next => exact execs_app env b a
    | _ => rfl
theorem execs_if (env : Env) (test : Expr) (a b r : List Stmt) (pos : Pos) : execs (.If test a b pos :: r) env = (do standAt pos; if ← isTrue test env (eval test env) then execs (a ++ r) env else execs (b ++ r) env) := by
  rw [execs_cons, exec_If, execs_app, execs_app]
  simp only [bind_assoc]
  congr 1
  funext _
  congr 1
  funext c
  cases c <;> rfl
theorem wpAny_ifs {M : Model} {A : Around} {E : Value → Shared → Prop} {s : Shared} {env : Env} {test : Expr} {a b r : List Stmt} {pos : Pos} {Q : Flow → Shared → Prop}
    (h : wpAny M A (isTrue test env (eval test env)) (fun c s₂ => wpAny M A (if c then execs (a ++ r) env else execs (b ++ r) env) Q E s₂) E s) : wpAny M A (execs (.If test a b pos :: r) env) Q E s := fun Γ p hΓ => by
  rw [execs_if]
  simp only [Sem.wp_bind', Sem.wp_cmd_standAt]
  refine Sem.wp_mono M Γ _ (fun c p₂ s₂ h₂ => h₂ Γ p₂ hΓ) (fun _ _ _ h' => h') _ _ (h Γ _ hΓ)
theorem Ex.iff {test : Expr} {a b r : List Stmt} {pos : Pos} {c : Bool} {R : Flow → Loc → Led → Prop} {X : List Value → Led → Prop} (ht : Tp x f m n test c)
    (h1 : c = true → Ex x f m n (a ++ r) R X) (h2 : c = false → Ex x f m n (b ++ r) R X) : Ex x f m n (.If test a b pos :: r) R X :=
  Tr.seq (t₂ := fun c => if c then execs (a ++ r) (x.env f) else execs (b ++ r) (x.env f)) (fun s Q E h => wpAny_ifs h) (ht.go (R := fun c' m₁ n₁ => c' = c ∧ m₁ = m ∧ n₁ = n) ⟨rfl, rfl, rfl⟩) (by
    rintro v m₁ n₁ ⟨rfl, rfl, rfl⟩
    cases v with
    | true => exact h1 rfl
    | false => exact h2 rfl)
theorem Ex.ifT {test : Expr} {a b r : List Stmt} {pos : Pos} {R : Flow → Loc → Led → Prop} {X : List Value → Led → Prop} (ht : Tp x f m n test true)
    (h : Ex x f m n (a ++ r) R X) : Ex x f m n (.If test a b pos :: r) R X := Ex.iff ht (fun _ => h) (fun h => nomatch h)
theorem Ex.ifF {test : Expr} {a b r : List Stmt} {pos : Pos} {R : Flow → Loc → Led → Prop} {X : List Value → Led → Prop} (ht : Tp x f m n test false)
    (h : Ex x f m n (b ++ r) R X) : Ex x f m n (.If test a b pos :: r) R X := Ex.iff ht (fun h => nomatch h) (fun _ => h)
theorem look_cons {y : Str} {v : Value} {m : Loc} : look ((y, v) :: m) = fun z => if z = y then some v else look m z := by
  funext z
  show List.lookup z ((y, v) :: m) = _
  rw [List.lookup_cons]
  cases h : z == y with
  | true => rw [if_pos (beq_iff_eq.mp h)]
  | false => rw [if_neg (beq_eq_false_iff_ne.mp h)]; rfl
theorem Tr.store {y : Str} {v : Value} {R : Unit → Loc → Led → Prop} {X : List Value → Led → Prop} (hx : (x.env f).kindOf y = some .local) (h : R () ((y, v) :: m) n) : Tr x f m n (storeName (x.env f) y v) R X :=
  Tr.mk fun s Q E ok st q _ _ => by
    obtain ⟨⟨mm, F, km⟩, N⟩ := st
    refine storeX_L F N (fun h' F' N' => q () _ n h' (s.toks + 1) h ⟨⟨_, F', fun z u e => ?_⟩, N'⟩) ok.k hx
    rw [look_cons] at e
    dsimp only at e ⊢
    split at e
    · next hz => rw [if_pos hz]; exact e
    · next hz => rw [if_neg hz]; exact km z u e
theorem Ex.asg {y : Str} {p pos : Pos} {e : Expr} {r : List Stmt} {R : Flow → Loc → Led → Prop} {X : List Value → Led → Prop} {R₁ : Value → Loc → Led → Prop} (h₁ : Ev x f m n e R₁ X)
    (h₂ : ∀ v m₁ n₁, R₁ v m₁ n₁ → Ex x f ((y, v) :: m₁) n₁ r R X) (hs : swapsWith e (some (.Name y p)) pos.line (x.env f) = pure false := by rfl) (hx : (x.env f).kindOf y = some .local := by rfl) : Ex x f m n (.Assign [.Name y p] e pos :: r) R X :=
  Ex.go <| Tr.mk fun s Q E ok st q ee po => wpAny_Assign_Name (h₁.run s _ E ok st (fun v m₁ n₁ h' tk' r st' => (Tr.store hx (R := fun _ m₂ n₂ => m₂ = (y, v) :: m₁ ∧ n₂ = n₁) ⟨rfl, rfl⟩).run _ _ E ok st' (by rintro _ _ _ h'' tk'' ⟨e1, e2⟩ st''; rw [e1, e2] at st''; exact q _ _ _ h'' tk'' ⟨rfl, h₂ v m₁ n₁ r⟩ st'') ee po) ee po) hs
theorem Ex.asp {y : Str} {p pos : Pos} {e : Expr} {r : List Stmt} {R : Flow → Loc → Led → Prop} {X : List Value → Led → Prop} {V : Value → Prop} (h₁ : Ep x f m n e V)
    (h₂ : ∀ v, V v → Ex x f ((y, v) :: m) n r R X) (hs : swapsWith e (some (.Name y p)) pos.line (x.env f) = pure false := by rfl) (hx : (x.env f).kindOf y = some .local := by rfl) : Ex x f m n (.Assign [.Name y p] e pos :: r) R X :=
  Ex.asg (R₁ := fun v m₁ n₁ => V v ∧ m₁ = m ∧ n₁ = n) (h₁.go fun v hv => ⟨hv, rfl, rfl⟩) (by rintro v _ _ ⟨hv, rfl, rfl⟩; exact h₂ v hv) hs hx
theorem Ex.ret {e : Expr} {pos : Pos} {r : List Stmt} {R : Flow → Loc → Led → Prop} {X : List Value → Led → Prop} (h : Ev x f m n e (fun v => R (.ret v)) X) : Ex x f m n (.Return (some e) pos :: r) R X :=
  Ex.st (R₁ := fun fl m₁ n₁ => fl ≠ .next ∧ R fl m₁ n₁) (Tr.mk fun s Q E ok st q ee po => wpAny_Return_some (h.run s _ E ok st (fun v m₁ n₁ h' tk' r st' => q _ m₁ n₁ h' tk' ⟨by (intro z; cases z), r⟩ st') ee po)) (fun _ _ h => absurd rfl h.1) (fun _ _ _ _ h => h.2)
theorem Ex.brk {pos : Pos} {r : List Stmt} {R : Flow → Loc → Led → Prop} {X : List Value → Led → Prop} (h : R .brk m n) : Ex x f m n (.Break pos :: r) R X :=
  Ex.st (R₁ := fun fl m₁ n₁ => fl = .brk ∧ R fl m₁ n₁) (Tr.mk fun s Q E ok st q ee po => wpAny_Break (q _ m n s.heap s.toks ⟨rfl, h⟩ st)) (fun _ _ h => nomatch h.1) (fun _ _ _ _ h => h.2)
theorem Ex.cont {pos : Pos} {r : List Stmt} {R : Flow → Loc → Led → Prop} {X : List Value → Led → Prop} (h : R .cont m n) : Ex x f m n (.Continue pos :: r) R X :=
  Ex.st (R₁ := fun fl m₁ n₁ => fl = .cont ∧ R fl m₁ n₁) (Tr.mk fun s Q E ok st q ee po => wpAny_Continue (q _ m n s.heap s.toks ⟨rfl, h⟩ st)) (fun _ _ h => nomatch h.1) (fun _ _ _ _ h => h.2)
theorem Ex.exp {e : Expr} {pos : Pos} {r : List Stmt} {R : Flow → Loc → Led → Prop} {X : List Value → Led → Prop} (h : Ev x f m n e (fun _ m₁ n₁ => Ex x f m₁ n₁ r R X) X)
    (hs : swapsWith e none pos.line (x.env f) = pure false := by rfl) (hi : interactive (x.env f) = false := by rfl) : Ex x f m n (.Expr e pos :: r) R X :=
  Ex.go <| Tr.mk fun s Q E ok st q ee po => wpAny_Expr_any (h.run s _ E ok st (fun v m₁ n₁ h' tk' r st' => q _ m₁ n₁ h' tk' ⟨rfl, r⟩ st') ee po) hi hs
theorem Ep.name {y : Str} {pos : Pos} {v : Value} (hv : look m y = some v) (hx : (x.env f).kindOf y = some .local := by rfl) (hd : (y == ("__debug__" : Str)) = false := by decide) : Ep x f m n (.Name y pos) (· = v) :=
  Tr.finS (V := (· = v)) (fun s mm Q E ok F km N q => nameX_L F (km y v hv) (q v s.toks rfl) ok.k hx hd) fun v h => ⟨h, rfl, rfl⟩
theorem Ep.str {y : Str} {k : Nat} {pos : Pos} : Ep x f m n (.Constant (.str y) k pos) (IsS y) := Tr.fin (fun s Q E q => Calls.Constant_str (q _ _ ⟨_, rfl⟩)) fun v h => ⟨h, rfl, rfl⟩
theorem Ep.int {i : Int} {k : Nat} {pos : Pos} : Ep x f m n (.Constant (.int i) k pos) (IsI i) := Tr.fin (fun s Q E q => wpAny_Constant_int (q _ _ ⟨_, rfl⟩)) fun v h => ⟨h, rfl, rfl⟩
theorem Ep.none {k : Nat} {pos : Pos} : Ep x f m n (.Constant .none k pos) (· = .none) := Tr.fin (V := (· = .none)) (fun s Q E q => wpAny_Constant_none (q _ s.toks rfl)) fun v h => ⟨h, rfl, rfl⟩
theorem Ep.bool {b : Bool} {k : Nat} {pos : Pos} : Ep x f m n (.Constant (.bool b) k pos) (· = .bool b) := Tr.fin (V := (· = .bool b)) (fun s Q E q => wpAny_Constant_bool (q _ s.toks rfl)) fun v h => ⟨h, rfl, rfl⟩
theorem Ep.mono {e : Expr} {V V' : Value → Prop} (h : Ep x f m n e V) (k : ∀ v, V v → V' v) : Ep x f m n e V' := h.go fun v hv => ⟨k v hv, rfl, rfl⟩
noncomputable def Cop (op : CmpOp) (Vl Vr : Value → Prop) (b : Bool) : Prop :=
  ∀ (w : World) (A : Around) (E : Value → Shared → Prop) (s : Shared) (Q : Value → Shared → Prop) (vl vr : Value), Vl vl → Vr vr → (∀ k, Q (.bool b) { s with toks := k }) → wpAny (model PySem.Challenge.pw_in0151_02 w) A (compareOp op vl vr) Q E s
theorem Tp.cmp {l r : Expr} {op : CmpOp} {pos : Pos} {Vl Vr : Value → Prop} {b : Bool} (hl : Ep x f m n l Vl) (hr : Ep x f m n r Vr) (ho : Cop op Vl Vr b) (hm : behindInMarks op r = false := by with_unfolding_all rfl) : Tp x f m n (.Compare l [op] [r] pos) b :=
  Tr.mk fun s Q E ok st q ee po => wpAny_isTrue_Compare1 (hl.use ok st (fun vl h1 t1 e1 st1 => by
    refine hr.use ok st1 (fun vr h2 t2 e2 st2 => ?_) po
    exact ho _ _ _ _ _ _ _ e1 e2 fun k => wpAny_truthy_bool (q _ _ _ _ _ ⟨rfl, rfl, rfl⟩ st2)) po) hm
theorem Tp.cast {e : Expr} {b c : Bool} (h : Tp x f m n e b) (k : b = c) : Tp x f m n e c := k ▸ h
noncomputable def TL (x : Fx) (f : Fn) (m : Loc) (n : Led) (op : BoolOp) (es : List Expr) (b : Bool) : Prop := ∀ (pos : Pos) (whole : Sem Value), Tr x f m n (isTrue (.BoolOp op es pos) (x.env f) whole) (fun c m' n' => c = b ∧ m' = m ∧ n' = n) NoX
theorem TL.andN : TL x f m n .And [] true := fun _ _ => Tr.mk fun s Q E ok st q ee po => isTrue_and_nil (q _ _ _ s.heap s.toks ⟨rfl, rfl, rfl⟩ st)
theorem TL.orN : TL x f m n .Or [] false := fun _ _ => Tr.mk fun s Q E ok st q ee po => isTrue_or_nil (q _ _ _ s.heap s.toks ⟨rfl, rfl, rfl⟩ st)
theorem TL.andF {y : Expr} {r : List Expr} (h : Tp x f m n y false) : TL x f m n .And (y :: r) false := fun _ whole => Tr.mk fun s Q E ok st q ee po => isTrue_and (h.use ok st (fun v h1 t1 hv0 st1 => by
    subst hv0
    exact ite_ff (q _ _ _ _ _ ⟨rfl, rfl, rfl⟩ st1)) po)
theorem TL.andB {y : Expr} {r : List Expr} {b c : Bool} (h : Tp x f m n y b) (hr : TL x f m n .And r c) : TL x f m n .And (y :: r) (b && c) := fun _ whole => Tr.mk fun s Q E ok st q ee po => isTrue_and (h.use ok st (fun v h1 t1 hv0 st1 => by
    subst hv0
    cases v with
    | true => exact ite_tt ((hr _ whole).run _ Q E ok st1 q ee po)
    | false => exact ite_ff (q _ _ _ _ _ ⟨rfl, rfl, rfl⟩ st1)) po)
theorem TL.orT {y : Expr} {r : List Expr} (h : Tp x f m n y true) : TL x f m n .Or (y :: r) true := fun _ whole => Tr.mk fun s Q E ok st q ee po => isTrue_or (h.use ok st (fun v h1 t1 hv0 st1 => by
    subst hv0
    exact ite_tt (q _ _ _ _ _ ⟨rfl, rfl, rfl⟩ st1)) po)
theorem TL.orB {y : Expr} {r : List Expr} {b c : Bool} (h : Tp x f m n y b) (hr : TL x f m n .Or r c) : TL x f m n .Or (y :: r) (b || c) := fun _ whole => Tr.mk fun s Q E ok st q ee po => isTrue_or (h.use ok st (fun v h1 t1 hv0 st1 => by
    subst hv0
    cases v with
    | true => exact ite_tt (q _ _ _ _ _ ⟨rfl, rfl, rfl⟩ st1)
    | false => exact ite_ff ((hr _ whole).run _ Q E ok st1 q ee po)) po)
theorem TL.andT {y : Expr} {r : List Expr} {c : Bool} (h : Tp x f m n y true) (hr : TL x f m n .And r c) : TL x f m n .And (y :: r) c := Bool.true_and c ▸ TL.andB h hr
theorem TL.orF {y : Expr} {r : List Expr} {c : Bool} (h : Tp x f m n y false) (hr : TL x f m n .Or r c) : TL x f m n .Or (y :: r) c := Bool.false_or c ▸ TL.orB h hr
theorem TL.and1 {y : Expr} {b : Bool} (h : Tp x f m n y b) : TL x f m n .And [y] b := Bool.and_true b ▸ TL.andB h TL.andN
theorem TL.or1 {y : Expr} {b : Bool} (h : Tp x f m n y b) : TL x f m n .Or [y] b := Bool.or_false b ▸ TL.orB h TL.orN
theorem Tp.L {op : BoolOp} {es : List Expr} {pos : Pos} {b : Bool} (h : TL x f m n op es b) : Tp x f m n (.BoolOp op es pos) b := h pos _
theorem Tp.not {y : Expr} {pos : Pos} {b : Bool} (h : Tp x f m n y b) : Tp x f m n (.UnaryOp .Not y pos) (!b) := Tr.mk fun s Q E ok st q ee po => isTrue_not (h.use ok st (fun v h1 t1 hv0 st1 => by
    subst hv0
    exact q _ _ _ _ _ ⟨rfl, rfl, rfl⟩ st1) po)
noncomputable def Tv (V : Value → Prop) (b : Bool) : Prop := ∀ (w : World) (A : Around) (E : Value → Shared → Prop) (s : Shared) (Q : Bool → Shared → Prop) (v : Value), V v → (∀ k, Q b { s with toks := k }) → wpAny (model PySem.Challenge.pw_in0151_02 w) A (truthy v) Q E s
theorem Tp.val {e : Expr} {V : Value → Prop} {b : Bool} (h : Ep x f m n e V) (hv : Tv V b) (hp : isTrue e (x.env f) (eval e (x.env f)) = (do
      let v ← eval e (x.env f)
      standAt e.pos
      holding [v] (truthy v)) := by rfl) : Tp x f m n e b := Tr.mk fun s Q E ok st q ee po => isTrue_plain (h.use ok st (fun v h1 t1 e1 st1 => by
    exact hv _ _ _ _ _ _ e1 fun k => q _ _ _ _ _ ⟨rfl, rfl, rfl⟩ st1) po) hp
theorem Tv.bool {b : Bool} : Tv (· = .bool b) b := fun _ _ _ s _ _ h q => by subst h; exact wpAny_truthy_bool (q s.toks)
theorem Tv.none : Tv (· = .none) false := fun _ _ _ s _ _ h q => by subst h; exact truthy_none (q s.toks)
theorem Tv.one {c : Nat} {t : Tok} : Tv (· = .str (⟨[c].toArray⟩ : Str) t) true := fun _ _ _ _ _ _ h q => by subst h; exact truthy_one q
theorem Tv.txt {l : List Nat} {t : Tok} (hl : l.length < 1000000) : Tv (· = .str (⟨l.toArray⟩ : Str) t) (!l.isEmpty) := fun _ _ _ _ _ _ h q => by subst h; exact truthy_T hl q
theorem Tv.emp {t : Tok} : Tv (· = .str (Str.ofString "") t) false := fun _ _ _ _ _ _ h q => by
  subst h
  rw [show Str.ofString "" = (⟨([] : List Nat).toArray⟩ : Str) by decide +kernel]
  exact truthy_T (by decide) q
theorem Cop.isNN : Cop .Is (· = .none) (· = .none) true := fun _ _ _ s _ _ _ h1 h2 q => by subst h1 h2; exact is_none_none (q s.toks)
theorem Cop.isSN {y : Str} {t : Tok} : Cop .Is (· = .str y t) (· = .none) false := fun _ _ _ s _ _ _ h1 h2 q => by subst h1 h2; exact is_str_none (q s.toks)
theorem Cop.isIN {i : Int} {t : Tok} : Cop .Is (· = .int i t) (· = .none) false := fun _ _ _ s _ _ _ h1 h2 q => by subst h1 h2; exact is_int_none (q s.toks)
theorem Cop.eq1 {c d : Nat} {y : Str} {t : Tok} (hy : y = ⟨[d].toArray⟩) : Cop .Eq (· = .str (⟨[c].toArray⟩ : Str) t) (IsS y) (decide (c = d)) := fun _ _ _ s _ _ _ h1 h2 q => by
  obtain ⟨u, h2⟩ := h2
  subst h1 h2
  refine eq_one hy ?_
  rw [show (c == d) = decide (c = d) from rfl]
  exact q s.toks
theorem Cop.eqC {y z : Str} {t : Tok} {b : Bool} (hb : (y.cps.toList == z.cps.toList) = b) : Cop .Eq (· = .str y t) (IsS z) b := fun _ _ _ s _ _ _ h1 h2 q => by
  obtain ⟨u, h2⟩ := h2
  subst h1 h2
  refine P.eq_str ?_
  subst hb
  have e : (y == z) = (y.cps.toList == z.cps.toList) := by
    rw [Bool.eq_iff_iff, beq_iff_eq, beq_iff_eq]
    constructor
    · rintro rfl; rfl
    · intro h; cases y; cases z; simp only [Str.mk.injEq]; exact Array.toList_inj.mp h
  first | exact e ▸ q s.toks | (rw [e]; exact q s.toks)
section
variable {c d : Nat} {t u : Tok}
theorem Cop.nl : Cop .Eq (· = .str (⟨[c].toArray⟩ : Str) t) (IsS (Str.ofString "\n")) (decide (c = 10)) := Cop.eq1 (by decide +kernel)
theorem Cop.eqdd : Cop .Eq (· = .str (⟨[c].toArray⟩ : Str) t) (· = .str (⟨[d].toArray⟩ : Str) u) (decide (c = d)) := fun _ _ _ s _ _ _ h1 h2 q => Cop.eq1 rfl _ _ _ s _ _ _ h1 ⟨u, h2⟩ q
theorem Cop.nedd : Cop .NotEq (· = .str (⟨[c].toArray⟩ : Str) t) (· = .str (⟨[d].toArray⟩ : Str) u) (!decide (c = d)) := fun _ _ _ s _ _ _ h1 h2 q => by
  subst h1 h2
  refine ne_str ?_
  have e : ((⟨[c].toArray⟩ : Str) != ⟨[d].toArray⟩) = !decide (c = d) := by
    show (!((⟨[c].toArray⟩ : Str) == ⟨[d].toArray⟩)) = _
    congr 1
    rw [Bool.eq_iff_iff, beq_iff_eq, decide_eq_true_iff]
    constructor
    · intro h; simpa using h
    · rintro rfl; rfl
  rw [e]
  exact q s.toks
theorem Cop.of_in {y : Str} {b : Bool} (h : ∀ (prog : Program) (w : World) (A : Around) (E : Value → Shared → Prop) (s : Shared) (Q : Value → Shared → Prop), Q (.bool b) s → wpAny (model prog w) A (compareOp .In (.str (⟨[c].toArray⟩ : Str) t) (.str y u)) Q E s) :
    Cop .In (· = .str (⟨[c].toArray⟩ : Str) t) (· = .str y u) b := fun _ _ _ s _ _ _ h1 h2 q => by subst h1 h2; exact h _ _ _ _ _ _ (q s.toks)
theorem Cop.inW : Cop .In (· = .str (⟨[c].toArray⟩ : Str) t) (· = .str (Str.ofString " \t\r\n") u) (isW c) := Cop.of_in fun _ _ _ _ _ _ => in_ws
theorem Cop.inQ : Cop .In (· = .str (⟨[c].toArray⟩ : Str) t) (· = .str (Str.ofString "'\"") u) (isQ c) := Cop.of_in fun _ _ _ _ _ _ => in_qs
theorem Cop.inH : Cop .In (· = .str (⟨[c].toArray⟩ : Str) t) (· = .str (Str.ofString "#") u) (c == 35) := Cop.of_in fun _ _ _ _ _ _ => in_cm
theorem Cop.inB : Cop .In (· = .str (⟨[c].toArray⟩ : Str) t) (· = .str (Str.ofString "\\") u) (c == 92) := Cop.of_in fun _ _ _ _ _ _ => in_es
theorem Cop.inD : Cop .In (· = .str (⟨[c].toArray⟩ : Str) t) (· = .str (Str.ofString "\"") u) (c == 34) := Cop.of_in fun _ _ _ _ _ _ => in_dt
theorem Cop.inN : Cop .In (· = .str (⟨[c].toArray⟩ : Str) t) (· = .str (Str.ofString "") u) false := Cop.of_in fun _ _ _ _ _ _ => in_none
theorem Cop.inC : Cop .In (· = .str (⟨[c].toArray⟩ : Str) t) (· = .str wcs u) (isC c) := Cop.of_in fun _ _ _ _ _ _ => in_wc
theorem Cop.geI {i j : Int} {b : Bool} (hb : decide (i ≥ j) = b) : Cop .GtE (· = .int i t) (IsI j) b := fun _ _ _ s _ _ _ h1 h2 q => by obtain ⟨u, h2⟩ := h2; subst h1 h2 hb; exact P.ge_int (q s.toks)
theorem Cop.gtI {i j : Int} {b : Bool} (hb : decide (i > j) = b) : Cop .Gt (· = .int i t) (IsI j) b := fun _ _ _ s _ _ _ h1 h2 q => by obtain ⟨u, h2⟩ := h2; subst h1 h2 hb; exact P.gt_int (q s.toks)
end
theorem raisedS_less {base G : Heap} {l : List Env} {e t : Addr} {cls : Value} {vs : List Value} {n n' : Led} {h : Heap} (R : RaisedS base G l e cls t vs n h) (hs : ∀ q ∈ n', q ∈ n) : RaisedS base G l e cls t vs n' h := by
  obtain ⟨⟨B, h1, h2, h3, h4⟩, h5⟩ := R
  exact ⟨⟨B, h1, h2, fun q hq => h3 q (hs q hq), h4⟩, h5⟩
noncomputable def Ea (x : Fx) (f : Fn) (m : Loc) (n : Led) (es : List Expr) (V : List Value → Prop) : Prop := ∀ pos, Tr x f m n (spliced (backTo pos (starEach es (x.env f)))) (fun vs m' n' => V vs ∧ m' = m ∧ n' = n) NoX
theorem Ea.nil : Ea x f m n [] (· = []) := fun _ => Tr.mk fun s Q E ok st q ee po => args_nil (q _ _ _ s.heap s.toks ⟨rfl, rfl, rfl⟩ st)
theorem Ea.cons {e : Expr} {r : List Expr} {V₁ : Value → Prop} {V₂ : List Value → Prop} (h₁ : Ep x f m n e V₁) (h₂ : Ea x f m n r V₂) (hs : starEach (e :: r) (x.env f) = (false, eval e (x.env f)) :: starEach r (x.env f) := by rfl) :
    Ea x f m n (e :: r) (fun l => ∃ v vs, l = v :: vs ∧ V₁ v ∧ V₂ vs) := fun pos => Tr.mk fun s Q E ok st q ee po => args_cons (h₁.use ok st (fun v h1 t1 e1 st1 => by
    refine (h₂ pos).use ok st1 (fun vs h2 t2 e2 st2 => ?_) po
    exact q _ _ _ _ _ ⟨⟨v, vs, rfl, e1, e2⟩, rfl, rfl⟩ st2) po) hs
theorem Tr.con {dd uu : Nat} {fa : Addr} {n₀ : Led} {pre : Prop} {vs : List Value} {R : Value → Led → Prop} {RE : List Value → Led → Prop} (C : Con dd uu x.w fa n₀ pre vs R RE) (hp : pre) (hn : ∀ q ∈ n₀, q ∈ n) (h5 : dd ≤ x.c) (hu : uu ≤ x.u)
    {R' : Value → Loc → Led → Prop} {X : List Value → Led → Prop} (hR : ∀ v n', R v n' → ∃ n₂, (∀ q ∈ n₂, q ∈ n') ∧ R' v m n₂) (hX : ∀ es n', RE es n' → ∃ n₂, (∀ q ∈ n₂, q ∈ n') ∧ X es n₂) : Tr x f m n (call (.ref fa) vs) R' X := Tr.mk fun s Q E ok st q ee _ => by
  obtain ⟨⟨mm, F, km⟩, N⟩ := st
  have h1 := ok.hd
  have h2 := ok.hu
  refine C x.p x.loose x.mean x.mg x.mb x.dp x.un x.gd f.cn f.cs f.a f.ccd x.cl x.outer x.A₀ x.base x.G x.L mm s Q E ok.B F ok.X (fun q hq => N q (hn q hq)) ok.T ok.k hp (by omega) (by omega) (fun v h' tk' n' r F' N' => ?_) (fun e t g' h' tk' es n' r F' RS _ u => ?_)
  · obtain ⟨n₂, hs, hr⟩ := hR v n' r
    exact q v m n₂ h' tk' hr ⟨⟨mm, F', km⟩, fun q hq => N' q (hs q hq)⟩
  · obtain ⟨n₂, hs, hr⟩ := hX es n' r
    exact ee e h' tk' es n₂ hr (.inr ⟨t, g', mm, F', raisedS_less RS hs, u⟩)
end
noncomputable def retv : Flow → Value
  | .ret v => v
  | _ => .none
theorem code_of {c u : Nat} {w : World} {fa : Addr} {news : Led} {args : Args} {R : Value → Led → Prop} {RE : List Value → Led → Prop}
    {name qual : Str} {params : Arguments} {body : List Stmt} {scope : Scope} {dV kV doc pm cdv ct oc : Value} {an od : Option Addr} {osl : Array (Option Value)} {binds : List (Str × Value)}
    (ho : (Mine.KK w.params).lookup fa = some ⟨oc, od, .func (fnOf name qual params body scope dV kV doc pm an cdv ct), osl⟩) (hcd : codeIn (Mine.KK w.params) cdv qual = true)
    (hbind : ∀ s : Shared, (Mine.KK w.params).In s.heap → BindsTo s (fnOf name qual params body scope dV kV doc pm an cdv ct) args binds) (hloc : ∀ y ∈ binds, scope.names.lookup y.1 = some .local)
    (h : ∀ x : Fx, x.w = w → x.c = c → x.u = u → x.cl = [] → Ex x ⟨qual, scope, fa, cdv⟩ binds.reverse news body (fun fl _ n' => R (retv fl) n') RE)
    (hco : scope.isCoroutine = false) (hgen : scope.isGenerator = false) (hk : scope.kind = .function) (hcell : ∀ x ∈ scope.names, x.2 ≠ .cell)
    {p : Program} {loose : List Str} {mean : ExcName → Option Value} {mg mb : Str → Option Value} {A : Around} {env : Env} {outer : List Env} {A₀ : Around} {base h₀ : Heap} {L : Addr} {m : Str → Option Value} {s : Shared} {Q E : Value → Shared → Prop}
    (hA : A.frames = some (env :: outer)) (hf : env.frame = some L) (hck : env.scope.kind = .function) (hh : A.handled = none)
    (B : Below A₀ base outer h₀) (F : Fr h₀ L s.heap m) (X : (Mine.KK w.params).In h₀) (N : News h₀ L s.heap news) (T : Top p loose mean mg mb h₀) (hdp : A.depth + 1 + c < recursionLimit) (hun : A.units + 3 + u < cLine)
    (ret : ∀ (v : Value) (h' : Heap) (tk' : Nat) (news' : Led), R v news' → Fr h₀ L h' m → News h₀ L h' news' → Q v { s with heap := h', toks := tk' })
    (rai : ∀ (e t : Addr) (g' h' : Heap) (tk' : Nat) (es : List Value) (news' : Led), RE es news' → Fr h₀ L g' m → RaisedS base g' (env :: outer) e (.type "ValueError") t es news' h' → RaisedK base (env :: outer) e (.type "ValueError") t es news' h' → g'.UpToSlots h' → E (.ref e) { s with heap := h', toks := tk' }) :
    codeAny (model PySem.Challenge.pw_in0151_02 w) A (.call (.ref fa) args) (fun r s' => match r with | .ok (.ret v) => Q v s' | .ok _ => False | .error e => E e s') s := by
  refine code_def (env := env) (outer := outer) B F X N T hA hf hck ho hcd (Nat.lt_of_le_of_lt (Nat.le_trans (Nat.le_add_right _ 1) (Nat.le_add_right _ c)) hdp) (hbind s (X.keeps F.keep)) hloc ?_ hco hgen hk hcell
  intro G LL h1 FG F1 N1 B1 X1 T1
  obtain ⟨ah, ad, af, ag, au⟩ := A
  cases hA
  cases hh
  refine (h ⟨w, p, loose, mean, mg, mb, ad + 1, au + 3, c, u, ag, [], env :: outer, _, base, G, LL⟩ rfl rfl rfl rfl).run _ _ _ ⟨B1, X1, T1, hk, hdp, hun⟩ ⟨⟨_, F1, fun _ _ e => e⟩, N1⟩ ?_ ?_ ?_
  · rintro fl m' n' h' tk' r ⟨⟨mm, F', _⟩, N'⟩
    exact ⟨LL, mm, n', F', N', fun F₂ N₂ => by
      have := ret (retv fl) h' tk' n' r F₂ N₂
      cases fl <;> exact this⟩
  · rintro e h' tk' es n' r z
    rcases z with ⟨g, mm, hx, F', N'⟩ | ⟨t, g, mm, F', RS, u⟩
    · exact leave_raiseS B1 hx F' N' (fun h₂ t R₁ R₂ U => rai e t G h₂ tk' es n' r FG R₁ R₂ U) hk
    · exact leave_onS B1 F' RS u (fun h₂ R₁ R₂ U => rai e t G h₂ tk' es n' r FG R₁ R₂ U)
  · exact PassesOwn.leaving
theorem Con.of {dd uu : Nat} {w : World} {fa : Addr} {news : Led} {pre : Prop} {vs : List Value} {R : Value → Led → Prop} {RE : List Value → Led → Prop}
    {name qual : Str} {params : Arguments} {body : List Stmt} {scope : Scope} {dV kV doc pm cdv ct oc : Value} {an od : Option Addr} {osl : Array (Option Value)} {binds : List (Str × Value)}
    (ho : (Mine.KK w.params).lookup fa = some ⟨oc, od, .func (fnOf name qual params body scope dV kV doc pm an cdv ct), osl⟩) (hcd : codeIn (Mine.KK w.params) cdv qual = true)
    (hbind : ∀ s : Shared, (Mine.KK w.params).In s.heap → BindsTo s (fnOf name qual params body scope dV kV doc pm an cdv ct) ⟨vs, []⟩ binds) (hloc : ∀ y ∈ binds, scope.names.lookup y.1 = some .local)
    (hlv : 0 < dd ∧ 2 < uu) (h : pre → ∀ x : Fx, x.w = w → x.c = dd - 1 → x.u = uu - 3 → x.cl = [] → Ex x ⟨qual, scope, fa, cdv⟩ binds.reverse news body (fun fl _ n' => R (retv fl) n') RE)
    (hco : scope.isCoroutine = false) (hgen : scope.isGenerator = false) (hk : scope.kind = .function) (hcell : ∀ x ∈ scope.names, x.2 ≠ .cell) : Con dd uu w fa news pre vs R RE := by
  intro p loose mean mg mb dp un gd cn cs a ccd cl outer A₀ base h₀ L m s Q E B F X N T hck hpre hdp hun ret rai
  exact wpAny_call (code_of (env := envX cn cs L a ccd cl) (outer := outer) ho hcd hbind hloc (h hpre) hco hgen hk hcell rfl rfl hck rfl B F X N T (by show dp + 1 + (dd - 1) < recursionLimit; omega) (by show un + 3 + (uu - 3) < cLine; omega) ret rai)
end Mine

end
section
open Mine
namespace Mine
noncomputable def ownOk (K : Frag) (C : Addr) (name : Str) : Bool := plainGet K C name && hasDictIn K C && (match findIn K (.ref C) name with | some r => noGet K r | none => false)
section
variable {α β : Type} {x : Fx} {f : Fn} {m : Loc} {n : Led}
theorem Tr.ep {t : Sem β} {e : Expr} {t₂ : Value → Sem β} {V : Value → Prop} {R : β → Loc → Led → Prop} {X : List Value → Led → Prop}
    (k : ∀ (s : Shared) (Q : β → Shared → Prop) (E : Value → Shared → Prop), wpAny x.M (x.A f) (eval e (x.env f)) (fun v s₁ => wpAny x.M (x.A f) (t₂ v) Q E s₁) E s → wpAny x.M (x.A f) t Q E s)
    (h₁ : Ep x f m n e V) (h₂ : ∀ v, V v → Tr x f m n (t₂ v) R X) : Tr x f m n t R X :=
  Tr.seq k (h₁.go (R := fun v m₁ n₁ => V v ∧ m₁ = m ∧ n₁ = n) fun v hv => ⟨hv, rfl, rfl⟩) (by rintro v _ _ ⟨hv, rfl, rfl⟩; exact h₂ v hv)
theorem Ep.at {o : Expr} {a : Addr} {name : Str} {pos : Pos} {V : Value → Prop} {y : Str} {yp : Pos} (ho : o = .Name y yp) (h₁ : Ep x f m n o (· = .ref a)) (h₂ : Tr x f m n (getAttr (.ref a) name true) (fun v m' n' => V v ∧ m' = m ∧ n' = n) NoX)
    (he : eval (.Attribute (.Name y yp) name pos) (x.env f) = (do
      let o ← eval (.Name y yp) (x.env f)
      standAt pos.atName
      let r ← holding [o] (getAttr o name true)
      letTemporaryGo (.Name y yp) o r
      pure r) := by rfl) : Ep x f m n (.Attribute o name pos) V := by
  subst ho
  exact Tr.ep (t₂ := fun v => getAttr v name true) (fun s Q E h => Attribute_Name_ h he) h₁ (by rintro v rfl; exact h₂)
theorem Tr.own {a C d : Addr} {es : List DictEntry} {k : Nat} {name : Str} {v : Value} {sl : Array (Option Value)} {b : Bool} (h1 : (a, (⟨.ref C, some d, .plain, sl⟩ : Obj)) ∈ n) (h2 : (d, dictOf es k) ∈ n)
    (hc : ∀ P, ownOk (Mine.KK P) C name = true) (hl : getL name es = some (some v)) (hv : handedIn v = true) {R : Value → Loc → Led → Prop} {X : List Value → Led → Prop} (h : R v m n) : Tr x f m n (getAttr (.ref a) name b) R X := Tr.mk fun s Q E ok st q _ _ => by
  obtain ⟨⟨mm, F, km⟩, N⟩ := st
  have hc := hc x.w.params
  unfold ownOk at hc
  cases ha : findIn (Mine.KK x.w.params) (.ref C) name with
  | none => rw [ha] at hc; simp at hc
  | some r =>
    rw [ha] at hc
    obtain ⟨h3, h4⟩ := Bool.and_eq_true_iff.mp hc
    exact get_own F ok.X (InstAt.of_news N h1 h2) (Bool.and_eq_true_iff.mp h3).1 (Bool.and_eq_true_iff.mp h3).2 ha h4 hl hv (q v m n s.heap _ h ⟨⟨mm, F, km⟩, N⟩)
noncomputable def methIn (K : Frag) (C : Addr) (name : Str) (fa : Addr) : Bool := plainGet K C name && (match findIn K (.ref C) name with | some (some (.ref g)) => g == fa | _ => false) && isFn K (.ref fa) && keepIn K (.ref fa)
theorem Tr.meth {a C d fa : Addr} {es : List DictEntry} {k : Nat} {name : Str} {pl : Sem Bool} {sl : Array (Option Value)} (h1 : (a, (⟨.ref C, some d, .plain, sl⟩ : Obj)) ∈ n) (h2 : (d, dictOf es k) ∈ n)
    (hc : ∀ P, methIn (Mine.KK P) C name fa = true) (hl : getL name es = some none) {R : Value × List Value → Loc → Led → Prop} {X : List Value → Led → Prop} (h : R (.ref fa, [.ref a]) m n) : Tr x f m n (getMethod (.ref a) name pl) R X := Tr.mk fun s Q E ok st q _ _ => by
  obtain ⟨⟨mm, F, km⟩, N⟩ := st
  have hc := hc x.w.params
  unfold methIn at hc
  simp only [Bool.and_eq_true] at hc
  obtain ⟨⟨⟨h3, h4⟩, h5⟩, h6⟩ := hc
  have ha : findIn (Mine.KK x.w.params) (.ref C) name = some (some (.ref fa)) := by
    split at h4
    · next g hg => rw [hg]; rw [beq_iff_eq.mp h4]
    · cases h4
  exact method_inst F ok.X (InstAt.of_news N h1 h2) h3 ha h5 hl (q _ m n s.heap s.toks h ⟨⟨mm, F, km⟩, N⟩)
theorem methIn_keep {K : Frag} {C fa : Addr} {name : Str} (h : methIn K C name fa = true) : keepIn K (.ref fa) = true := (Bool.and_eq_true_iff.mp h).2
theorem Ep.glb {y : Str} {pos : Pos} {v : Value} (e : ∀ Q, nsIn (Mine.KK Q) mainGlobals y = some (some v)) (hx : (x.env f).kindOf y = some .globalImplicit := by rfl) (hd : (y == ("__debug__" : Str)) = false := by decide) : Ep x f m n (.Name y pos) (· = v) :=
  Tr.finS (V := (· = v)) (fun s mm Q E ok F km N q => nameX_K F ok.X (topRead_of ok.T) (e x.w.params) (q v s.toks rfl) ok.k hx hd) fun v h => ⟨h, rfl, rfl⟩
theorem Ep.blt {y : Str} {pos : Pos} {v : Value} (e : ∀ Q, nsIn (Mine.KK Q) mainGlobals y = some Option.none) (hv : bootBuiltins y = some v) (hn : y ≠ "__name__") (hx : (x.env f).kindOf y = some .globalImplicit := by rfl) (hd : (y == ("__debug__" : Str)) = false := by decide) : Ep x f m n (.Name y pos) (· = v) :=
  Tr.finS (V := (· = v)) (fun s mm Q E ok F km N q => nameX_B F ok.X (topRead_of ok.T) (e x.w.params) hv hn (q v s.toks rfl) ok.k hx hd) fun v h => ⟨h, rfl, rfl⟩
theorem g_VE : ∀ Q, nsIn (Mine.KK Q) mainGlobals (Str.ofString "ValueError") = some none := by intro Q; kernel_rfl
theorem b_VE : bootBuiltins (Str.ofString "ValueError") = some (.type "ValueError") := by boot_by_name
theorem Ev.meth {o : Expr} {name : Str} {ap pos : Pos} {a C d fa : Addr} {es : List DictEntry} {k : Nat} {sl : Array (Option Value)} {e : Expr} {rest : List Expr} {V : List Value → Prop} {R : Value → Loc → Led → Prop} {X : List Value → Led → Prop} {pl : Sem Bool}
    (ho : Ep x f m n o (· = .ref a)) (h1 : (a, (⟨.ref C, some d, .plain, sl⟩ : Obj)) ∈ n) (h2 : (d, dictOf es k) ∈ n) (hc : ∀ P, methIn (Mine.KK P) C name fa = true) (hl : getL name es = some none)
    (ha : Ea x f m n (e :: rest) V) (h : ∀ vs, V vs → Tr x f m n (call (.ref fa) (.ref a :: vs)) R X)
    (he : eval (.Call (.Attribute o name ap) (e :: rest) [] pos) (x.env f) = (do
      let ov ← eval o (x.env f)
      standAt ap.atName
      let (fv, first) ← holding [ov] (getMethod ov name pl)
      callWith pos fv first (backTo pos (starEach (e :: rest) (x.env f))) []) := by rfl)
    (hs : starEach (e :: rest) (x.env f) = (false, eval e (x.env f)) :: starEach rest (x.env f) := by rfl) (hs2 : ((backTo pos (starEach rest (x.env f))).any fun x => x.1) = false := by rfl) : Ev x f m n (.Call (.Attribute o name ap) (e :: rest) [] pos) R X :=
  Tr.mk fun s Q E ok st q ee po => MethodCall_ (ho.use ok st (fun v h' t1 hv0 st1 => by
    subst hv0
    refine (Tr.meth h1 h2 hc hl (R := fun p m' n' => p = (.ref fa, [.ref a]) ∧ m' = m ∧ n' = n) (X := NoX) ⟨rfl, rfl, rfl⟩).use ok st1 (fun p h2 t2 hv0 st2 => ?_) po
    subst hv0
    refine callWith_K ok.X (methIn_keep (hc x.w.params)) ((ha pos).run _ _ E ok st2 ?_ (fun _ _ _ _ _ z => z.elim) po) hs hs2
    rintro vs _ _ h3 t3 ⟨hv, rfl, rfl⟩ st3
    refine ⟨?_, (h vs hv).run _ Q E ok st3 q ee po⟩
    obtain ⟨⟨mm, F, _⟩, _⟩ := st3
    exact ok.X.keeps F.keep) po) he
theorem Ev.meth0 {o : Expr} {name : Str} {ap pos : Pos} {a C d fa : Addr} {es : List DictEntry} {k : Nat} {sl : Array (Option Value)} {R : Value → Loc → Led → Prop} {X : List Value → Led → Prop} {pl : Sem Bool}
    (ho : Ep x f m n o (· = .ref a)) (h1 : (a, (⟨.ref C, some d, .plain, sl⟩ : Obj)) ∈ n) (h2 : (d, dictOf es k) ∈ n) (hc : ∀ P, methIn (Mine.KK P) C name fa = true) (hl : getL name es = some none)
    (h : Tr x f m n (call (.ref fa) [.ref a]) R X)
    (he : eval (.Call (.Attribute o name ap) [] [] pos) (x.env f) = (do
      let ov ← eval o (x.env f)
      standAt ap.atName
      let (fv, first) ← holding [ov] (getMethod ov name pl)
      callWith pos fv first (backTo pos (starEach [] (x.env f))) []) := by rfl) : Ev x f m n (.Call (.Attribute o name ap) [] [] pos) R X :=
  Tr.mk fun s Q E ok st q ee po => MethodCall_ (ho.use ok st (fun v h' t1 hv0 st1 => by
    subst hv0
    refine (Tr.meth h1 h2 hc hl (R := fun p m' n' => p = (.ref fa, [.ref a]) ∧ m' = m ∧ n' = n) (X := NoX) ⟨rfl, rfl, rfl⟩).use ok st1 (fun p h2 t2 hv0 st2 => ?_) po
    subst hv0
    refine callWith_K0 ?_ (methIn_keep (hc x.w.params)) (h.run _ Q E ok st2 q ee po)
    obtain ⟨⟨mm, F, _⟩, _⟩ := st2
    exact ok.X.keeps F.keep) po) he
theorem Ev.methB {o : Expr} {name : Str} {ap pos : Pos} {ov : Value} {id : String} {first : List Value} {e : Expr} {rest : List Expr} {V : List Value → Prop} {R : Value → Loc → Led → Prop} {X : List Value → Led → Prop} {pl : Sem Bool}
    (ho : Ep x f m n o (· = ov)) (hm : Tr x f m n (getMethod ov name pl) (fun p m' n' => p = (.builtin id, first) ∧ m' = m ∧ n' = n) NoX)
    (ha : Ea x f m n (e :: rest) V) (h : ∀ vs, V vs → Tr x f m n (call (.builtin id) (first ++ vs)) R X)
    (he : eval (.Call (.Attribute o name ap) (e :: rest) [] pos) (x.env f) = (do
      let ov ← eval o (x.env f)
      standAt ap.atName
      let (fv, first) ← holding [ov] (getMethod ov name pl)
      callWith pos fv first (backTo pos (starEach (e :: rest) (x.env f))) []) := by rfl)
    (hs : starEach (e :: rest) (x.env f) = (false, eval e (x.env f)) :: starEach rest (x.env f) := by rfl) (hs2 : ((backTo pos (starEach rest (x.env f))).any fun x => x.1) = false := by rfl) : Ev x f m n (.Call (.Attribute o name ap) (e :: rest) [] pos) R X :=
  Tr.mk fun s Q E ok st q ee po => MethodCall_ (ho.use ok st (fun v h' t1 hv0 st1 => by
    subst hv0
    refine hm.use ok st1 (fun p h2 t2 hv0 st2 => ?_) po
    subst hv0
    refine callWith_method1 ((ha pos).run _ _ E ok st2 ?_ (fun _ _ _ _ _ z => z.elim) po) hs hs2
    rintro vs _ _ h3 t3 ⟨hv, rfl, rfl⟩ st3
    exact (h vs hv).run _ Q E ok st3 q ee po) po) he
theorem Ex.seta {y : Str} {yp ap pos : Pos} {name : Str} {e : Expr} {r : List Stmt} {a : Addr} {V : Value → Prop} {R : Flow → Loc → Led → Prop} {X : List Value → Led → Prop} (he : Ep x f m n e V) (hy : Ep x f m n (.Name y yp) (· = .ref a))
    (h : ∀ v, V v → Tr x f m n (setAttr (.ref a) name v) (fun _ m' n' => Ex x f m' n' r R X) X) (hs : swapsWith e (some (.Attribute (.Name y yp) name ap)) pos.line (x.env f) = pure false := by rfl) : Ex x f m n (.Assign [.Attribute (.Name y yp) name ap] e pos :: r) R X :=
  Ex.go <| Tr.mk fun s Q E ok st q ee po => plainObj_wpAny_Assign_Attribute (he.use ok st (fun v h1 t1 hv st1 => by
    refine hy.use ok st1 (fun v0 h2 t2 hv0 st2 => ?_) po
    subst hv0
    exact (h v hv).run _ _ E ok st2 (fun _ m' n' h' tk' z st3 => q _ _ _ h' tk' ⟨rfl, z⟩ st3) ee po) po) hs
theorem Ex.auga {y : Str} {yp ap pos : Pos} {name : Str} {op : Operator} {e : Expr} {r : List Stmt} {a : Addr} {V W : Value → Prop} {old : Value} {R : Flow → Loc → Led → Prop} {X : List Value → Led → Prop} (hy : Ep x f m n (.Name y yp) (· = .ref a))
    (ho : Tr x f m n (getAttr (.ref a) name true) (fun v m' n' => v = old ∧ m' = m ∧ n' = n) NoX) (he : Ep x f m n e V) (hop : ∀ v, V v → Tr x f m n (inplaceOp op old v) (fun v m' n' => W v ∧ m' = m ∧ n' = n) NoX)
    (h : ∀ v, W v → Tr x f m n (setAttr (.ref a) name v) (fun _ m' n' => Ex x f m' n' r R X) X) : Ex x f m n (.AugAssign (.Attribute (.Name y yp) name ap) op e pos :: r) R X :=
  Ex.go <| Tr.mk fun s Q E ok st q ee po => wpAny_AugAssign_AttributeAny (hy.use ok st (fun v0 h1 t1 hv0 st1 => by
    subst hv0
    refine ho.use ok st1 (fun v0 h2 t2 hv0 st2 => ?_) po
    subst hv0
    refine he.use ok st2 (fun v h3 t3 hv st3 => ?_) po
    refine (hop v hv).use ok st3 (fun v' h4 t4 hv' st4 => ?_) po
    exact (h v' hv').run _ _ E ok st4 (fun _ m' n' h' tk' z st3 => q _ _ _ h' tk' ⟨rfl, z⟩ st3) ee po) po)
theorem Ex.raiseVE {y : Str} {yp p pos cp : Pos} {msg : Str} {k : Nat} {r : List Stmt} {R : Flow → Loc → Led → Prop} {X : List Value → Led → Prop} (hf : Ep x f m n (.Name y yp) (· = .type "ValueError")) (h : ∀ t, X [.str msg t] n)
    (hs : starEach [.Constant (.str msg) k p] (x.env f) = (false, eval (.Constant (.str msg) k p) (x.env f)) :: starEach [] (x.env f) := by rfl)
    (hc : eval (.Call (.Name y yp) [.Constant (.str msg) k p] [] cp) (x.env f) = (do callWith cp (← eval (.Name y yp) (x.env f)) [] (backTo cp (starEach [.Constant (.str msg) k p] (x.env f))) (backToKw cp (keywordEach [] (x.env f)))) := by rfl) :
    Ex x f m n (.Raise (some (.Call (.Name y yp) [.Constant (.str msg) k p] [] cp)) none pos :: r) R X :=
  Ex.go <| Tr.mk fun s Q E ok st q ee po => Raise_new rfl (Call_ (hf.use ok st (fun v0 h1 t1 hv0 st1 => by
    subst hv0
    refine PyProof.Rows.callWith_type1 (args_cons (Calls.Constant_str (args_nil (raise_VE ?_))) hs) hs rfl
    intro h' e hx
    obtain ⟨⟨mm, F, km⟩, N⟩ := st1
    exact ee e h' _ _ _ (h _) (.inl ⟨_, mm, Heap.MadeExc.of hx, F, N⟩)) po) hc)
noncomputable def WPost (x : Fx) (f : Fn) {σ : Type} (ps : σ → Loc) (led : σ → Led) (P : σ → Prop) (μ : σ → Nat) (c : σ) (r : List Stmt) (R : Flow → Loc → Led → Prop) (X : List Value → Led → Prop) : Flow → Loc → Led → Prop
  | .ret v, m', n' => R (.ret v) m' n'
  | .brk, m', n' => Ex x f m' n' r R X
  | _, m', n' => ∃ c', P c' ∧ μ c' < μ c ∧ (∀ p ∈ ps c', look m' p.1 = some p.2) ∧ (∀ q ∈ led c', q ∈ n')
theorem look_of : ∀ {m : Loc} {mm : Str → Option Value}, (∀ p ∈ m, mm p.1 = some p.2) → ∀ y v, look m y = some v → mm y = some v
  | [], _, _, _, _, e => nomatch e
  | p :: r, mm, h, y, v, e => by
    rw [show p = (p.1, p.2) from rfl, look_cons] at e
    dsimp only at e
    split at e
    · next hy => subst hy; rw [← Option.some.inj e]; exact h p List.mem_cons_self
    · exact look_of (fun q hq => h q (List.mem_cons_of_mem _ hq)) y v e
theorem Ex.whl {σ : Type} {test : Expr} {body r : List Stmt} {pos : Pos} {R : Flow → Loc → Led → Prop} {X : List Value → Led → Prop} (ps : σ → Loc) (led : σ → Led) (P : σ → Prop) (μ : σ → Nat) (c₀ : σ)
    (hm : ∀ p ∈ ps c₀, look m p.1 = some p.2) (hn : ∀ q ∈ led c₀, q ∈ n) (hp : P c₀)
    (turn : ∀ c, P c → Tr x f (ps c) (led c) (isTrue test (x.env f) (eval test (x.env f))) (fun b m₁ n₁ => if b = true then Ex x f m₁ n₁ body (WPost x f ps led P μ c r R X) X else Ex x f m₁ n₁ r R X) X) :
    Ex x f m n (.While test body [] pos :: r) R X := by
  refine Ex.st (R₁ := fun fl m₁ n₁ => match fl with | .next => Ex x f m₁ n₁ r R X | fl => R fl m₁ n₁) (Tr.mk fun s Q E ok st q ee po => ?_) (fun _ _ h => h) (fun fl _ _ hne h => by cases fl <;> first | exact absurd rfl hne | exact h)
  obtain ⟨⟨mm, F, km⟩, N⟩ := st
  refine While_inv2 (fun k mm nx => ∃ c : σ, nx = led c ∧ μ c = k ∧ (∀ p ∈ ps c, mm p.1 = some p.2) ∧ P c) F (fun q hq => N q (hn q hq)) ⟨c₀, rfl, rfl, fun p hp => km _ _ (hm p hp), hp⟩ ?_ po
  rintro k mm₁ nx h tk F₁ N₁ ⟨c, rfl, rfl, hk, hP⟩
  refine (turn c hP).run _ _ E ok ⟨⟨mm₁, F₁, look_of hk⟩, N₁⟩ ?_ (fun e h' tk' es n' hx hz => ee e h' tk' es n' hx hz) po
  intro b m₁ n₁ h₁ t₁ hb st₁
  cases b with
  | false =>
    simp only [Bool.false_eq_true, if_false] at hb ⊢
    exact q .next m₁ n₁ h₁ t₁ hb st₁
  | true =>
    simp only [if_true] at hb ⊢
    refine hb.run _ _ E ok st₁ ?_ (fun e h' tk' es n' hx hz => ee e h' tk' es n' hx hz) po
    intro fl m₂ n₂ h₂ t₂ hr st₂
    cases fl with
    | ret v => exact q _ m₂ n₂ h₂ t₂ hr st₂
    | brk => exact q _ m₂ n₂ h₂ t₂ hr st₂
    | next =>
      obtain ⟨c', h3, h4, h5, h6⟩ := hr
      obtain ⟨⟨mm₂, F₂, k₂⟩, N₂⟩ := st₂
      exact ⟨h₂, t₂, mm₂, led c', μ c', rfl, F₂, fun q hq => N₂ q (h6 q hq), h4, c', rfl, rfl, fun p hp => k₂ _ _ (h5 p hp), h3⟩
    | cont =>
      obtain ⟨c', h3, h4, h5, h6⟩ := hr
      obtain ⟨⟨mm₂, F₂, k₂⟩, N₂⟩ := st₂
      exact ⟨h₂, t₂, mm₂, led c', μ c', rfl, F₂, fun q hq => N₂ q (h6 q hq), h4, c', rfl, rfl, fun p hp => k₂ _ _ (h5 p hp), h3⟩
end
end Mine

end
section
open Mine
namespace Mine
noncomputable def Fi {α : Type} (t : Sem α) (V : α → Prop) : Prop := ∀ (w : World) (A : Around) (E : Value → Shared → Prop) (s : Shared) (Q : α → Shared → Prop), A.handled = none → (∀ v k, V v → Q v { s with toks := k }) → wpAny (model PySem.Challenge.pw_in0151_02 w) A t Q E s
section
variable {α : Type} {x : Fx} {f : Fn} {m : Loc} {n : Led} {R : Flow → Loc → Led → Prop} {X : List Value → Led → Prop}
theorem Tr.fi {t : Sem α} {V : α → Prop} {R : α → Loc → Led → Prop} (h : Fi t V) (k : ∀ v, V v → R v m n) : Tr x f m n t R X := Tr.fin (fun s Q E q => h _ _ E s Q rfl q) k
theorem Ex.asE {y : Str} {p pos : Pos} {e : Expr} {r : List Stmt} {v : Value} (h₁ : Ep x f m n e (· = v)) (h₂ : Ex x f ((y, v) :: m) n r R X) (hs : swapsWith e (some (.Name y p)) pos.line (x.env f) = pure false := by rfl) (hx : (x.env f).kindOf y = some .local := by rfl) : Ex x f m n (.Assign [.Name y p] e pos :: r) R X :=
  Ex.asp h₁ (fun _ e => e ▸ h₂) hs hx
theorem Ex.asS {y : Str} {p pos : Pos} {e : Expr} {r : List Stmt} {z : Str} (h₁ : Ep x f m n e (IsS z)) (h₂ : ∀ t, Ex x f ((y, .str z t) :: m) n r R X) (hs : swapsWith e (some (.Name y p)) pos.line (x.env f) = pure false := by rfl) (hx : (x.env f).kindOf y = some .local := by rfl) : Ex x f m n (.Assign [.Name y p] e pos :: r) R X :=
  Ex.asp h₁ (fun _ ⟨t, e⟩ => e ▸ h₂ t) hs hx
theorem Ex.asI {y : Str} {p pos : Pos} {e : Expr} {r : List Stmt} {i : Int} (h₁ : Ep x f m n e (IsI i)) (h₂ : ∀ t, Ex x f ((y, .int i t) :: m) n r R X) (hs : swapsWith e (some (.Name y p)) pos.line (x.env f) = pure false := by rfl) (hx : (x.env f).kindOf y = some .local := by rfl) : Ex x f m n (.Assign [.Name y p] e pos :: r) R X :=
  Ex.asp h₁ (fun _ ⟨t, e⟩ => e ▸ h₂ t) hs hx
theorem Ex.asK {y : Str} {p pos : Pos} {e : Expr} {r : List Stmt} (h₁ : Ev x f m n e (fun v m₁ n₁ => Ex x f ((y, v) :: m₁) n₁ r R X) X) (hs : swapsWith e (some (.Name y p)) pos.line (x.env f) = pure false := by rfl) (hx : (x.env f).kindOf y = some .local := by rfl) : Ex x f m n (.Assign [.Name y p] e pos :: r) R X :=
  Ex.asg h₁ (fun _ _ _ h => h) hs hx
theorem Ex.retE {e : Expr} {pos : Pos} {r : List Stmt} {v : Value} (h : Ep x f m n e (· = v)) (k : R (.ret v) m n) : Ex x f m n (.Return (some e) pos :: r) R X := Ex.ret (h.go fun _ e => e ▸ k)
theorem Ex.retS {e : Expr} {pos : Pos} {r : List Stmt} {z : Str} (h : Ep x f m n e (IsS z)) (k : ∀ t, R (.ret (.str z t)) m n) : Ex x f m n (.Return (some e) pos :: r) R X := Ex.ret (h.go fun _ ⟨t, e⟩ => e ▸ k t)
theorem Ex.retI {e : Expr} {pos : Pos} {r : List Stmt} {i : Int} (h : Ep x f m n e (IsI i)) (k : ∀ t, R (.ret (.int i t)) m n) : Ex x f m n (.Return (some e) pos :: r) R X := Ex.ret (h.go fun _ ⟨t, e⟩ => e ▸ k t)
theorem Ex.aug {y : Str} {p pos : Pos} {op : Operator} {e : Expr} {r : List Stmt} {old : Value} {V W : Value → Prop} (hy : look m y = some old) (he : Ep x f m n e V) (ho : ∀ v, V v → Fi (inplaceOp op old v) W) (h : ∀ v, W v → Ex x f ((y, v) :: m) n r R X)
    (hx : (x.env f).kindOf y = some .local := by rfl) : Ex x f m n (.AugAssign (.Name y p) op e pos :: r) R X :=
  Ex.go <| Tr.mk fun s Q E ok st q ee po => wpAny_AugAssign_Name (by
    obtain ⟨⟨mm, F, km⟩, N⟩ := st
    refine wpAny_loadName_local ok.k hx F.ns (km _ _ hy) (he.run _ _ E ok ⟨⟨mm, F, km⟩, N⟩ ?_ (fun _ _ _ _ _ z => z.elim) po)
    rintro v m₀ n₀ h1 t1 ⟨hv, e1, e2⟩ st1
    refine ho v hv _ _ E _ _ rfl fun w k hw => ?_
    exact (Tr.store hx (R := fun _ m₂ n₂ => m₂ = (y, w) :: m₀ ∧ n₂ = n₀) (X := X) ⟨rfl, rfl⟩).run _ _ E ok st1 (by rintro _ _ _ h'' tk'' ⟨e3, e4⟩ st''; rw [e3, e4] at st''; exact q _ _ _ h'' tk'' ⟨rfl, e1 ▸ e2 ▸ h w hw⟩ st'') ee po)
theorem Ep.nameI {y : Str} {pos : Pos} {i : Int} {t : Tok} (hv : look m y = some (.int i t)) (hx : (x.env f).kindOf y = some .local := by rfl) (hd : (y == ("__debug__" : Str)) = false := by decide) : Ep x f m n (.Name y pos) (IsI i) := (Ep.name hv hx hd).mono fun _ e => ⟨t, e⟩
theorem Ep.nameS {y : Str} {pos : Pos} {z : Str} {t : Tok} (hv : look m y = some (.str z t)) (hx : (x.env f).kindOf y = some .local := by rfl) (hd : (y == ("__debug__" : Str)) = false := by decide) : Ep x f m n (.Name y pos) (IsS z) := (Ep.name hv hx hd).mono fun _ e => ⟨t, e⟩
theorem Ep.bin {l r : Expr} {op : Operator} {pos : Pos} {Vl Vr V : Value → Prop} (hl : Ep x f m n l Vl) (hr : Ep x f m n r Vr) (ho : ∀ a b, Vl a → Vr b → Fi (binaryOp op a b) V) : Ep x f m n (.BinOp l op r pos) V :=
  Tr.mk fun s Q E ok st q ee po => wpAny_BinOp (hl.use ok st (fun a h1 t1 ha st1 => hr.use ok st1 (fun b h2 t2 hb st2 => ho a b ha hb _ _ E _ Q rfl fun v k hv => q v m n h2 k ⟨hv, rfl, rfl⟩ st2) po) po)
theorem Ep.ife {t b o : Expr} {pos : Pos} {c : Bool} {V : Value → Prop} (ht : Tp x f m n t c) (h1 : c = true → Ep x f m n b V) (h2 : c = false → Ep x f m n o V) : Ep x f m n (.IfExp t b o pos) V := Tr.mk fun s Q E ok st q ee po => IfExp_ (ht.use ok st (fun v h' t' hv0 st1 => by
    subst hv0
    cases v with
    | true => exact ite_tt ((h1 rfl).run _ Q E ok st1 q ee po)
    | false => exact ite_ff ((h2 rfl).run _ Q E ok st1 q ee po)) po)
theorem Ep.sub {a b : Expr} {pos : Pos} {Va Vb V : Value → Prop} (ha : Ep x f m n a Va) (hb : Ep x f m n b Vb) (ho : ∀ u v, Va u → Vb v → Fi (subscriptTail a b u v) V) : Ep x f m n (.Subscript a b pos) V :=
  Tr.mk fun s Q E ok st q ee po => Subscript_ (ha.use ok st (fun u h1 t1 hu st1 => hb.use ok st1 (fun v h2 t2 hv st2 => ho u v hu hv _ _ E _ Q rfl fun w k hw => q w m n h2 k ⟨hw, rfl, rfl⟩ st2) po) po)
theorem Ep.item {a b : Expr} {pos : Pos} {r s' : List Nat} {i c : Nat} (ha : Ep x f m n a (IsS (T r))) (hb : Ep x f m n b (IsI i)) (hd : r.drop i = c :: s') (hl : r.length < 1000000)
    (hs : ∀ t u, subscripted b false (.str (T r) t) (.int i u) = operate [.str (T r) t, .int i u] (getItem (.str (T r) t) (.int i u)) := by intros; with_unfolding_all rfl)
    (ht : ∀ t z, letTemporaryGo a (.str (T r) t) z = pure () := by intros; with_unfolding_all rfl) : Ep x f m n (.Subscript a b pos) (IsS (T [c])) :=
  Ep.sub ha hb (by
    rintro _ _ ⟨t, rfl⟩ ⟨u, rfl⟩ w A E s Q _ q
    have hl2 := congrArg List.length hd
    simp only [List.length_drop, List.length_cons] at hl2
    exact item_H ⟨hd, by omega⟩ hl (fun tk k => q _ k ⟨tk, rfl⟩) (hs t u) (ht t))
theorem Ep.slSS {a lo up : Expr} {p pos : Pos} {z : Str} {i j : Int} (ha : Ep x f m n a (IsS z)) (hlo : Ep x f m n lo (IsI i)) (hup : Ep x f m n up (IsI j)) (hz : z.length ≤ 16777216)
    (hs : ∀ t b, subscripted (.Slice (some lo) (some up) Option.none p) false (.str z t) (.ref b) = operate [.ref b, .str z t] (getItem (.str z t) (.ref b)) := by intros; with_unfolding_all rfl)
    (ht : ∀ t r, letTemporaryGo a (.str z t) r = pure () := by intros; with_unfolding_all rfl) : Ep x f m n (.Subscript a (.Slice (some lo) (some up) Option.none p) pos) (IsS (Txt.slice z (some i) (some j))) :=
  Tr.mk fun s Q E ok st q ee po => Subscript_ (ha.use ok st (fun v0 h1 t1 ⟨t, hu⟩ st1 => wpAny_Slice (evalPart_some_step (hlo.use ok st1 (fun v0 h2 t2 ⟨ti, hi⟩ st2 => evalPart_some_step (hup.use ok st2 (fun v0 h3 t3 ⟨tj, hj⟩ st3 => evalPart_none_step (by
    subst hu hi hj
    obtain ⟨⟨mm, F, km⟩, N⟩ := st3
    refine slice_strN_ss_len F N (fun h' t' k F' N' _ => q _ _ _ h' k ⟨⟨t', rfl⟩, rfl, rfl⟩ ⟨⟨mm, F', km⟩, N'⟩) (hs _ _) (ht _) (by rw [sizeLine_eq]; exact hz))) po)) po))) po)
theorem Ep.slSN {a lo : Expr} {p pos : Pos} {z : Str} {i : Int} (ha : Ep x f m n a (IsS z)) (hlo : Ep x f m n lo (IsI i)) (hz : z.length ≤ 16777216)
    (hs : ∀ t b, subscripted (.Slice (some lo) Option.none Option.none p) false (.str z t) (.ref b) = operate [.ref b, .str z t] (getItem (.str z t) (.ref b)) := by intros; with_unfolding_all rfl)
    (ht : ∀ t r, letTemporaryGo a (.str z t) r = pure () := by intros; with_unfolding_all rfl) : Ep x f m n (.Subscript a (.Slice (some lo) Option.none Option.none p) pos) (IsS (Txt.slice z (some i) Option.none)) :=
  Tr.mk fun s Q E ok st q ee po => Subscript_ (ha.use ok st (fun v0 h1 t1 ⟨t, hu⟩ st1 => wpAny_Slice (evalPart_some_step (hlo.use ok st1 (fun v0 h2 t2 ⟨ti, hi⟩ st2 => evalPart_none_step (evalPart_none_step (by
    subst hu hi
    obtain ⟨⟨mm, F, km⟩, N⟩ := st2
    refine slice_strN_sn_len F N (fun h' t' k F' N' _ => q _ _ _ h' k ⟨⟨t', rfl⟩, rfl, rfl⟩ ⟨⟨mm, F', km⟩, N'⟩) (hs _ _) (ht _) (by rw [sizeLine_eq]; exact hz)))) po))) po)
theorem Ep.slNS {a up : Expr} {p pos : Pos} {z : Str} {j : Int} (ha : Ep x f m n a (IsS z)) (hup : Ep x f m n up (IsI j)) (hz : z.length ≤ 16777216)
    (hs : ∀ t b, subscripted (.Slice Option.none (some up) Option.none p) false (.str z t) (.ref b) = operate [.ref b, .str z t] (getItem (.str z t) (.ref b)) := by intros; with_unfolding_all rfl)
    (ht : ∀ t r, letTemporaryGo a (.str z t) r = pure () := by intros; with_unfolding_all rfl) : Ep x f m n (.Subscript a (.Slice Option.none (some up) Option.none p) pos) (IsS (Txt.slice z Option.none (some j))) :=
  Tr.mk fun s Q E ok st q ee po => Subscript_ (ha.use ok st (fun v0 h1 t1 ⟨t, hu⟩ st1 => wpAny_Slice (evalPart_none_step (evalPart_some_step (hup.use ok st1 (fun v0 h2 t2 ⟨ti, hi⟩ st2 => evalPart_none_step (by
    subst hu hi
    obtain ⟨⟨mm, F, km⟩, N⟩ := st2
    refine slice_strN_ns_len F N (fun h' t' k F' N' _ => q _ _ _ h' k ⟨⟨t', rfl⟩, rfl, rfl⟩ ⟨⟨mm, F', km⟩, N'⟩) (hs _ _) (ht _) (by rw [sizeLine_eq]; exact hz))) po)))) po)
noncomputable def Er (x : Fx) (f : Fn) (m : Loc) (n : Led) (es : List Expr) (K : List Value → Loc → Led → Prop) (X : List Value → Led → Prop) : Prop := ∀ pos, Tr x f m n (spliced (backTo pos (starEach es (x.env f)))) K X
section
variable {K : List Value → Loc → Led → Prop} {e : Expr} {r : List Expr}
theorem Er.nil (h : K [] m n) : Er x f m n [] K X := fun _ => Tr.mk fun s Q E ok st q ee po => args_nil (q _ _ _ s.heap s.toks h st)
theorem Er.cons (h : Ev x f m n e (fun v m₁ n₁ => Er x f m₁ n₁ r (fun vs => K (v :: vs)) X) X) (hs : starEach (e :: r) (x.env f) = (false, eval e (x.env f)) :: starEach r (x.env f) := by rfl) : Er x f m n (e :: r) K X :=
  fun pos => Tr.mk fun s Q E ok st q ee po => args_cons (h.run s _ E ok st (fun v m₁ n₁ h1 t1 h2 st1 => (h2 pos).run _ _ E ok st1 (fun vs m₂ n₂ h' t' k st2 => q _ m₂ n₂ h' t' k st2) ee po) ee po) hs
theorem Er.E {v : Value} (h : Ep x f m n e (· = v)) (k : Er x f m n r (fun vs => K (v :: vs)) X) (hs : starEach (e :: r) (x.env f) = (false, eval e (x.env f)) :: starEach r (x.env f) := by rfl) : Er x f m n (e :: r) K X := Er.cons (h.go fun _ e => e ▸ k) hs
theorem Er.S {z : Str} (h : Ep x f m n e (IsS z)) (k : ∀ t, Er x f m n r (fun vs => K (.str z t :: vs)) X) (hs : starEach (e :: r) (x.env f) = (false, eval e (x.env f)) :: starEach r (x.env f) := by rfl) : Er x f m n (e :: r) K X := Er.cons (h.go fun _ ⟨t, e⟩ => e ▸ k t) hs
theorem Er.I {i : Int} (h : Ep x f m n e (IsI i)) (k : ∀ t, Er x f m n r (fun vs => K (.int i t :: vs)) X) (hs : starEach (e :: r) (x.env f) = (false, eval e (x.env f)) :: starEach r (x.env f) := by rfl) : Er x f m n (e :: r) K X := Er.cons (h.go fun _ ⟨t, e⟩ => e ▸ k t) hs
end
theorem Ev.tup {es : List Expr} {k : Nat} {pos : Pos} {R : Value → Loc → Led → Prop} (h : Er x f m n es (fun vs m₁ n₁ => vs.length ≤ 1000 ∧ ∀ D, (∀ p ∈ n₁, @LT.lt Nat _ p.1 D) → R (.ref D) m₁ ((D, ⟨.type "tuple", none, .seq vs.toArray, #[]⟩) :: n₁)) X) : Ev x f m n (.Tuple es k pos) R X :=
  Tr.mk fun s Q E ok st q ee po => Tuple_ ((h pos).run s _ E ok st (fun vs m₁ n₁ h1 t1 ⟨hv, hR⟩ ⟨⟨mm, F, km⟩, N⟩ => kup_newTuple F N (fun D h' F' N' hlt => q _ m₁ _ h' _ (hR D hlt) ⟨⟨mm, F', km⟩, N'⟩) (by rw [sizeLine_eq]; omega)) ee po)
theorem Ev.lst {es : List Expr} {pos : Pos} {R : Value → Loc → Led → Prop} (h : Er x f m n es (fun vs m₁ n₁ => vs.length ≤ 1000 ∧ ∀ D, (∀ p ∈ n₁, @LT.lt Nat _ p.1 D) → R (.ref D) m₁ ((D, W.listOf vs.toArray 0) :: n₁)) X) : Ev x f m n (.List es pos) R X :=
  Tr.mk fun s Q E ok st q ee po => List_ ((h pos).run s _ E ok st (fun vs m₁ n₁ h1 t1 ⟨hv, hR⟩ ⟨⟨mm, F, km⟩, N⟩ => newList_K F N (fun D h' F' N' hlt => q _ m₁ _ h' _ (hR D hlt) ⟨⟨mm, F', km⟩, N'⟩) (by rw [sizeLine_eq]; omega)) ee po)
theorem Ev.dcall {y : Str} {p pos : Pos} {fa : Addr} {e : Expr} {r : List Expr} {R : Value → Loc → Led → Prop} (hg : ∀ Q, nsIn (Mine.KK Q) mainGlobals y = some (some (.ref fa))) (hk : ∀ Q, keepIn (Mine.KK Q) (.ref fa) = true) (h : Er x f m n (e :: r) (fun vs m₁ n₁ => Tr x f m₁ n₁ (call (.ref fa) vs) R X) X)
    (he : eval (.Call (.Name y p) (e :: r) [] pos) (x.env f) = (do callWith pos (← eval (.Name y p) (x.env f)) [] (backTo pos (starEach (e :: r) (x.env f))) (backToKw pos (keywordEach [] (x.env f)))) := by rfl)
    (hs : starEach (e :: r) (x.env f) = (false, eval e (x.env f)) :: starEach r (x.env f) := by rfl) (hs2 : ((backTo pos (starEach r (x.env f))).any fun x => x.1) = false := by rfl)
    (hx : (x.env f).kindOf y = some .globalImplicit := by rfl) (hd : (y == ("__debug__" : Str)) = false := by decide) : Ev x f m n (.Call (.Name y p) (e :: r) [] pos) R X :=
  Tr.mk fun s Q E ok st q ee po => Call_ ((Ep.glb hg hx hd).use ok st (fun v h1 t1 hv st1 => by
    subst hv
    refine callWith_K ok.X (hk _) ((h pos).run _ _ E ok st1 (fun vs m₂ n₂ h2 t2 hc st2 => ⟨?_, hc.run _ Q E ok st2 q ee po⟩) ee po) hs hs2
    obtain ⟨⟨mm, F, _⟩, _⟩ := st2
    exact ok.X.keeps F.keep) po) he
theorem Ev.callB {y : Str} {p pos : Pos} {id : String} {e : Expr} {r : List Expr} {R : Value → Loc → Led → Prop} (hg : ∀ Q, nsIn (Mine.KK Q) mainGlobals y = some none) (hb : bootBuiltins y = some (.builtin id)) (hn : y ≠ "__name__") (h : Er x f m n (e :: r) (fun vs m₁ n₁ => Tr x f m₁ n₁ (call (.builtin id) vs) R X) X)
    (he : eval (.Call (.Name y p) (e :: r) [] pos) (x.env f) = (do callWith pos (← eval (.Name y p) (x.env f)) [] (backTo pos (starEach (e :: r) (x.env f))) (backToKw pos (keywordEach [] (x.env f)))) := by rfl)
    (hs : starEach (e :: r) (x.env f) = (false, eval e (x.env f)) :: starEach r (x.env f) := by rfl) (hs2 : ((backTo pos (starEach r (x.env f))).any fun x => x.1) = false := by rfl)
    (hx : (x.env f).kindOf y = some .globalImplicit := by rfl) (hd : (y == ("__debug__" : Str)) = false := by decide) : Ev x f m n (.Call (.Name y p) (e :: r) [] pos) R X :=
  Tr.mk fun s Q E ok st q ee po => Call_ ((Ep.blt hg hb hn hx hd).use ok st (fun v h1 t1 hv st1 => by
    subst hv
    exact PyProof.Rows.callWith_builtin1 ((h pos).run _ _ E ok st1 (fun vs m₂ n₂ h2 t2 hc st2 => hc.run _ Q E ok st2 q ee po) ee po) hs hs2) po) he
theorem Ev.callT {y : Str} {p pos : Pos} {id : String} {e : Expr} {r : List Expr} {R : Value → Loc → Led → Prop} (hg : ∀ Q, nsIn (Mine.KK Q) mainGlobals y = some none) (hb : bootBuiltins y = some (.type id)) (hn : y ≠ "__name__") (h : Er x f m n (e :: r) (fun vs m₁ n₁ => Tr x f m₁ n₁ (call (.type id) vs) R X) X)
    (he : eval (.Call (.Name y p) (e :: r) [] pos) (x.env f) = (do callWith pos (← eval (.Name y p) (x.env f)) [] (backTo pos (starEach (e :: r) (x.env f))) (backToKw pos (keywordEach [] (x.env f)))) := by rfl)
    (hs : starEach (e :: r) (x.env f) = (false, eval e (x.env f)) :: starEach r (x.env f) := by rfl) (hs2 : ((backTo pos (starEach r (x.env f))).any fun x => x.1) = false := by rfl)
    (hx : (x.env f).kindOf y = some .globalImplicit := by rfl) (hd : (y == ("__debug__" : Str)) = false := by decide) : Ev x f m n (.Call (.Name y p) (e :: r) [] pos) R X :=
  Tr.mk fun s Q E ok st q ee po => Call_ ((Ep.blt hg hb hn hx hd).use ok st (fun v h1 t1 hv st1 => by
    subst hv
    exact PyProof.Rows.callWith_type1 ((h pos).run _ _ E ok st1 (fun vs m₂ n₂ h2 t2 hc st2 => hc.run _ Q E ok st2 q ee po) ee po) hs hs2) po) he
theorem Ep.call1 {y : Str} {p pos : Pos} {id : String} {e : Expr} {V W : Value → Prop} (hg : ∀ Q, nsIn (Mine.KK Q) mainGlobals y = some Option.none) (hb : bootBuiltins y = some (.builtin id)) (hn : y ≠ "__name__") (ha : Ep x f m n e V) (hc : ∀ v, V v → Fi (call (.builtin id) [v]) W)
    (he : eval (.Call (.Name y p) [e] [] pos) (x.env f) = (do callWith pos (← eval (.Name y p) (x.env f)) [] (backTo pos (starEach [e] (x.env f))) (backToKw pos (keywordEach [] (x.env f)))) := by rfl)
    (hs : starEach [e] (x.env f) = (false, eval e (x.env f)) :: starEach [] (x.env f) := by rfl)
    (hx : (x.env f).kindOf y = some .globalImplicit := by rfl) (hd : (y == ("__debug__" : Str)) = false := by decide) : Ep x f m n (.Call (.Name y p) [e] [] pos) W :=
  Ev.callB hg hb hn (Er.cons (ha.go fun v hv => Er.nil (Tr.fi (hc v hv) fun w hw => ⟨hw, rfl, rfl⟩)) hs) he hs rfl hx hd
theorem Ev.methS {o : Expr} {name : Str} {ap pos : Pos} {z : Str} {id : String} {e : Expr} {r : List Expr} {R : Value → Loc → Led → Prop} {pl : Sem Bool}
    (ho : Ep x f m n o (IsS z)) (hm : ∀ t, Fi (getMethod (.str z t) name pl) (· = (.builtin id, [.str z t])))
    (h : ∀ t, Er x f m n (e :: r) (fun vs m₁ n₁ => Tr x f m₁ n₁ (call (.builtin id) (.str z t :: vs)) R X) X)
    (he : eval (.Call (.Attribute o name ap) (e :: r) [] pos) (x.env f) = (do
      let ov ← eval o (x.env f)
      standAt ap.atName
      let (fv, first) ← holding [ov] (getMethod ov name pl)
      callWith pos fv first (backTo pos (starEach (e :: r) (x.env f))) []) := by rfl)
    (hs : starEach (e :: r) (x.env f) = (false, eval e (x.env f)) :: starEach r (x.env f) := by rfl) (hs2 : ((backTo pos (starEach r (x.env f))).any fun x => x.1) = false := by rfl) : Ev x f m n (.Call (.Attribute o name ap) (e :: r) [] pos) R X :=
  Tr.mk fun s Q E ok st q ee po => MethodCall_ (ho.use ok st (fun v h1 t1 ⟨t, hv⟩ st1 => by
    subst hv
    refine hm t _ _ E _ _ rfl fun p k hp => ?_
    subst hp
    exact callWith_method1 ((h t pos).run _ _ E ok st1 (fun vs m₂ n₂ h2 t2 hc st2 => hc.run _ Q E ok st2 q ee po) ee po) hs hs2) po) he
theorem Ex.unp2 {y₁ y₂ : Str} {p₁ p₂ tp pos : Pos} {k : Nat} {e : Expr} {r : List Stmt} (h : Ev x f m n e (fun v m₁ n₁ => ∃ D a b o, v = .ref D ∧ (D, ⟨.type "tuple", none, .seq #[a, b], o⟩) ∈ n₁ ∧ Ex x f ((y₂, b) :: (y₁, a) :: m₁) n₁ r R X) X)
    (hs : swapsWithSole [.Tuple [.Name y₁ p₁, .Name y₂ p₂] k tp] e pos.line (x.env f) = pure false := by rfl) (hs2 : swappedStores [.Tuple [.Name y₁ p₁, .Name y₂ p₂] k tp] e (x.env f) = pure none := by rfl)
    (hx : (x.env f).kindOf y₁ = some .local := by rfl) (hx2 : (x.env f).kindOf y₂ = some .local := by rfl) : Ex x f m n (.Assign [.Tuple [.Name y₁ p₁, .Name y₂ p₂] k tp] e pos :: r) R X :=
  Ex.go <| Tr.mk fun s Q E ok st q ee po => Assign_Tuple (h.run s _ E ok st (fun v m₁ n₁ h1 t1 ⟨D, a, b, o, hv, hm, hE⟩ ⟨⟨mm, F, km⟩, N⟩ => by
    subst hv
    refine unpackN_ F N (N.isTup hm) rfl rfl rfl fun h' F' N' => ?_
    refine assignInOrder_cons (PyProof.Rows.assign_Name ((Tr.store hx (R := fun _ m₂ n₂ => m₂ = (y₁, a) :: m₁ ∧ n₂ = n₁) (X := X) ⟨rfl, rfl⟩).run _ _ E ok ⟨⟨mm, F', km⟩, N'⟩ ?_ ee po))
    rintro _ _ _ h2 t2 ⟨rfl, e2⟩ st2
    rw [e2] at st2
    refine assignInOrder_cons (PyProof.Rows.assign_Name ((Tr.store hx2 (R := fun _ m₂ n₂ => m₂ = (y₂, b) :: (y₁, a) :: m₁ ∧ n₂ = n₁) (X := X) ⟨rfl, rfl⟩).run _ _ E ok st2 ?_ ee po))
    rintro _ _ _ h3 t3 ⟨rfl, e3⟩ st3
    rw [e3] at st3
    exact assignInOrder_nil (q _ _ _ h3 t3 ⟨rfl, hE⟩ st3)) ee po) hs hs2
theorem Ex.swp2 {y₁ y₂ : Str} {p₁ p₂ tp pos : Pos} {k : Nat} {e : Expr} {r : List Stmt} (h : Ev x f m n e (fun v m₁ n₁ => ∃ D a b o, v = .ref D ∧ (D, ⟨.type "tuple", none, .seq #[a, b], o⟩) ∈ n₁ ∧ Ex x f ((y₁, a) :: (y₂, b) :: m₁) n₁ r R X) X)
    (hs : swapsWithSole [.Tuple [.Name y₁ p₁, .Name y₂ p₂] k tp] e pos.line (x.env f) = pure false := by rfl) (hs2 : swappedStores [.Tuple [.Name y₁ p₁, .Name y₂ p₂] k tp] e (x.env f) = pure (some [y₁, y₂]) := by rfl)
    (hx : (x.env f).kindOf y₁ = some .local := by rfl) (hx2 : (x.env f).kindOf y₂ = some .local := by rfl) : Ex x f m n (.Assign [.Tuple [.Name y₁ p₁, .Name y₂ p₂] k tp] e pos :: r) R X :=
  Ex.go <| Tr.mk fun s Q E ok st q ee po => Assign_Tuple_swapped (h.run s _ E ok st (fun v m₁ n₁ h1 t1 ⟨D, a, b, o, hv, hm, hE⟩ ⟨⟨mm, F, km⟩, N⟩ => by
    subst hv
    refine unpackItemsN_ F N (N.isTup hm) rfl rfl fun h' F' N' => ?_
    show wpAny _ _ (assignInOrder [bindName (x.env f) y₂, bindName (x.env f) y₁] [b, a]) _ _ _
    refine assignInOrder_cons (bindName_ ((Tr.store hx2 (R := fun _ m₂ n₂ => m₂ = (y₂, b) :: m₁ ∧ n₂ = n₁) (X := X) ⟨rfl, rfl⟩).run _ _ E ok ⟨⟨mm, F', km⟩, N'⟩ ?_ ee po))
    rintro _ _ _ h2 t2 ⟨rfl, e2⟩ st2
    rw [e2] at st2
    refine assignInOrder_cons (bindName_ ((Tr.store hx (R := fun _ m₂ n₂ => m₂ = (y₁, a) :: (y₂, b) :: m₁ ∧ n₂ = n₁) (X := X) ⟨rfl, rfl⟩).run _ _ E ok st2 ?_ ee po))
    rintro _ _ _ h3 t3 ⟨rfl, e3⟩ st3
    rw [e3] at st3
    exact assignInOrder_nil (q _ _ _ h3 t3 ⟨rfl, hE⟩ st3)) ee po) hs hs2
theorem Ex.less {n' : Led} {r : List Stmt} (hn : ∀ q ∈ n', q ∈ n) (h : Ex x f m n' r R X) : Ex x f m n r R X := Tr.mk fun s Q E ok st => h.run s Q E ok ⟨st.1, fun q hq => st.2 q (hn q hq)⟩
end
section
variable {a b : Int} {y z : Str}
theorem Bo.addI : ∀ u v, IsI a u → IsI b v → Fi (binaryOp .Add u v) (IsI (a + b)) := by rintro _ _ ⟨t, rfl⟩ ⟨t', rfl⟩ w A E s Q _ q; exact add_int (q _ _ ⟨_, rfl⟩)
theorem Bo.subI : ∀ u v, IsI a u → IsI b v → Fi (binaryOp .Sub u v) (IsI (a - b)) := by rintro _ _ ⟨t, rfl⟩ ⟨t', rfl⟩ w A E s Q _ q; exact sub_int (q _ _ ⟨_, rfl⟩)
theorem Bo.addS (h : y.length + z.length ≤ 16777216) : ∀ u v, IsS y u → IsS z v → Fi (binaryOp .Add u v) (IsS (y ++ z)) := by rintro _ _ ⟨t, rfl⟩ ⟨t', rfl⟩ w A E s Q _ q; exact add_str (fun t k => q _ _ ⟨_, rfl⟩) (by rw [sizeLine_eq]; exact h)
theorem Io.addI {t : Tok} : ∀ v, IsI b v → Fi (inplaceOp .Add (.int a t) v) (IsI (a + b)) := by rintro _ ⟨t', rfl⟩ w A E s Q _ q; exact iadd_int (q _ _ ⟨_, rfl⟩)
theorem Io.addT {l l' : List Nat} {t : Tok} (h : l.length + l'.length ≤ 1000000) : ∀ v, IsS (T l') v → Fi (inplaceOp .Add (.str (T l) t) v) (IsS (T (l ++ l'))) := by rintro _ ⟨t', rfl⟩ w A E s Q _ q; exact iadd_T h fun t k => q _ _ ⟨_, rfl⟩
theorem Co.ltI : Cop .Lt (IsI a) (IsI b) (decide (a < b)) := by rintro w A E s Q _ _ ⟨t, rfl⟩ ⟨t', rfl⟩ q; exact P.lt_int (q s.toks)
theorem Co.leI : Cop .LtE (IsI a) (IsI b) (decide (a ≤ b)) := by rintro w A E s Q _ _ ⟨t, rfl⟩ ⟨t', rfl⟩ q; exact P.le_int (q s.toks)
theorem Co.gtI : Cop .Gt (IsI a) (IsI b) (decide (a > b)) := by rintro w A E s Q _ _ ⟨t, rfl⟩ ⟨t', rfl⟩ q; exact P.gt_int (q s.toks)
theorem Co.geI : Cop .GtE (IsI a) (IsI b) (decide (a ≥ b)) := by rintro w A E s Q _ _ ⟨t, rfl⟩ ⟨t', rfl⟩ q; exact P.ge_int (q s.toks)
theorem Co.eqI : Cop .Eq (IsI a) (IsI b) (a == b) := by rintro w A E s Q _ _ ⟨t, rfl⟩ ⟨t', rfl⟩ q; exact P.eq_int (q s.toks)
theorem Co.eq1 {c d : Nat} (hy : z = T [d]) : Cop .Eq (IsS (T [c])) (IsS z) (decide (c = d)) := by rintro w A E s Q _ _ ⟨t, rfl⟩ h q; exact Cop.eq1 hy _ _ _ s _ _ _ rfl h q
theorem Co.eqC {b : Bool} (hb : (y.cps.toList == z.cps.toList) = b) : Cop .Eq (IsS y) (IsS z) b := by rintro w A E s Q _ _ ⟨t, rfl⟩ h q; exact Cop.eqC hb _ _ _ s _ _ _ rfl h q
theorem Co.in1 {c : Nat} {p : Nat → Bool} (hz : ∀ c : Fin 256, decide (c.val ∈ z.cps.toList) = p c.val) (h2 : ∀ d ∈ z.cps.toList, d < 256) (h3 : ∀ d, 256 ≤ d → p d = false) : Cop .In (IsS (T [c])) (IsS z) (p c) := by rintro w A E s Q _ _ ⟨t, rfl⟩ ⟨t', rfl⟩ q; exact in_lit (small_mem _ p hz h2 h3 c) (q s.toks)
theorem Fi.len (h : z.length < 2 ^ 62) : ∀ v, IsS z v → Fi (call (.builtin "len") [v]) (IsI (z.length : Nat)) := by rintro _ ⟨t, rfl⟩ w A E s Q _ q; exact P.len_str (by omega) (q _ _ ⟨_, rfl⟩)
theorem Fi.ord {c : Nat} : ∀ v, IsS (T [c]) v → Fi (call (.builtin "ord") [v]) (IsI c) := by rintro _ ⟨t, rfl⟩ w A E s Q _ q; exact P.ord_of_char (q _ _ ⟨_, rfl⟩)
theorem Fi.count {pl : Sem Bool} {t : Tok} : Fi (getMethod (.str z t) (Str.ofString "count") pl) (· = (.builtin "str.count", [.str z t])) := fun w A E s Q _ q => GM.count (q _ s.toks rfl)
theorem Fi.find {pl : Sem Bool} {t : Tok} : Fi (getMethod (.str z t) (Str.ofString "find") pl) (· = (.builtin "str.find", [.str z t])) := fun w A E s Q _ q => GM.find (q _ s.toks rfl)
end
noncomputable def fb (o : Obj) : List Stmt := match o.data with
  | .func f => (match f.body with | .stmts b => b | _ => [])
  | _ => []
noncomputable def fnO (o : Obj) (a : Addr) : Fn := match o.data with
  | .func f => ⟨f.qualname, f.scope, a, f.code⟩
  | _ => ⟨Str.ofString "", default, a, .none⟩
noncomputable def wb : Stmt → List Stmt
  | .While _ b _ _ => b
  | _ => []
theorem Ep.strT {x : Fx} {f : Fn} {m : Loc} {n : Led} {y : Str} {l : List Nat} {k : Nat} {pos : Pos} (h : y = T l) : Ep x f m n (.Constant (.str y) k pos) (IsS (T l)) := h ▸ Ep.str
theorem g_len : ∀ Q, nsIn (Mine.KK Q) mainGlobals (Str.ofString "len") = some none := by intro Q; kernel_rfl
theorem b_len : bootBuiltins (Str.ofString "len") = some (.builtin "len") := by boot_by_name
theorem g_ord : ∀ Q, nsIn (Mine.KK Q) mainGlobals (Str.ofString "ord") = some none := by intro Q; kernel_rfl
theorem b_ord : bootBuiltins (Str.ofString "ord") = some (.builtin "ord") := by boot_by_name
section
variable {x : Fx} {f : Fn} {m : Loc} {n : Led}
theorem Ep.len {p pos : Pos} {e : Expr} {z : Str} (h : Ep x f m n e (IsS z)) (hz : z.length < 2 ^ 62)
    (he : eval (.Call (.Name (Str.ofString "len") p) [e] [] pos) (x.env f) = (do callWith pos (← eval (.Name (Str.ofString "len") p) (x.env f)) [] (backTo pos (starEach [e] (x.env f))) (backToKw pos (keywordEach [] (x.env f)))) := by rfl)
    (hs : starEach [e] (x.env f) = (false, eval e (x.env f)) :: starEach [] (x.env f) := by rfl) (hx : (x.env f).kindOf (Str.ofString "len") = some .globalImplicit := by rfl) : Ep x f m n (.Call (.Name (Str.ofString "len") p) [e] [] pos) (IsI (z.length : Nat)) :=
  Ep.call1 g_len b_len (by decide) h (Fi.len hz) he hs hx
theorem Ep.ord {p pos : Pos} {e : Expr} {c : Nat} (h : Ep x f m n e (IsS (T [c])))
    (he : eval (.Call (.Name (Str.ofString "ord") p) [e] [] pos) (x.env f) = (do callWith pos (← eval (.Name (Str.ofString "ord") p) (x.env f)) [] (backTo pos (starEach [e] (x.env f))) (backToKw pos (keywordEach [] (x.env f)))) := by rfl)
    (hs : starEach [e] (x.env f) = (false, eval e (x.env f)) :: starEach [] (x.env f) := by rfl) (hx : (x.env f).kindOf (Str.ofString "ord") = some .globalImplicit := by rfl) : Ep x f m n (.Call (.Name (Str.ofString "ord") p) [e] [] pos) (IsI c) :=
  Ep.call1 g_ord b_ord (by decide) h Fi.ord he hs hx
end
end Mine

end
section
open Mine
set_option maxHeartbeats 300000
namespace Mine
section
variable {x : Fx} {f : Fn} {m : Loc} {n : Led} {R : Value → Loc → Led → Prop} {X : List Value → Led → Prop}
theorem Tr.callD {c u : Nat} {fa : Addr} {vs : List Value} {name qual : Str} {params : Arguments} {body : List Stmt} {scope : Scope} {dV kV doc pm cdv ct oc : Value} {an od : Option Addr} {osl : Array (Option Value)} {binds : List (Str × Value)}
    (ho : (Mine.KK x.w.params).lookup fa = some ⟨oc, od, .func (fnOf name qual params body scope dV kV doc pm an cdv ct), osl⟩) (hcd : codeIn (Mine.KK x.w.params) cdv qual = true)
    (hbind : ∀ s : Shared, (Mine.KK x.w.params).In s.heap → BindsTo s (fnOf name qual params body scope dV kV doc pm an cdv ct) ⟨vs, []⟩ binds) (hloc : ∀ y ∈ binds, scope.names.lookup y.1 = some .local)
    (hco : scope.isCoroutine = false) (hgen : scope.isGenerator = false) (hk : scope.kind = .function) (hcell : ∀ x ∈ scope.names, x.2 ≠ .cell) (h5 : c + 1 ≤ x.c) (h6 : u + 3 ≤ x.u)
    (h : ∀ y : Fx, y.w = x.w → y.c = c → y.u = u → y.cl = [] → Ex y ⟨qual, scope, fa, cdv⟩ binds.reverse n body (fun fl _ n' => R (retv fl) m n') X) : Tr x f m n (call (.ref fa) vs) R X := Tr.mk fun s Q E ok st q ee _ => by
  obtain ⟨⟨mm, F, km⟩, N⟩ := st
  have h1 := ok.hd
  have h2 := ok.hu
  exact wpAny_call (code_of (env := x.env f) (outer := x.outer) ho hcd hbind hloc h hco hgen hk hcell rfl rfl ok.k rfl ok.B F ok.X N ok.T (by show x.dp + 1 + c < recursionLimit; omega) (by show x.un + 3 + u < cLine; omega) (fun v h' tk' n' r F' N' => q v m n' h' tk' r ⟨⟨mm, F', km⟩, N'⟩) fun e t g' h' tk' es n' r F' RS _ u => ee e h' tk' es n' r (.inr ⟨t, g', mm, F', RS, u⟩))
theorem Ep.neg {e : Expr} {pos : Pos} {i : Int} (h : Ep x f m n e (IsI i)) : Ep x f m n (.UnaryOp .USub e pos) (IsI (-i)) := Tr.mk fun s Q E ok st q ee po => UnaryOp_ (h.use ok st (fun v h1 t1 ⟨t, hv⟩ st1 => by
  subst hv
  exact neg_int (q _ _ _ h1 _ ⟨⟨_, rfl⟩, rfl, rfl⟩ st1)) po)
theorem Co.self {v : Value} (h : plainIs v v = true) : Cop .IsNot (· = v) (· = v) false := fun w A E s Q a b e1 e2 q => by subst e1 e2; exact wpAny_isNot_self h (q s.toks)
theorem Co.isIN {i : Int} : Cop .Is (IsI i) (· = .none) false := fun w A E s Q a b ⟨t, e1⟩ e2 q => Cop.isIN (t := t) w A E s Q a b e1 e2 q
theorem Co.isSN {z : Str} : Cop .Is (IsS z) (· = .none) false := fun w A E s Q a b ⟨t, e1⟩ e2 q => Cop.isSN (t := t) w A E s Q a b e1 e2 q
theorem Ep.typI {p pos : Pos} {e : Expr} {i : Int} (h : Ep x f m n e (IsI i))
    (he : eval (.Call (.Name (Str.ofString "type") p) [e] [] pos) (x.env f) = (do callWith pos (← eval (.Name (Str.ofString "type") p) (x.env f)) [] (backTo pos (starEach [e] (x.env f))) (backToKw pos (keywordEach [] (x.env f)))) := by rfl)
    (hs : starEach [e] (x.env f) = (false, eval e (x.env f)) :: starEach [] (x.env f) := by rfl) (hx : (x.env f).kindOf (Str.ofString "type") = some .globalImplicit := by rfl) : Ep x f m n (.Call (.Name (Str.ofString "type") p) [e] [] pos) (· = .type "int") :=
  Ev.callT (id := "type") (by intro Q; kernel_rfl) (by boot_by_name) (by decide) (Er.cons (h.go fun v ⟨t, hv⟩ => Er.nil (Tr.fin (V := (· = .type "int")) (fun s Q E q => hv ▸ call_type_of (typeIs_int s i t) (by decide) (q _ s.toks rfl)) fun _ h => ⟨h, rfl, rfl⟩)) hs) he hs rfl hx
theorem Ep.intI {p pos : Pos} {e : Expr} {i : Int} (h : Ep x f m n e (IsI i))
    (he : eval (.Call (.Name (Str.ofString "int") p) [e] [] pos) (x.env f) = (do callWith pos (← eval (.Name (Str.ofString "int") p) (x.env f)) [] (backTo pos (starEach [e] (x.env f))) (backToKw pos (keywordEach [] (x.env f)))) := by rfl)
    (hs : starEach [e] (x.env f) = (false, eval e (x.env f)) :: starEach [] (x.env f) := by rfl) (hx : (x.env f).kindOf (Str.ofString "int") = some .globalImplicit := by rfl) : Ep x f m n (.Call (.Name (Str.ofString "int") p) [e] [] pos) (IsI i) :=
  Ev.callT (id := "int") (by intro Q; kernel_rfl) (by boot_by_name) (by decide) (Er.cons (h.go fun v ⟨t, hv⟩ => Er.nil (Tr.fin (V := IsI i) (fun s Q E q => hv ▸ call_int_int (q _ s.toks ⟨t, rfl⟩)) fun _ h => ⟨h, rfl, rfl⟩)) hs) he hs rfl hx
theorem Tr.index {i : Int} {t : Tok} {w : Value} (h5 : 1 ≤ x.c) (h6 : 3 ≤ x.u) (h0 : -1 ≤ i) (h1 : i < 300) (h : ∀ t, R (.int i t) m n) : Tr x f m n (call (.ref 74) [.int i t, w]) R X := by
  refine Tr.callD (c := 0) (u := 0) (binds := [(Str.ofString "n", .int i t), (Str.ofString "what", w)]) (by k_is) (by k_is) (fun s X => BindsTo.of_eq rfl) (locs rfl) rfl rfl rfl (by decide) h5 h6 fun y hw hc hu hcl => ?_
  show Ex y (fnO o74.1 74) _ _ (fb o74.1) _ _
  refine Ex.ifF (Tp.L (TL.andF (Tp.cmp (Ep.typI (Ep.nameI rfl)) ?a (Co.self rfl)))) ?_
  case a => exact Ep.blt (by intro Q; kernel_rfl) (by boot_by_name) (by decide)
  refine Ex.asI (Ep.intI (Ep.nameI rfl)) fun t' => ?_
  refine Ex.ifF (Tp.L (TL.orF (Tp.cast (Tp.cmp (Ep.nameI rfl) Ep.int Co.gtI) (decide_eq_false (by omega))) (TL.orF (Tp.cast (Tp.cmp (Ep.nameI rfl) (Ep.neg Ep.int) Co.ltI) (decide_eq_false (by omega))) TL.orN))) ?_
  exact Ex.retI (Ep.nameI rfl) h
end
noncomputable def setIn (K : Frag) (C : Addr) (name : Str) : Bool := (match findIn K (.ref C) "__setattr__" with | some (some (.builtin b)) => b == "object.__setattr__" | _ => false) && plainOver K C && hasDictIn K C && (match takerIn K C name with | some none => true | _ => false)
theorem setIn_of {K : Frag} {C : Addr} {name : Str} (h : setIn K C name = true) : findIn K (.ref C) "__setattr__" = some (some (.builtin "object.__setattr__")) ∧ plainOver K C = true ∧ hasDictIn K C = true ∧ takerIn K C name = some none := by
  unfold setIn at h
  simp only [Bool.and_eq_true] at h
  obtain ⟨⟨⟨h1, h2⟩, h3⟩, h4⟩ := h
  refine ⟨?_, h2, h3, ?_⟩
  · split at h1
    · next b hb => rw [hb, beq_iff_eq.mp h1]
    · cases h1
  · split at h4
    · assumption
    · cases h4
structure SP where
  sio : Addr
  sd : Addr
  hs : Nat → Int
  ts : Nat → Tok
  r : List Nat
  t1 : Tok
  t2 : Tok
noncomputable def sioL (P : SP) (pos : Int) (t3 : Tok) : List DictEntry := [en P.hs P.ts 0 "_StringIO__newline" (.str (Str.ofString "\n") P.t1), en P.hs P.ts 1 "_StringIO__buf" (.str (T P.r) P.t2), en P.hs P.ts 2 "_StringIO__pos" (.int pos t3)]
noncomputable def sN (P : SP) (pos : Int) (t3 : Tok) (news : Led) : Led := (P.sio, instObj 608 P.sd) :: (P.sd, dictOf (sioL P pos t3) 3) :: news
theorem sa_pos {P : SP} {pos : Int} {t3 : Tok} : getL (Str.ofString "_StringIO__pos") (sioL P pos t3) = some (some (.int pos t3)) := by kernel_rfl
theorem sa_buf {P : SP} {pos : Int} {t3 : Tok} : getL (Str.ofString "_StringIO__buf") (sioL P pos t3) = some (some (.str (T P.r) P.t2)) := by kernel_rfl
theorem sa_nl {P : SP} {pos : Int} {t3 : Tok} : getL (Str.ofString "_StringIO__newline") (sioL P pos t3) = some (some (.str (Str.ofString "\n") P.t1)) := by kernel_rfl
theorem sp_put {P : SP} {pos j : Int} {t3 t : Tok} {h : Int} {k : Value} : (putL (Str.ofString "_StringIO__pos") h k (.int j t) (sioL P pos t3), putN (Str.ofString "_StringIO__pos") (sioL P pos t3) 3) = (sioL P j t, 3) := by kernel_rfl
theorem so_pos : ∀ Q, ownOk (Mine.KK Q) 608 (Str.ofString "_StringIO__pos") = true := by intro Q; kernel_rfl
theorem so_buf : ∀ Q, ownOk (Mine.KK Q) 608 (Str.ofString "_StringIO__buf") = true := by intro Q; kernel_rfl
theorem so_nl : ∀ Q, ownOk (Mine.KK Q) 608 (Str.ofString "_StringIO__newline") = true := by intro Q; kernel_rfl
section
variable {x : Fx} {f : Fn} {m : Loc} {P : SP} {pos : Int} {t3 : Tok} {news : Led} {R : Flow → Loc → Led → Prop} {X : List Value → Led → Prop}
theorem Ep.sa {y name : Str} {yp ap : Pos} {v : Value} (hy : look m y = some (.ref P.sio)) (hA : getL name (sioL P pos t3) = some (some v)) (hO : ∀ Q, ownOk (Mine.KK Q) 608 name = true) (hv : handedIn v = true := by rfl)
    (hx : (x.env f).kindOf y = some .local := by rfl) (hd : (y == ("__debug__" : Str)) = false := by decide) : Ep x f m (sN P pos t3 news) (.Attribute (.Name y yp) name ap) (· = v) :=
  Ep.at rfl (Ep.name hy hx hd) (Tr.own (.head _) (.tail _ (.head _)) hO hA hv ⟨rfl, rfl, rfl⟩)
theorem Ep.sbuf {y : Str} {yp ap : Pos} (hy : look m y = some (.ref P.sio)) (hx : (x.env f).kindOf y = some .local := by rfl) (hd : (y == ("__debug__" : Str)) = false := by decide) : Ep x f m (sN P pos t3 news) (.Attribute (.Name y yp) (Str.ofString "_StringIO__buf") ap) (IsS (T P.r)) :=
  Ep.mono (Ep.sa hy sa_buf so_buf rfl hx hd) fun _ e => ⟨_, e⟩
theorem Ex.spos {y : Str} {yp ap pos' : Pos} {e : Expr} {r : List Stmt} {j : Int} (hne : ∀ q ∈ news, q.1 ≠ P.sd) (hne' : @Ne Nat P.sio P.sd) (he : Ep x f m (sN P pos t3 news) e (IsI j)) (hy : look m y = some (.ref P.sio)) (h : ∀ t, Ex x f m (sN P j t news) r R X)
    (hs : swapsWith e (some (.Attribute (.Name y yp) (Str.ofString "_StringIO__pos") ap)) pos'.line (x.env f) = pure false := by rfl) (hx : (x.env f).kindOf y = some .local := by rfl) (hd' : (y == ("__debug__" : Str)) = false := by decide) : Ex x f m (sN P pos t3 news) (.Assign [.Attribute (.Name y yp) (Str.ofString "_StringIO__pos") ap] e pos' :: r) R X :=
  Ex.seta he (Ep.name hy hx hd') (fun v ⟨t, e⟩ => Tr.mk fun s Q E ok st q _ _ => by
    subst e
    obtain ⟨⟨mm, F, km⟩, N⟩ := st
    obtain ⟨h1, h2, h3, h4⟩ := setIn_of (show setIn (Mine.KK x.w.params) 608 (Str.ofString "_StringIO__pos") = true by kernel_rfl)
    exact set_dict F ok.X N (InstAt.of_news N (.head _) (.tail _ (.head _))) rfl h1 h2 h4 h3 (by kernel_rfl) sp_put (.tail hne' (.head hne)) (by show 3 ≤ 1000; decide) fun h' F' N' => q () m _ h' _ (h t) ⟨⟨mm, F', km⟩, N'⟩) hs
theorem Ev.scheck {y : Str} {yp ap cp : Pos} {R : Value → Loc → Led → Prop} (h5 : 1 ≤ x.c) (h6 : 3 ≤ x.u) (hy : look m y = some (.ref P.sio)) (h : R .none m (sN P pos t3 news)) (hx : (x.env f).kindOf y = some .local := by rfl) (hd : (y == ("__debug__" : Str)) = false := by decide) {pl : Sem Bool}
    (he : eval (.Call (.Attribute (.Name y yp) (Str.ofString "_StringIO__check") ap) [] [] cp) (x.env f) = (do
      let ov ← eval (.Name y yp) (x.env f)
      standAt ap.atName
      let (fv, first) ← holding [ov] (getMethod ov (Str.ofString "_StringIO__check") pl)
      callWith cp fv first (backTo cp (starEach [] (x.env f))) []) := by rfl) : Ev x f m (sN P pos t3 news) (.Call (.Attribute (.Name y yp) (Str.ofString "_StringIO__check") ap) [] [] cp) R X :=
  Ev.meth0 (fa := 392) (Ep.name hy hx hd) (.head _) (.tail _ (.head _)) (by intro Q; kernel_rfl) (by kernel_rfl)
    (Tr.callD (c := 0) (u := 0) (binds := [(Str.ofString "self", .ref P.sio)]) (by k_is) (by k_is) (fun s X => BindsTo.of_eq rfl) (locs rfl) rfl rfl rfl (by decide) h5 h6 fun y hw hc hu hcl => Ex.ifF (Tp.cmp (Ep.sbuf rfl) Ep.none Co.isSN) (Ex.nil h)) he
theorem Ep.part {y a b : Str} {yp ap p1 p2 p3 p4 p5 p6 p7 p8 p9 pp : Pos} {k k1 : Nat} {i j : Int} {ti tj : Tok} (hl : P.r.length < 10000) (hy : look m y = some (.ref P.sio)) (ha : look m a = some (.int i ti)) (hb : look m b = some (.int j tj))
    (hx : (x.env f).kindOf y = some .local := by rfl) (hd : (y == ("__debug__" : Str)) = false := by decide) (hxa : (x.env f).kindOf a = some .local := by rfl) (hda : (a == ("__debug__" : Str)) = false := by decide) (hxb : (x.env f).kindOf b = some .local := by rfl) (hdb : (b == ("__debug__" : Str)) = false := by decide) :
    Ep x f m (sN P pos t3 news) (.Subscript (.BinOp (.Subscript (.Attribute (.Name y yp) (Str.ofString "_StringIO__buf") ap) (.Slice (some (.Name a p1)) (some (.Name b p2)) Option.none p3) p4) .Add (.Constant (.str (Str.ofString " ")) k p5) p6) (.Slice Option.none (some (.UnaryOp .USub (.Constant (.int 1) k1 p7) p8)) Option.none p9) pp) (IsS (Txt.slice (T P.r) (some i) (some j))) := by
  have h1 : (Txt.slice (T P.r) (some i) (some j)).length ≤ 10000 := Nat.le_trans (Txt.slice_le _ _ _) (by rw [T_len]; omega)
  have h2 := Ep.slNS (x := x) (f := f) (m := m) (n := sN P pos t3 news) (p := p9) (pos := pp) (Ep.bin (pos := p6) (Ep.slSS (p := p3) (pos := p4) (Ep.sbuf (yp := yp) (ap := ap) hy hx hd) (Ep.nameI (pos := p1) ha hxa hda) (Ep.nameI (pos := p2) hb hxb hdb) (by rw [T_len]; omega)) (Ep.str (y := Str.ofString " ") (k := k) (pos := p5)) (Bo.addS (by rw [show (Str.ofString " ").length = 1 by decide +kernel]; omega))) (Ep.neg (pos := p8) (Ep.int (i := 1) (k := k1) (pos := p7))) (by rw [Str.length_append, show (Str.ofString " ").length = 1 by decide +kernel]; omega)
  exact Ep.mono h2 fun v ⟨t, e⟩ => ⟨t, e.trans (congrArg (Value.str · t) ((congrArg (fun z => Txt.slice (_ ++ z) Option.none (some (-1))) (show Str.ofString " " = ⟨#[32]⟩ by decide +kernel)).trans (slice_chop _ 32)))⟩
end
theorem rd_spec {w : World} (news : List (Addr × Obj)) (sio sd : Addr) (hs ts) (r : List Nat) (pos n : Nat) (t1 t2 t3 tk : Tok)
  (hne : ∀ q ∈ news, q.1 ≠ sd) (hne' : @Ne Nat sio sd) :
  Con 5 40 w 554 ((sio, instObj 608 sd) :: (sd, sioD hs ts (T r) pos t1 t2 t3) :: news) (pos ≤ r.length ∧ r.length < 10000 ∧ n < 300) [.ref sio, .int n tk]
    (fun v news' => ∃ o', (∃ x t p' t', x = T ((r.drop pos).take n) ∧ p' = ((pos + ((r.drop pos).take n).length : Nat) : Int) ∧ v = .str x t ∧ o' = sioD hs ts (T r) p' t1 t2 t') ∧ news' = (sio, instObj 608 sd) :: (sd, o') :: news) (fun _ _ => False) := by
  refine' Con.of (binds := [(Str.ofString "self", .ref sio), (Str.ofString "size", .int n tk)]) ?a ?b ?c ?d ?e ?h ?i ?j ?k ?l
  case a => k_is
  case b => k_is
  case c => exact fun s X => binds_K X rfl (by k_is) rfl rfl rfl
  case d => exact locs rfl
  case e => decide
  case i => exact rfl
  case j => exact rfl
  case k => exact rfl
  case l => decide
  rintro ⟨hpos, hlen, hn⟩ x hw hc hu hcl
  show Ex x (fnO o554.1 554) _ (sN ⟨sio, sd, hs, ts, r, t1, t2⟩ pos t3 news) (fb o554.1) _ _
  have hl : (T r).length = r.length := T_len r
  have hend : ∀ (m : Loc) (e : Nat) (te ts' : Tok), look m (Str.ofString "self") = some (.ref sio) → look m (Str.ofString "start") = some (.int pos ts') → look m (Str.ofString "stop") = some (.int e te) → pos ≤ e → e = pos + ((r.drop pos).take n).length →
      Ex x (fnO o554.1 554) m (sN ⟨sio, sd, hs, ts, r, t1, t2⟩ pos t3 news) ((fb o554.1).drop 7) (fun fl _ news' => ∃ o', (∃ x t p' t', x = T ((r.drop pos).take n) ∧ p' = ((pos + ((r.drop pos).take n).length : Nat) : Int) ∧ retv fl = .str x t ∧ o' = sioD hs ts (T r) p' t1 t2 t') ∧ news' = (sio, instObj 608 sd) :: (sd, o') :: news) (fun _ _ => False) := fun m e te ts' h1 h2 h3 h4 h6 =>
    Ex.spos hne hne' (Ep.nameI h3) h1 fun t5 => Ex.retS (Ep.part hlen h1 h2 h3) fun t7 => ⟨_, ⟨_, t7, e, t5, by
      have hll : ((r.drop pos).take n).length = e - pos := by omega
      show Txt.slice (T r) (some (pos : Int)) (some (e : Int)) = _
      rw [slice_T _ _ _ h4 (by rw [h6]; simp only [List.length_take, List.length_drop]; omega)]
      simp only [List.length_take, List.length_drop] at hll
      congr 1
      rw [← hll]
      simp [List.take_eq_take_iff], congrArg Int.ofNat h6, rfl, rfl⟩, rfl⟩
  refine Ex.ifF (Tp.cmp (Ep.nameI rfl) Ep.none Co.isIN) ?_
  refine Ex.asK (Ev.dcall (fa := 74) ?g ?k (Er.I (Ep.nameI rfl) fun t5 => Er.S Ep.str fun t6 => Er.nil (Tr.index (by omega) (by omega) (by omega) (by omega) fun t4 => ?_)))
  case g => (intro Q; kernel_rfl)
  case k => (intro Q; kernel_rfl)
  refine Ex.exp (Ev.scheck (by omega) (by omega) rfl ?_)
  refine Ex.asE (Ep.sa rfl sa_pos so_pos) ?_
  refine Ex.asI (Ep.len (Ep.sbuf rfl) (by rw [hl]; omega)) fun t7 => ?_
  rw [hl]
  by_cases h1 : r.length ≤ pos
  · refine Ex.ifT (Tp.cast (Tp.cmp (Ep.nameI rfl) (Ep.nameI rfl) Co.geI) (decide_eq_true (by omega))) ?_
    have hd : (r.drop pos).take n = [] := by rw [List.drop_eq_nil_of_le h1, List.take_nil]
    exact Ex.retS Ep.str fun t8 => ⟨_, ⟨_, t8, pos, t3, by rw [hd]; rfl, by rw [hd]; rfl, rfl, rfl⟩, rfl⟩
  · refine Ex.ifF (Tp.cast (Tp.cmp (Ep.nameI rfl) (Ep.nameI rfl) Co.geI) (decide_eq_false (by omega))) ?_
    by_cases h2 : pos + n < r.length
    · refine Ex.ifT (Tp.L (TL.andT (Tp.cast (Tp.cmp (Ep.nameI rfl) Ep.int Co.geI) (decide_eq_true (by omega))) (TL.andT (Tp.cast (Tp.cmp (Ep.bin (Ep.nameI rfl) (Ep.nameI rfl) Bo.addI) (Ep.nameI rfl) Co.ltI) (decide_eq_true (by omega))) TL.andN))) ?_
      refine Ex.asI (Ep.bin (Ep.nameI rfl) (Ep.nameI rfl) Bo.addI) fun t8 => ?_
      exact hend _ (pos + n) t8 _ rfl rfl rfl (by omega) (by simp; omega)
    · refine Ex.ifF (Tp.L (TL.andT (Tp.cast (Tp.cmp (Ep.nameI rfl) Ep.int Co.geI) (decide_eq_true (by omega))) (TL.andF (Tp.cast (Tp.cmp (Ep.bin (Ep.nameI rfl) (Ep.nameI rfl) Bo.addI) (Ep.nameI rfl) Co.ltI) (decide_eq_false (by omega)))))) ?_
      exact hend _ r.length t7 _ rfl rfl rfl (by omega) (by simp; omega)
theorem line_run {y : Fx} {P : SP} {pos : Nat} {t3 tk : Tok} {news : Led} {R : Flow → Loc → Led → Prop} {X : List Value → Led → Prop} (hne : ∀ q ∈ news, q.1 ≠ P.sd) (hne' : @Ne Nat P.sio P.sd) (hpos : pos ≤ P.r.length) (hlen : P.r.length < 10000)
    (h : ∀ (z : Str) t m' t', R (.ret (.str z t)) m' (sN P ((P.r.length - (aft (P.r.drop pos)).length : Nat) : Int) t' news)) : Ex y (fnO o406.1 406) [(Str.ofString "limit", .int (-1) tk), (Str.ofString "self", .ref P.sio)] (sN P pos t3 news) (fb o406.1) R X := by
  have hl : (T P.r).length = P.r.length := T_len P.r
  have hend : ∀ (m : Loc) (e : Nat) (te ts' : Tok), look m (Str.ofString "self") = some (.ref P.sio) → look m (Str.ofString "start") = some (.int pos ts') → look m (Str.ofString "stop") = some (.int e te) → e = P.r.length - (aft (P.r.drop pos)).length →
      Ex y (fnO o406.1 406) m (sN P pos t3 news) ((fb o406.1).drop 7) R X := fun m e te ts' h1 h2 h3 h4 =>
    Ex.spos hne hne' (Ep.nameI h3) h1 fun t5 => Ex.retS (Ep.part hlen h1 h2 h3) fun t7 => by subst h4; exact h _ t7 _ t5
  refine Ex.asE (Ep.sa rfl sa_pos so_pos) ?_
  refine Ex.asI (Ep.len (Ep.sbuf rfl) (by rw [hl]; omega)) fun t7 => ?_
  rw [hl]
  by_cases h1 : P.r.length ≤ pos
  · refine Ex.ifT (Tp.cast (Tp.cmp (Ep.nameI rfl) (Ep.nameI rfl) Co.geI) (decide_eq_true (by omega))) ?_
    have e : P.r.length - (aft (P.r.drop pos)).length = pos := by rw [List.drop_eq_nil_of_le h1]; simp [aft]; omega
    rw [e] at h
    exact Ex.retS Ep.str fun t8 => h _ t8 _ t3
  · refine Ex.ifF (Tp.cast (Tp.cmp (Ep.nameI rfl) (Ep.nameI rfl) Co.geI) (decide_eq_false (by omega))) ?_
    refine Ex.asE Ep.bool ?_
    refine Ex.ifF (Tp.L (TL.andF (Tp.cast (Tp.cmp (Ep.nameI rfl) Ep.int Co.geI) (decide_eq_false (by omega))))) ?_
    refine Ex.asE (Ep.sa rfl sa_nl so_nl) ?_
    refine Ex.ifF (Tp.cmp (Ep.nameS rfl) Ep.str (Co.eqC (by decide +kernel))) ?_
    refine Ex.asS (z := Str.ofString "\n") (Ep.ife (Tp.cmp (Ep.nameS rfl) Ep.none Co.isSN) (fun h => nomatch h) fun _ => Ep.nameS rfl) fun t8 => ?_
    refine Ex.ifF (Tp.L (TL.andF (Tp.val (Ep.name rfl) Tv.bool))) ?_
    refine Ex.asK (Ev.methS (Ep.sbuf rfl) (fun _ => Fi.find) (fun t => Er.S (Ep.nameS rfl) fun t' => Er.I (Ep.nameI rfl) fun u => Er.I (Ep.nameI rfl) fun u2 => Er.nil (Tr.fi (V := IsI (Txt.find3 (T P.r) (Str.ofString "\n") pos)) (fun w A E s Q _ q => find4 (by rw [hl]) (q _ _ ⟨_, rfl⟩)) ?_)))
    rintro _ ⟨u3, rfl⟩
    rcases find_nl P.r pos hpos with ⟨h2, h3⟩ | ⟨k, h2, h3, h4, h5⟩
    · rw [h2]
      refine Ex.ifF (Tp.cast (Tp.cmp (Ep.nameI rfl) Ep.int Co.geI) (decide_eq_false (by omega))) ?_
      exact hend _ _ t7 _ rfl rfl rfl (by rw [h3]; rfl)
    · rw [h2]
      refine Ex.ifT (Tp.cast (Tp.cmp (Ep.nameI rfl) Ep.int Co.geI) (decide_eq_true (by omega))) ?_
      refine Ex.asI (i := ((k + 1 : Nat) : Int)) (Ep.bin (Ep.nameI rfl) (Ep.len (Ep.nameS rfl) (by decide +kernel)) fun a b ha hb => Bo.addI a b ha hb) fun t9 => ?_
      exact hend _ (k + 1) t9 _ rfl rfl rfl (by rw [h5]; simp; omega)
theorem rl_spec {w : World} (news : List (Addr × Obj)) (sio sd : Addr) (hs ts) (r : List Nat) (pos : Nat) (t1 t2 t3 : Tok)
  (hne : ∀ q ∈ news, q.1 ≠ sd) (hne' : @Ne Nat sio sd) :
  Con 5 40 w 562 ((sio, instObj 608 sd) :: (sd, sioD hs ts (T r) pos t1 t2 t3) :: news) (pos ≤ r.length ∧ r.length < 10000) [.ref sio]
    (fun v news' => ∃ o', (∃ x t p' t', p' = ((r.length - (aft (r.drop pos)).length : Nat) : Int) ∧ v = .str x t ∧ o' = sioD hs ts (T r) p' t1 t2 t') ∧ news' = (sio, instObj 608 sd) :: (sd, o') :: news) (fun _ _ => False) := by
  refine' Con.of (binds := [(Str.ofString "self", .ref sio), (Str.ofString "size", .int (-1) 903)]) ?a ?b ?c ?d ?e ?h ?i ?j ?k ?l
  case a => k_is
  case b => k_is
  case c => exact fun s X => binds_K X rfl (by k_is) rfl rfl rfl
  case d => exact locs rfl
  case e => decide
  case i => exact rfl
  case j => exact rfl
  case k => exact rfl
  case l => decide
  rintro ⟨hpos, hlen⟩ x hw hc hu hcl
  show Ex x (fnO o562.1 562) _ (sN ⟨sio, sd, hs, ts, r, t1, t2⟩ pos t3 news) (fb o562.1) _ _
  refine Ex.ifF (Tp.cmp (Ep.nameI rfl) Ep.none Co.isIN) ?_
  refine Ex.asK (Ev.dcall (fa := 74) ?g ?k (Er.I (Ep.nameI rfl) fun t5 => Er.S Ep.str fun t6 => Er.nil (Tr.index (by omega) (by omega) (by omega) (by omega) fun t4 => ?_)))
  case g => (intro Q; kernel_rfl)
  case k => (intro Q; kernel_rfl)
  refine Ex.exp (Ev.scheck (by omega) (by omega) rfl ?_)
  refine Ex.ret (Ev.meth (fa := 406) (V := fun l => ∃ v vs, l = v :: vs ∧ IsI (-1) v ∧ vs = []) (Ep.name rfl) (.head _) (.tail _ (.head _)) (by intro Q; kernel_rfl) (by kernel_rfl) (Ea.cons (Ep.nameI rfl) Ea.nil rfl) ?_)
  rintro _ ⟨v, vs, rfl, ⟨t, rfl⟩, rfl⟩
  refine Tr.callD (c := 0) (u := 0) (binds := [(Str.ofString "self", .ref sio), (Str.ofString "limit", .int (-1) t)]) (by k_is) (by k_is) (fun s X => BindsTo.of_eq rfl) (locs rfl) rfl rfl rfl (by decide) (by omega) (by omega) fun y hw' hc' hu' hcl' => ?_
  exact line_run (P := ⟨sio, sd, hs, ts, r, t1, t2⟩) hne hne' hpos hlen fun z t m' t' => ⟨_, ⟨z, t, _, t', rfl, rfl, rfl⟩, rfl⟩
end Mine

end
section
open Mine
namespace Mine
structure LP where
  x : Addr
  ld : Addr
  sio : Addr
  sd : Addr
  pb : Addr
  fs : Addr
  nf : Value
  su : Value
  rd : Value
  hk : Value
  hs : Nat → Int
  ts : Nat → Tok
  hs2 : Nat → Int
  ts2 : Nat → Tok
  tc : Nat → Tok
  r : List Nat
  t1 : Tok
  t2 : Tok
structure LV where
  st : Value
  line : Int
  tl : Tok
  tok : Str
  tt : Tok
noncomputable def lexes (P : LP) (c : LV) : List DictEntry := match (lexD P.hs P.ts P.sio P.pb P.fs P.nf P.su P.rd P.hk P.tc c.st c.line c.tl c.tok c.tt).data with
  | .dict es _ => es.toList
  | _ => []
noncomputable def siosE (P : LP) (pos : Int) (t3 : Tok) : List DictEntry := match (sioD P.hs2 P.ts2 (T P.r) pos P.t1 P.t2 t3).data with
  | .dict es _ => es.toList
  | _ => []
noncomputable def lexP (P : LP) (c : LV) : Obj := dictOf (lexes P c) 21
noncomputable def sioP (P : LP) (pos : Int) (t3 : Tok) : Obj := dictOf (siosE P pos t3) 3
noncomputable def rtN (P : LP) (c : LV) (pos : Int) (t3 : Tok) (dn : Int) (l : List Value) (news : Led) : Led :=
  (P.x, instObj 743 P.ld) :: (P.ld, lexP P c) :: (P.sio, instObj 608 P.sd) :: (P.sd, sioP P pos t3) :: (P.pb, dqO dn l) :: news
structure RtD (P : LP) (news : Led) : Prop where
  n1 : @Ne Nat P.x P.ld
  n2 : @Ne Nat P.x P.sd
  n3 : @Ne Nat P.sio P.sd
  n4 : @Ne Nat P.pb P.sd
  n5 : @Ne Nat P.pb P.ld
  n6 : @Ne Nat P.sd P.ld
  n7 : @Ne Nat P.sio P.ld
  n8 : @Ne Nat P.x P.pb
  n9 : @Ne Nat P.sio P.pb
  e1 : ∀ q ∈ news, q.1 ≠ P.sd
  e2 : ∀ q ∈ news, q.1 ≠ P.ld
  e3 : ∀ q ∈ news, q.1 ≠ P.pb
section
variable {P : LP} {c : LV}
theorem la_instream : getL (Str.ofString "instream") (lexes P c) = some (some (.ref P.sio)) := by kernel_rfl
theorem lo_instream : ∀ Q, ownOk (Mine.KK Q) 743 (Str.ofString "instream") = true := by intro Q; kernel_rfl
theorem la_posix : getL (Str.ofString "posix") (lexes P c) = some (some (.bool true)) := by kernel_rfl
theorem lo_posix : ∀ Q, ownOk (Mine.KK Q) 743 (Str.ofString "posix") = true := by intro Q; kernel_rfl
theorem la_commenters : getL (Str.ofString "commenters") (lexes P c) = some (some (.str (Str.ofString "#") (P.tc 4))) := by kernel_rfl
theorem lo_commenters : ∀ Q, ownOk (Mine.KK Q) 743 (Str.ofString "commenters") = true := by intro Q; kernel_rfl
theorem la_wordchars : getL (Str.ofString "wordchars") (lexes P c) = some (some (.str wcs (P.tc 5))) := by kernel_rfl
theorem lo_wordchars : ∀ Q, ownOk (Mine.KK Q) 743 (Str.ofString "wordchars") = true := by intro Q; kernel_rfl
theorem la_whitespace : getL (Str.ofString "whitespace") (lexes P c) = some (some (.str (Str.ofString " \t\r\n") (P.tc 6))) := by kernel_rfl
theorem lo_whitespace : ∀ Q, ownOk (Mine.KK Q) 743 (Str.ofString "whitespace") = true := by intro Q; kernel_rfl
theorem la_whitespace_split : getL (Str.ofString "whitespace_split") (lexes P c) = some (some (.bool false)) := by kernel_rfl
theorem lo_whitespace_split : ∀ Q, ownOk (Mine.KK Q) 743 (Str.ofString "whitespace_split") = true := by intro Q; kernel_rfl
theorem la_quotes : getL (Str.ofString "quotes") (lexes P c) = some (some (.str (Str.ofString "'\"") (P.tc 8))) := by kernel_rfl
theorem lo_quotes : ∀ Q, ownOk (Mine.KK Q) 743 (Str.ofString "quotes") = true := by intro Q; kernel_rfl
theorem la_escape : getL (Str.ofString "escape") (lexes P c) = some (some (.str (Str.ofString "\\") (P.tc 9))) := by kernel_rfl
theorem lo_escape : ∀ Q, ownOk (Mine.KK Q) 743 (Str.ofString "escape") = true := by intro Q; kernel_rfl
theorem la_escapedquotes : getL (Str.ofString "escapedquotes") (lexes P c) = some (some (.str (Str.ofString "\"") (P.tc 10))) := by kernel_rfl
theorem lo_escapedquotes : ∀ Q, ownOk (Mine.KK Q) 743 (Str.ofString "escapedquotes") = true := by intro Q; kernel_rfl
theorem la_state : getL (Str.ofString "state") (lexes P c) = some (some (c.st)) := by kernel_rfl
theorem lo_state : ∀ Q, ownOk (Mine.KK Q) 743 (Str.ofString "state") = true := by intro Q; kernel_rfl
theorem la_pushback : getL (Str.ofString "pushback") (lexes P c) = some (some (.ref P.pb)) := by kernel_rfl
theorem lo_pushback : ∀ Q, ownOk (Mine.KK Q) 743 (Str.ofString "pushback") = true := by intro Q; kernel_rfl
theorem la_lineno : getL (Str.ofString "lineno") (lexes P c) = some (some (.int c.line c.tl)) := by kernel_rfl
theorem lo_lineno : ∀ Q, ownOk (Mine.KK Q) 743 (Str.ofString "lineno") = true := by intro Q; kernel_rfl
theorem la_debug : getL (Str.ofString "debug") (lexes P c) = some (some (.int 0 (P.tc 14))) := by kernel_rfl
theorem lo_debug : ∀ Q, ownOk (Mine.KK Q) 743 (Str.ofString "debug") = true := by intro Q; kernel_rfl
theorem la_token : getL (Str.ofString "token") (lexes P c) = some (some (.str c.tok c.tt)) := by kernel_rfl
theorem lo_token : ∀ Q, ownOk (Mine.KK Q) 743 (Str.ofString "token") = true := by intro Q; kernel_rfl
theorem la_source : getL (Str.ofString "source") (lexes P c) = some (some P.su) := by kernel_rfl
theorem la_infile : getL (Str.ofString "infile") (lexes P c) = some (some P.nf) := by kernel_rfl
theorem la_read : getL (Str.ofString "read") (lexes P c) = some (some P.rd) := by kernel_rfl
theorem la_sourcehook : getL (Str.ofString "sourcehook") (lexes P c) = some (some P.hk) := by kernel_rfl
theorem la_filestack : getL (Str.ofString "filestack") (lexes P c) = some (some (.ref P.fs)) := by kernel_rfl
theorem la_eof : getL (Str.ofString "eof") (lexes P c) = some (some .none) := by kernel_rfl
theorem lm_read : ∀ Q, methIn (Mine.KK Q) 608 (Str.ofString "read") 554 = true := by intro Q; kernel_rfl
theorem lm_readline : ∀ Q, methIn (Mine.KK Q) 608 (Str.ofString "readline") 562 = true := by intro Q; kernel_rfl
theorem ls_read {pos : Int} {t3 : Tok} : getL (Str.ofString "read") (siosE P pos t3) = some none := by kernel_rfl
theorem ls_readline {pos : Int} {t3 : Tok} : getL (Str.ofString "readline") (siosE P pos t3) = some none := by kernel_rfl
theorem lt_state : ∀ Q, setIn (Mine.KK Q) 743 (Str.ofString "state") = true := by intro Q; kernel_rfl
theorem lt_lineno : ∀ Q, setIn (Mine.KK Q) 743 (Str.ofString "lineno") = true := by intro Q; kernel_rfl
theorem lt_token : ∀ Q, setIn (Mine.KK Q) 743 (Str.ofString "token") = true := by intro Q; kernel_rfl
theorem put_state (v : Value) (h : Int) (k : Value) : (putL (Str.ofString "state") h k v (lexes P c), putN (Str.ofString "state") (lexes P c) 21) = (lexes P { c with st := v }, 21) := by kernel_rfl
theorem put_lineno (i : Int) (u : Tok) (h : Int) (k : Value) : (putL (Str.ofString "lineno") h k (.int i u) (lexes P c), putN (Str.ofString "lineno") (lexes P c) 21) = (lexes P { c with line := i, tl := u }, 21) := by kernel_rfl
theorem put_token (x : Str) (u : Tok) (h : Int) (k : Value) : (putL (Str.ofString "token") h k (.str x u) (lexes P c), putN (Str.ofString "token") (lexes P c) 21) = (lexes P { c with tok := x, tt := u }, 21) := by kernel_rfl
end
section
variable {x : Fx} {f : Fn} {m : Loc} {P : LP} {c : LV} {pos : Int} {t3 : Tok} {dn : Int} {l : List Value} {news : Led}
theorem Ep.lx {y name : Str} {yp ap : Pos} {v : Value} (hy : look m y = some (.ref P.x)) (hA : getL name (lexes P c) = some (some v)) (hO : ∀ Q, ownOk (Mine.KK Q) 743 name = true) (hv : handedIn v = true := by rfl)
    (hx : (x.env f).kindOf y = some .local := by rfl) (hd : (y == ("__debug__" : Str)) = false := by decide) : Ep x f m (rtN P c pos t3 dn l news) (.Attribute (.Name y yp) name ap) (· = v) :=
  Ep.at rfl (Ep.name hy hx hd) (Tr.own (.head _) (.tail _ (.head _)) hO hA hv ⟨rfl, rfl, rfl⟩)
theorem Tr.lx {name : Str} {v : Value} {b : Bool} (hA : getL name (lexes P c) = some (some v)) (hO : ∀ Q, ownOk (Mine.KK Q) 743 name = true) (hv : handedIn v = true := by rfl) :
    Tr x f m (rtN P c pos t3 dn l news) (getAttr (.ref P.x) name b) (fun w m' n' => w = v ∧ m' = m ∧ n' = rtN P c pos t3 dn l news) NoX := Tr.own (.head _) (.tail _ (.head _)) hO hA hv ⟨rfl, rfl, rfl⟩
theorem Tr.sx {c' : LV} {name : Str} {v : Value} {R : Unit → Loc → Led → Prop} {X : List Value → Led → Prop} (D : RtD P news) (hA : ∃ w, getL name (lexes P c) = some w ∧ w.isSome = true) (hO : ∀ Q, setIn (Mine.KK Q) 743 name = true)
    (e : ∀ h k, (putL name h k v (lexes P c), putN name (lexes P c) 21) = (lexes P c', 21)) (h : R () m (rtN P c' pos t3 dn l news)) : Tr x f m (rtN P c pos t3 dn l news) (setAttr (.ref P.x) name v) R X := Tr.mk fun s Q E ok st q _ _ => by
  obtain ⟨⟨mm, F, km⟩, N⟩ := st
  obtain ⟨h1, h2, h3, h4⟩ := setIn_of (hO x.w.params)
  obtain ⟨w, hw, _⟩ := hA
  have hne : P.x ≠ P.ld := D.n1
  refine set_dict F ok.X N (InstAt.of_news N (.head _) (.tail _ (.head _))) rfl h1 h2 h4 h3 (by rw [hw]; rfl) (e _ _) (.tail hne (.head ?_)) (by show 21 ≤ 1000; decide) fun h' F' N' => q () m _ h' _ h ⟨⟨mm, F', km⟩, N'⟩
  intro p hp
  rcases List.mem_cons.mp hp with rfl | hp
  · exact D.n7
  rcases List.mem_cons.mp hp with rfl | hp
  · exact D.n6
  rcases List.mem_cons.mp hp with rfl | hp
  · exact D.n5
  exact D.e2 p hp
end
end Mine

end
section
open Mine
namespace Mine
theorem la_pch {P : LP} {c : LV} : getL (Str.ofString "_punctuation_chars") (lexes P c) = some (some (.str (Str.ofString "") (P.tc 18))) := by kernel_rfl
theorem lo_pch : ∀ Q, ownOk (Mine.KK Q) 743 (Str.ofString "_punctuation_chars") = true := by intro Q; kernel_rfl
section
variable {x : Fx} {f : Fn} {m : Loc} {P : LP} {c : LV} {t3 : Tok} {dn : Int} {l : List Value} {news : Led}
theorem Tr.pch {pos : Int} {b : Bool} {R : Value → Loc → Led → Prop} {X : List Value → Led → Prop} (h5 : 1 ≤ x.c) (h6 : 5 ≤ x.u) (h : R (.str (Str.ofString "") (P.tc 18)) m (rtN P c pos t3 dn l news)) : Tr x f m (rtN P c pos t3 dn l news) (getAttr (.ref P.x) (Str.ofString "punctuation_chars") b) R X := Tr.mk fun s Q E ok st q _ _ => by
  obtain ⟨⟨mm, F, km⟩, N⟩ := st
  have h1 := ok.hd
  have h2 := ok.hu
  refine get_prop F ok.X (InstAt.of_news N (.head _) (.tail _ (.head _))) (p := 675) (fget := 674) (rest := [.none, .none, .none, .str (Str.ofString "punctuation_chars") 1062, .bool false]) ?a ?b ?c ?d ?e ?f ?_
  case a => kernel_rfl
  case b => kernel_rfl
  case c => kernel_rfl
  case d => kernel_rfl
  case e => kernel_rfl
  case f => kernel_rfl
  refine code_of (c := 0) (u := 0) (binds := [(Str.ofString "self", .ref P.x)]) (R := fun v n' => v = .str (Str.ofString "") (P.tc 18) ∧ n' = rtN P c pos t3 dn l news) (RE := NoX) (by k_is) (by k_is) (fun s X => BindsTo.of_eq rfl) (locs rfl) ?_ rfl rfl rfl (by decide) (env := x.env f) (outer := x.outer) rfl rfl ok.k rfl ok.B F ok.X N ok.T (by show x.dp + 1 + 0 < _; omega) (by show x.un + 1 + 3 + 0 < _; omega) ?_ (fun _ _ _ _ _ _ _ z => z.elim)
  · intro y hw _ _ _
    exact Ex.ret ((Ep.lx (v := .str (Str.ofString "") (P.tc 18)) rfl la_pch lo_pch).go fun v hv => ⟨hv, rfl⟩)
  · rintro v h' tk' n' ⟨rfl, rfl⟩ F' N'
    exact handed_on rfl (q _ m _ h' tk' h ⟨⟨mm, F', km⟩, N'⟩)
theorem Ep.pch {pos : Int} {y : Str} {yp ap : Pos} (h5 : 1 ≤ x.c) (h6 : 5 ≤ x.u) (hy : look m y = some (.ref P.x)) (hx : (x.env f).kindOf y = some .local := by rfl) (hd : (y == ("__debug__" : Str)) = false := by decide) :
    Ep x f m (rtN P c pos t3 dn l news) (.Attribute (.Name y yp) (Str.ofString "punctuation_chars") ap) (· = .str (Str.ofString "") (P.tc 18)) := Ep.at rfl (Ep.name hy hx hd) (Tr.pch h5 h6 ⟨rfl, rfl, rfl⟩)
theorem sio_mem {pos : Int} : ∀ q ∈ (P.sio, instObj 608 P.sd) :: (P.sd, sioP P pos t3) :: (P.x, instObj 743 P.ld) :: (P.ld, lexP P c) :: (P.pb, dqO dn l) :: news, q ∈ rtN P c pos t3 dn l news := by
  intro q hq
  unfold rtN
  simp only [List.mem_cons] at hq ⊢
  rcases hq with h | h | h | h | h | h
  · exact .inr (.inr (.inl h))
  · exact .inr (.inr (.inr (.inl h)))
  · exact .inl h
  · exact .inr (.inl h)
  · exact .inr (.inr (.inr (.inr (.inl h))))
  · exact .inr (.inr (.inr (.inr (.inr h))))
theorem sio_back {pos : Int} : ∀ q ∈ rtN P c pos t3 dn l news, q ∈ (P.sio, instObj 608 P.sd) :: (P.sd, sioP P pos t3) :: (P.x, instObj 743 P.ld) :: (P.ld, lexP P c) :: (P.pb, dqO dn l) :: news := by
  intro q hq
  unfold rtN at hq
  simp only [List.mem_cons] at hq ⊢
  rcases hq with h | h | h | h | h | h
  · exact .inr (.inr (.inl h))
  · exact .inr (.inr (.inr (.inl h)))
  · exact .inl h
  · exact .inr (.inl h)
  · exact .inr (.inr (.inr (.inr (.inl h))))
  · exact .inr (.inr (.inr (.inr (.inr h))))
theorem sio_ne (D : RtD P news) : ∀ q ∈ (P.x, instObj 743 P.ld) :: (P.ld, lexP P c) :: (P.pb, dqO dn l) :: news, q.1 ≠ P.sd := by
  intro p hp
  rcases List.mem_cons.mp hp with rfl | hp
  · exact D.n2
  rcases List.mem_cons.mp hp with rfl | hp
  · exact fun e => D.n6 e.symm
  rcases List.mem_cons.mp hp with rfl | hp
  · exact D.n4
  exact D.e1 p hp
theorem Ev.rd1 {pos : Nat} {y : Str} {yp ap ap2 cp ip : Pos} {k : Nat} {R : Value → Loc → Led → Prop} {X : List Value → Led → Prop} (D : RtD P news) (h5 : 5 ≤ x.c) (h6 : 40 ≤ x.u) (hpos : pos ≤ P.r.length) (hlen : P.r.length < 10000) (hy : look m y = some (.ref P.x))
    (h0 : P.r.drop pos = [] → ∀ t t', R (.str (Str.ofString "") t) m (rtN P c pos t' dn l news)) (h1 : ∀ d s, P.r.drop pos = d :: s → pos + 1 ≤ P.r.length → ∀ t t', R (.str (T [d]) t) m (rtN P c (pos + 1 : Nat) t' dn l news))
    (hx : (x.env f).kindOf y = some .local := by rfl) (hd : (y == ("__debug__" : Str)) = false := by decide) {pl : Sem Bool}
    (he : eval (.Call (.Attribute (.Attribute (.Name y yp) (Str.ofString "instream") ap) (Str.ofString "read") ap2) [.Constant (.int 1) k ip] [] cp) (x.env f) = (do
      let ov ← eval (.Attribute (.Name y yp) (Str.ofString "instream") ap) (x.env f)
      standAt ap2.atName
      let (fv, first) ← holding [ov] (getMethod ov (Str.ofString "read") pl)
      callWith cp fv first (backTo cp (starEach [.Constant (.int 1) k ip] (x.env f))) []) := by rfl) :
    Ev x f m (rtN P c pos t3 dn l news) (.Call (.Attribute (.Attribute (.Name y yp) (Str.ofString "instream") ap) (Str.ofString "read") ap2) [.Constant (.int 1) k ip] [] cp) R X := by
  refine Ev.meth (V := fun vs => ∃ v vs', vs = v :: vs' ∧ IsI 1 v ∧ vs' = []) (Ep.lx hy la_instream lo_instream rfl hx hd) (.tail _ (.tail _ (.head _))) (.tail _ (.tail _ (.tail _ (.head _)))) lm_read ls_read (Ea.cons Ep.int Ea.nil rfl) ?_ he rfl rfl
  rintro _ ⟨v, vs', rfl, ⟨t, rfl⟩, rfl⟩
  have hne' : @Ne Nat P.sio P.sd := D.n3
  refine Tr.con (rd_spec ((P.x, instObj 743 P.ld) :: (P.ld, lexP P c) :: (P.pb, dqO dn l) :: news) P.sio P.sd P.hs2 P.ts2 P.r pos 1 P.t1 P.t2 t3 t (sio_ne D) hne') ⟨hpos, hlen, by omega⟩ sio_mem h5 h6 ?_ (fun _ _ z => z.elim)
  rintro v n' ⟨o', ⟨z, t, p', t', e1, e2, rfl, rfl⟩, rfl⟩
  cases hs : P.r.drop pos with
  | nil =>
    rw [hs] at e1 e2
    subst e1 e2
    exact ⟨_, sio_back, h0 hs t t'⟩
  | cons d s =>
    rw [hs] at e1 e2
    subst e1 e2
    exact ⟨_, sio_back, h1 d s hs (by have := congrArg List.length hs; simp at this; omega) t t'⟩
theorem Ev.rl {pos : Nat} {y : Str} {yp ap ap2 cp : Pos} {R : Value → Loc → Led → Prop} {X : List Value → Led → Prop} (D : RtD P news) (h5 : 5 ≤ x.c) (h6 : 40 ≤ x.u) (hpos : pos ≤ P.r.length) (hlen : P.r.length < 10000) (hy : look m y = some (.ref P.x))
    (h : ∀ v t', R v m (rtN P c (P.r.length - (aft (P.r.drop pos)).length : Nat) t' dn l news))
    (hx : (x.env f).kindOf y = some .local := by rfl) (hd : (y == ("__debug__" : Str)) = false := by decide) {pl : Sem Bool}
    (he : eval (.Call (.Attribute (.Attribute (.Name y yp) (Str.ofString "instream") ap) (Str.ofString "readline") ap2) [] [] cp) (x.env f) = (do
      let ov ← eval (.Attribute (.Name y yp) (Str.ofString "instream") ap) (x.env f)
      standAt ap2.atName
      let (fv, first) ← holding [ov] (getMethod ov (Str.ofString "readline") pl)
      callWith cp fv first (backTo cp (starEach [] (x.env f))) []) := by rfl) :
    Ev x f m (rtN P c pos t3 dn l news) (.Call (.Attribute (.Attribute (.Name y yp) (Str.ofString "instream") ap) (Str.ofString "readline") ap2) [] [] cp) R X := by
  refine Ev.meth0 (Ep.lx hy la_instream lo_instream rfl hx hd) (.tail _ (.tail _ (.head _))) (.tail _ (.tail _ (.tail _ (.head _)))) lm_readline ls_readline ?_ he
  have hne' : @Ne Nat P.sio P.sd := D.n3
  refine Tr.con (rl_spec ((P.x, instObj 743 P.ld) :: (P.ld, lexP P c) :: (P.pb, dqO dn l) :: news) P.sio P.sd P.hs2 P.ts2 P.r pos P.t1 P.t2 t3 (sio_ne D) hne') ⟨hpos, hlen⟩ sio_mem h5 h6 ?_ (fun _ _ z => z.elim)
  rintro v n' ⟨o', ⟨z, t, p', t', rfl, rfl, rfl⟩, rfl⟩
  exact ⟨_, sio_back, h _ t'⟩
theorem Ev.apl {pos : Int} {y z : Str} {yp zp ap ap2 cp : Pos} {v : Value} {R : Value → Loc → Led → Prop} {X : List Value → Led → Prop} (D : RtD P news) (hl : l.length < 1000) (hy : look m y = some (.ref P.x)) (hz : look m z = some v)
    (h : R .none m (rtN P c pos t3 (dn + 1) (v :: l) news))
    (hx : (x.env f).kindOf y = some .local := by rfl) (hd : (y == ("__debug__" : Str)) = false := by decide) (hx2 : (x.env f).kindOf z = some .local := by rfl) (hd2 : (z == ("__debug__" : Str)) = false := by decide) {pl : Sem Bool}
    (he : eval (.Call (.Attribute (.Attribute (.Name y yp) (Str.ofString "pushback") ap) (Str.ofString "appendleft") ap2) [.Name z zp] [] cp) (x.env f) = (do
      let ov ← eval (.Attribute (.Name y yp) (Str.ofString "pushback") ap) (x.env f)
      standAt ap2.atName
      let (fv, first) ← holding [ov] (getMethod ov (Str.ofString "appendleft") pl)
      callWith cp fv first (backTo cp (starEach [.Name z zp] (x.env f))) []) := by rfl) :
    Ev x f m (rtN P c pos t3 dn l news) (.Call (.Attribute (.Attribute (.Name y yp) (Str.ofString "pushback") ap) (Str.ofString "appendleft") ap2) [.Name z zp] [] cp) R X := by
  refine Ev.methB (id := "collections.deque.appendleft") (first := [.ref P.pb]) (V := fun vs => ∃ a r, vs = a :: r ∧ a = v ∧ r = []) (Ep.lx hy la_pushback lo_pushback rfl hx hd) ?_ (Ea.cons (Ep.name hz hx2 hd2) Ea.nil rfl) ?_ he rfl rfl
  · refine Tr.mk fun s Q E ok st q _ _ => ?_
    exact dq_method st.2 (.tail _ (.tail _ (.tail _ (.tail _ (.head _))))) slot_dq_appendleft type_dq_appendleft (q _ _ _ s.heap s.toks ⟨rfl, rfl, rfl⟩ st)
  · rintro _ ⟨_, _, rfl, rfl, rfl⟩
    refine Tr.mk fun s Q E ok st q _ _ => ?_
    obtain ⟨⟨mm, F, km⟩, N⟩ := st
    exact dq_appendleft F N (.tail D.n8 (.tail (fun e => D.n5 e.symm) (.tail D.n9 (.tail (fun e => D.n4 e.symm) (.head D.e3))))) hl (fun h' F' N' => q _ m _ h' _ h ⟨⟨mm, F', km⟩, N'⟩)
theorem Cop.emp {l : List Nat} {t : Tok} : Cop .Eq (· = .str (T l) t) (IsS (Str.ofString "")) l.isEmpty := Cop.eqC (by
  rw [show (Str.ofString "").cps.toList = [] by decide +kernel]
  cases l <;> rfl)
theorem Tp.in2 {n : Led} {e : Expr} {a b : Str} {ka kb kt : Nat} {pa pb pt pos : Pos} {z : Str} {t : Tok} {c : Bool} (he : Ep x f m n e (· = .str z t)) (hc : ([a, b].any (fun y => y == z)) = c)
    (hs : starEach [.Constant (.str a) ka pa, .Constant (.str b) kb pb] (x.env f) = (false, eval (.Constant (.str a) ka pa) (x.env f)) :: starEach [.Constant (.str b) kb pb] (x.env f) := by rfl)
    (hs2 : starEach [.Constant (.str b) kb pb] (x.env f) = (false, eval (.Constant (.str b) kb pb) (x.env f)) :: starEach [] (x.env f) := by rfl)
    (hm : behindInMarks .In (.Tuple [.Constant (.str a) ka pa, .Constant (.str b) kb pb] kt pt) = false := by with_unfolding_all rfl) :
    Tp x f m n (.Compare e [.In] [.Tuple [.Constant (.str a) ka pa, .Constant (.str b) kb pb] kt pt] pos) c := Tr.mk fun s Q E ok st q ee po => wpAny_isTrue_Compare1 (he.run s _ E ok st (by
      rintro v m₀ n₀ h1 t1 ⟨rfl, rfl, rfl⟩ st1
      obtain ⟨⟨mm, F, km⟩, N⟩ := st1
      refine Tuple_ (args_cons (Calls.Constant_str (args_cons (Calls.Constant_str (args_nil ?_)) hs2)) hs)
      refine kup_newTuple F N (fun D h' F' N' hlt => ?_) (by show 2 ≤ sizeLine; decide)
      refine in_tuple_strs (N'.isTup (.head _)) (ys := [a, b]) (.cons _ _ (.cons _ _ .nil)) ?_
      refine wpAny_truthy_bool ?_
      exact q _ _ _ h' _ ⟨hc, rfl, rfl⟩ ⟨⟨mm, F', km⟩, fun q hq => N' q (.tail _ hq)⟩) (fun _ _ _ _ _ z => z.elim) po) hm
theorem Tr.iadd {n : Led} {a b : List Nat} {t u : Tok} (hz : a.length + b.length ≤ 1000000) : Tr x f m n (inplaceOp .Add (.str (T a) t) (.str (T b) u)) (fun v m' n' => IsS (T (a ++ b)) v ∧ m' = m ∧ n' = n) NoX :=
  Tr.fin (V := IsS (T (a ++ b))) (fun s Q E q => iadd_T hz fun tk k => q _ k ⟨tk, rfl⟩) fun v h => ⟨h, rfl, rfl⟩
theorem Tr.iaddI {n : Led} {a b : Int} {t u : Tok} : Tr x f m n (inplaceOp .Add (.int a t) (.int b u)) (fun v m' n' => IsI (a + b) v ∧ m' = m ∧ n' = n) NoX :=
  Tr.fin (V := IsI (a + b)) (fun s Q E q => iadd_int (q _ _ ⟨_, rfl⟩)) fun v h => ⟨h, rfl, rfl⟩
end
end Mine

end
section
open Mine
namespace Mine
noncomputable def rtB : List Stmt := wb (nth (fb o711.1) 2)
noncomputable def rtF : Fn := fnO o711.1 711
noncomputable def rtS : List Stmt := rtB.drop 3
noncomputable def lvOf (c : LC) : LV := ⟨c.st.val c.tst, c.line, c.tl, T c.tok, c.tt⟩
noncomputable def rtPs (P : LP) (c : LC) : Loc := [(Str.ofString "self", .ref P.x), (Str.ofString "quoted", .bool c.q), (Str.ofString "escapedstate", .str c.es.str c.tes)]
section
variable {x : Fx} {P : LP} {news : Led} {c : LC} {dn : Int} {R : Flow → Loc → Led → Prop} {X : List Value → Led → Prop}
theorem rt_pre (D : RtD P news) (h5 : 5 ≤ x.c) (h6 : 40 ≤ x.u) (hpos : c.pos ≤ P.r.length) (hlen : P.r.length < 10000)
    (h0 : P.r.drop c.pos = [] → ∀ t t', Ex x rtF ((Str.ofString "nextchar", .str (Str.ofString "") t) :: rtPs P c) (rtN P (lvOf c) c.pos t' dn [] news) rtS R X)
    (h1 : ∀ d s, P.r.drop c.pos = d :: s → c.pos + 1 ≤ P.r.length → ∀ t t' tl, Ex x rtF ((Str.ofString "nextchar", .str (T [d]) t) :: rtPs P c) (rtN P { lvOf c with line := bump d c.line, tl := tl } (c.pos + 1 : Nat) t' dn [] news) rtS R X) :
    Ex x rtF (rtPs P c) (rtN P (lvOf c) c.pos c.t3 dn [] news) rtB R X := by
  have hs : look (rtPs P c) (Str.ofString "self") = some (.ref P.x) := rfl
  refine Ex.ifF (Tp.L (TL.andF (Tp.val (Ep.pch (by omega) (by omega) hs) Tv.emp))) ?_
  refine Ex.asg (R₁ := fun v m₁ n₁ => m₁ = rtPs P c ∧ ((P.r.drop c.pos = [] ∧ ∃ t t', v = .str (Str.ofString "") t ∧ n₁ = rtN P (lvOf c) c.pos t' dn [] news) ∨ (∃ d s, P.r.drop c.pos = d :: s ∧ c.pos + 1 ≤ P.r.length ∧ ∃ t t', v = .str (T [d]) t ∧ n₁ = rtN P (lvOf c) (c.pos + 1 : Nat) t' dn [] news)))
    (Ev.rd1 D h5 h6 hpos hlen hs (fun h t t' => ⟨rfl, .inl ⟨h, t, t', rfl, rfl⟩⟩) (fun d s h1 h2 t t' => ⟨rfl, .inr ⟨d, s, h1, h2, t, t', rfl, rfl⟩⟩)) ?_
  rintro v m₁ n₁ ⟨rfl, ⟨h, t, t', rfl, rfl⟩ | ⟨d, s, e1, e2, t, t', rfl, rfl⟩⟩
  · refine Ex.ifF (Tp.cmp (Ep.name rfl) Ep.str (Cop.eqC (by decide +kernel))) ?_
    exact Ex.ifF (Tp.cmp (Ep.lx rfl la_debug lo_debug) Ep.int (Cop.geI rfl)) (h0 h t t')
  · have hs : look ((Str.ofString "nextchar", .str (T [d]) t) :: rtPs P c) (Str.ofString "self") = some (.ref P.x) := rfl
    refine Ex.iff (Tp.cmp (Ep.name rfl) Ep.str Cop.nl) (fun hd => ?_) (fun hd => ?_)
    · refine Ex.auga (Ep.name hs) (Tr.lx la_lineno lo_lineno) Ep.int (by rintro v ⟨u, rfl⟩; exact Tr.iaddI) ?_
      rintro v ⟨u, rfl⟩
      refine Tr.sx D ⟨_, la_lineno, rfl⟩ lt_lineno (put_lineno _ _) ?_
      refine Ex.ifF (Tp.cmp (Ep.lx hs la_debug lo_debug) Ep.int (Cop.geI rfl)) ?_
      have := h1 d s e1 e2 t t' u
      rw [show bump d c.line = c.line + 1 from if_pos (of_decide_eq_true hd)] at this
      exact this
    · refine Ex.ifF (Tp.cmp (Ep.lx hs la_debug lo_debug) Ep.int (Cop.geI rfl)) ?_
      have := h1 d s e1 e2 t t' c.tl
      rw [show bump d c.line = c.line from if_neg (of_decide_eq_false hd)] at this
      exact this
end
end Mine

end
section
open Mine
namespace Mine
theorem s_a : Str.ofString "a" = T [97] := by decide +kernel
theorem s_sp : Str.ofString " " = T [32] := by decide +kernel
theorem s_em : Str.ofString "" = T [] := by decide +kernel
structure RtI (r : List Nat) (c : LC) : Prop where
  h1 : c.pos ≤ r.length
  h2 : c.tok.length + 2 * (r.length - c.pos) < 60000
  h3 : c.st = .ws → c.tok = [] ∧ c.q = false
  h4 : c.st = .wd → c.tok ≠ [] ∨ c.q = true
  h5 : c.st = .esc → c.es = .sp → r.length ≤ c.pos
  h6 : c.st = .fin → r.length ≤ c.pos
noncomputable def RtGo (r : List Nat) (c c' : LC) : Prop := (∀ O, Run (r.drop c'.pos) c'.st c'.tok c'.line c'.q c'.es O → Run (r.drop c.pos) c.st c.tok c.line c.q c.es O) ∧ RtI r c' ∧ c.pos < c'.pos
noncomputable def RtE (r : List Nat) (c c' : LC) (push : List (Nat × Tok)) : Prop := Run (r.drop c.pos) c.st c.tok c.line c.q c.es (.done (r.drop c'.pos) c'.st c'.tok c'.line c'.q (push.map Prod.fst)) ∧ c'.pos ≤ r.length ∧ c'.tok.length < 60000
noncomputable def RtT (P : LP) (news : Led) (dn : Int) (c : LC) (fl : Flow) (m' : Loc) (n' : Led) : Prop :=
  match fl with
  | .ret _ => False
  | .brk => ∃ c' push dn', RtE P.r c c' push ∧ look m' (Str.ofString "self") = some (.ref P.x) ∧ look m' (Str.ofString "quoted") = some (.bool c'.q) ∧ n' = rtN P (lvOf c') c'.pos c'.t3 dn' (pushV push) news
  | _ => ∃ c', RtGo P.r c c' ∧ (look m' (Str.ofString "self") = some (.ref P.x) ∧ look m' (Str.ofString "quoted") = some (.bool c'.q) ∧ look m' (Str.ofString "escapedstate") = some (.str c'.es.str c'.tes)) ∧ n' = rtN P (lvOf c') c'.pos c'.t3 dn [] news
noncomputable def RtX (P : LP) (news : Led) (dn : Int) (c : LC) (es : List Value) (n' : Led) : Prop :=
  ∃ (k : Bool) (c' : LC) (tm : Tok), Run (P.r.drop c.pos) c.st c.tok c.line c.q c.es (.bad k c'.st c'.tok c'.line) ∧ c'.pos = P.r.length ∧ es = [.str (Str.ofString (if k then "No escaped character" else "No closing quotation")) tm] ∧ n' = rtN P (lvOf c') c'.pos c'.t3 dn [] news
theorem bump_W {d : Nat} {line : Int} (h : isW d = false) : bump d line = line := if_neg (by rintro rfl; cases h)
section
variable {x : Fx} {P : LP} {news : Led} {dn : Int} {m : Loc}
theorem tp_tq {l2 : List Value} {c : LV} {l : List Nat} {pos : Int} {t3 : Tok} {q : Bool} {y1 y2 : Str} {p1 p2 p3 p4 p5 p6 p7 : Pos} (hs : look m y1 = some (.ref P.x)) (hq : look m y2 = some (.bool q)) (hl : l.length < 1000000) (ht : c.tok = T l) (hx : (x.env rtF).kindOf y1 = some .local := by rfl) (hd : (y1 == ("__debug__" : Str)) = false := by decide) (hx2 : (x.env rtF).kindOf y2 = some .local := by rfl) (hd2 : (y2 == ("__debug__" : Str)) = false := by decide) :
    Tp x rtF m (rtN P c pos t3 dn l2 news) (.BoolOp .Or [.Attribute (.Name y1 p1) (Str.ofString "token") p2, .BoolOp .And [.Attribute (.Name y1 p3) (Str.ofString "posix") p4, .Name y2 p5] p6] p7) (!l.isEmpty || q) := by
  refine Tp.L (TL.orB (Tp.val (Ep.lx (v := .str (T l) c.tt) hs (by rw [← ht]; exact la_token) lo_token rfl hx hd) (Tv.txt hl)) (TL.or1 (Tp.L (TL.andT (Tp.val (Ep.lx hs la_posix lo_posix rfl hx hd) Tv.bool) (TL.and1 (Tp.val (Ep.name hq hx2 hd2) Tv.bool))))))
end
theorem tp_tqT {x : Fx} {P : LP} {news : Led} {dn : Int} {m : Loc} {l2 : List Value} {c : LV} {l : List Nat} {pos : Int} {t3 : Tok} {q : Bool} {y1 y2 : Str} {p1 p2 p3 p4 p5 p6 p7 : Pos} (hs : look m y1 = some (.ref P.x)) (hq : look m y2 = some (.bool q)) (hl : l.length < 1000000) (ht : c.tok = T l) (h4 : l ≠ [] ∨ q = true) (hx : (x.env rtF).kindOf y1 = some .local := by rfl) (hd : (y1 == ("__debug__" : Str)) = false := by decide) (hx2 : (x.env rtF).kindOf y2 = some .local := by rfl) (hd2 : (y2 == ("__debug__" : Str)) = false := by decide) :
    Tp x rtF m (rtN P c pos t3 dn l2 news) (.BoolOp .Or [.Attribute (.Name y1 p1) (Str.ofString "token") p2, .BoolOp .And [.Attribute (.Name y1 p3) (Str.ofString "posix") p4, .Name y2 p5] p6] p7) true := by
  have := tp_tq (l2 := l2) (p1 := p1) (p2 := p2) (p3 := p3) (p4 := p4) (p5 := p5) (p6 := p6) (p7 := p7) (x := x) (news := news) (dn := dn) (pos := pos) (t3 := t3) hs hq hl ht hx hd hx2 hd2
  have e : (!l.isEmpty || q) = true := by rcases h4 with h | rfl <;> simp [*]
  rwa [e] at this
theorem TL.and2F {x : Fx} {f : Fn} {m : Loc} {n : Led} {y z : Expr} {b : Bool} (h : Tp x f m n y b) (h2 : Tp x f m n z false) : TL x f m n .And [y, z] false := Bool.and_false b ▸ TL.andB h (TL.and1 h2)
theorem TL.and2T {x : Fx} {f : Fn} {m : Loc} {n : Led} {y z : Expr} {b : Bool} (h : Tp x f m n y b) (h2 : Tp x f m n z true) : TL x f m n .And [y, z] b := Bool.and_true b ▸ TL.andB h (TL.and1 h2)
section
variable {x : Fx} {P : LP} {news : Led} {c : LC} {dn : Int}
theorem rt_turn (D : RtD P news) (hI : RtI P.r c) (h5 : 5 ≤ x.c) (h6 : 40 ≤ x.u) (hlen : P.r.length < 10000) : Ex x rtF (rtPs P c) (rtN P (lvOf c) c.pos c.t3 dn [] news) rtB (RtT P news dn c) (RtX P news dn c) := by
  refine rt_pre D h5 h6 hI.h1 hlen (fun h0 t t' => ?_) (fun d s h0 hp t t' tl' => ?_)
  · obtain ⟨pos, st, tok, line, q, es, tst, tl, tt, t3, tes⟩ := c
    dsimp only at h0 hI ⊢
    cases st with
    | fin =>
      have hs : look ((Str.ofString "nextchar", .str (Str.ofString "") t) :: rtPs P ⟨pos, .fin, tok, line, q, es, tst, tl, tt, t3, tes⟩) (Str.ofString "self") = some (.ref P.x) := rfl
      refine Ex.ifT (Tp.cmp (Ep.lx (v := .none) hs la_state lo_state) Ep.none Cop.isNN) ?_
      refine Ex.seta (Ep.strT s_em) (Ep.name hs) ?_
      rintro v ⟨u, rfl⟩
      refine Tr.sx D ⟨_, la_token, rfl⟩ lt_token (put_token _ _) ?_
      refine Ex.brk ⟨⟨pos, .fin, [], line, q, es, tst, tl, u, t', tes⟩, [], dn, ⟨?_, hI.h1, ?_⟩, rfl, rfl, rfl⟩
      · dsimp only
        rw [h0]; exact Run.fin0
      · dsimp only [List.length_nil]; omega
    | ws =>
      have hs : look ((Str.ofString "nextchar", .str (Str.ofString "") t) :: rtPs P ⟨pos, .ws, tok, line, q, es, tst, tl, tt, t3, tes⟩) (Str.ofString "self") = some (.ref P.x) := rfl
      refine Ex.ifF (Tp.cmp (Ep.lx (v := .str (T [32]) tst) hs la_state lo_state) Ep.none Cop.isSN) ?_
      refine Ex.ifT (Tp.cmp (Ep.lx (v := .str (T [32]) tst) hs la_state lo_state) Ep.str (Cop.eqC (by decide +kernel))) ?_
      refine Ex.ifT (Tp.not (Tp.val (Ep.name rfl) Tv.emp)) ?_
      refine Ex.seta Ep.none (Ep.name hs) ?_
      rintro v rfl
      refine Tr.sx D ⟨_, la_state, rfl⟩ lt_state (put_state _) ?_
      refine Ex.brk ⟨⟨pos, .fin, tok, line, q, es, 0, tl, tt, t', tes⟩, [], dn, ⟨?_, hI.h1, ?_⟩, rfl, rfl, rfl⟩
      · show Run (P.r.drop pos) _ _ _ _ _ (.done (P.r.drop pos) _ _ _ _ _)
        rw [h0]; exact Run.ws0
      · have := hI.h2
        show tok.length < 60000
        dsimp only at this
        omega
    | sq =>
      have hs : look ((Str.ofString "nextchar", .str (Str.ofString "") t) :: rtPs P ⟨pos, .sq, tok, line, q, es, tst, tl, tt, t3, tes⟩) (Str.ofString "self") = some (.ref P.x) := rfl
      refine Ex.ifF (Tp.cmp (Ep.lx (v := .str (T [39]) tst) hs la_state lo_state) Ep.none Cop.isSN) ?_
      refine Ex.ifF (Tp.cmp (Ep.lx (v := .str (T [39]) tst) hs la_state lo_state) Ep.str (Cop.eqC (by decide +kernel))) ?_
      refine Ex.ifT (Tp.cmp (Ep.lx (v := .str (T [39]) tst) hs la_state lo_state) (Ep.lx hs la_quotes lo_quotes) Cop.inQ) ?_
      refine Ex.asp Ep.bool ?_
      rintro v rfl
      have hs : look ((Str.ofString "quoted", .bool true) :: (Str.ofString "nextchar", .str (Str.ofString "") t) :: rtPs P ⟨pos, .sq, tok, line, q, es, tst, tl, tt, t3, tes⟩) (Str.ofString "self") = some (.ref P.x) := rfl
      refine Ex.ifT (Tp.not (Tp.val (Ep.name rfl) Tv.emp)) ?_
      refine Ex.ifF (Tp.cmp (Ep.lx hs la_debug lo_debug) Ep.int (Cop.geI rfl)) ?_
      refine Ex.raiseVE (Ep.blt g_VE b_VE (by decide)) fun t2 => ?_
      refine ⟨false, ⟨pos, .sq, tok, line, q, es, tst, tl, tt, t', tes⟩, t2, ?_, ?_, rfl, rfl⟩
      · dsimp only
        rw [h0]; exact Run.sq0
      · dsimp only
        have := hI.h1
        have := List.drop_eq_nil_iff.mp h0
        dsimp only at *
        omega
    | dq =>
      have hs : look ((Str.ofString "nextchar", .str (Str.ofString "") t) :: rtPs P ⟨pos, .dq, tok, line, q, es, tst, tl, tt, t3, tes⟩) (Str.ofString "self") = some (.ref P.x) := rfl
      refine Ex.ifF (Tp.cmp (Ep.lx (v := .str (T [34]) tst) hs la_state lo_state) Ep.none Cop.isSN) ?_
      refine Ex.ifF (Tp.cmp (Ep.lx (v := .str (T [34]) tst) hs la_state lo_state) Ep.str (Cop.eqC (by decide +kernel))) ?_
      refine Ex.ifT (Tp.cmp (Ep.lx (v := .str (T [34]) tst) hs la_state lo_state) (Ep.lx hs la_quotes lo_quotes) Cop.inQ) ?_
      refine Ex.asp Ep.bool ?_
      rintro v rfl
      have hs : look ((Str.ofString "quoted", .bool true) :: (Str.ofString "nextchar", .str (Str.ofString "") t) :: rtPs P ⟨pos, .dq, tok, line, q, es, tst, tl, tt, t3, tes⟩) (Str.ofString "self") = some (.ref P.x) := rfl
      refine Ex.ifT (Tp.not (Tp.val (Ep.name rfl) Tv.emp)) ?_
      refine Ex.ifF (Tp.cmp (Ep.lx hs la_debug lo_debug) Ep.int (Cop.geI rfl)) ?_
      refine Ex.raiseVE (Ep.blt g_VE b_VE (by decide)) fun t2 => ?_
      refine ⟨false, ⟨pos, .dq, tok, line, q, es, tst, tl, tt, t', tes⟩, t2, ?_, ?_, rfl, rfl⟩
      · dsimp only
        rw [h0]; exact Run.dq0
      · dsimp only
        have := hI.h1
        have := List.drop_eq_nil_iff.mp h0
        dsimp only at *
        omega
    | esc =>
      have hs : look ((Str.ofString "nextchar", .str (Str.ofString "") t) :: rtPs P ⟨pos, .esc, tok, line, q, es, tst, tl, tt, t3, tes⟩) (Str.ofString "self") = some (.ref P.x) := rfl
      refine Ex.ifF (Tp.cmp (Ep.lx (v := .str (T [92]) tst) hs la_state lo_state) Ep.none Cop.isSN) ?_
      refine Ex.ifF (Tp.cmp (Ep.lx (v := .str (T [92]) tst) hs la_state lo_state) Ep.str (Cop.eqC (by decide +kernel))) ?_
      refine Ex.ifF (Tp.cmp (Ep.lx (v := .str (T [92]) tst) hs la_state lo_state) (Ep.lx hs la_quotes lo_quotes) Cop.inQ) ?_
      refine Ex.ifT (Tp.cmp (Ep.lx (v := .str (T [92]) tst) hs la_state lo_state) (Ep.lx hs la_escape lo_escape) Cop.inB) ?_
      refine Ex.ifT (Tp.not (Tp.val (Ep.name rfl) Tv.emp)) ?_
      refine Ex.ifF (Tp.cmp (Ep.lx hs la_debug lo_debug) Ep.int (Cop.geI rfl)) ?_
      refine Ex.raiseVE (Ep.blt g_VE b_VE (by decide)) fun t2 => ?_
      refine ⟨true, ⟨pos, .esc, tok, line, q, es, tst, tl, tt, t', tes⟩, t2, ?_, ?_, rfl, rfl⟩
      · dsimp only
        rw [h0]; exact Run.esc0
      · dsimp only
        have := hI.h1
        have := List.drop_eq_nil_iff.mp h0
        dsimp only at *
        omega
    | wd =>
      have hs : look ((Str.ofString "nextchar", .str (Str.ofString "") t) :: rtPs P ⟨pos, .wd, tok, line, q, es, tst, tl, tt, t3, tes⟩) (Str.ofString "self") = some (.ref P.x) := rfl
      refine Ex.ifF (Tp.cmp (Ep.lx (v := .str (T [97]) tst) hs la_state lo_state) Ep.none Cop.isSN) ?_
      refine Ex.ifF (Tp.cmp (Ep.lx (v := .str (T [97]) tst) hs la_state lo_state) Ep.str (Cop.eqC (by decide +kernel))) ?_
      refine Ex.ifF (Tp.cmp (Ep.lx (v := .str (T [97]) tst) hs la_state lo_state) (Ep.lx hs la_quotes lo_quotes) Cop.inQ) ?_
      refine Ex.ifF (Tp.cmp (Ep.lx (v := .str (T [97]) tst) hs la_state lo_state) (Ep.lx hs la_escape lo_escape) Cop.inB) ?_
      refine Ex.ifT (Tp.in2 (Ep.lx (v := .str (T [97]) tst) hs la_state lo_state) (by decide +kernel)) ?_
      refine Ex.ifT (Tp.not (Tp.val (Ep.name rfl) Tv.emp)) ?_
      refine Ex.seta (Ep.none) (Ep.name hs) ?_
      rintro v rfl
      refine Tr.sx D ⟨_, la_state, rfl⟩ lt_state (put_state _) ?_
      refine Ex.brk ⟨⟨pos, .fin, tok, line, q, es, 0, tl, tt, t', tes⟩, [], dn, ⟨?_, hI.h1, ?_⟩, rfl, rfl, rfl⟩
      · dsimp only
        rw [h0]; exact Run.wd0
      · have := hI.h2
        dsimp only at this ⊢
        omega
  · obtain ⟨pos, st, tok, line, q, es, tst, tl, tt, t3, tes⟩ := c
    dsimp only at h0 hI hp ⊢
    have hs3 := drop_succ h0
    cases st with
    | fin =>
      exact absurd (hI.h6 rfl) (by dsimp only; omega)
    | ws =>
      obtain ⟨rfl, rfl⟩ := hI.h3 rfl
      have h2 := hI.h2
      dsimp only [List.length_nil] at h2
      have hs : look ((Str.ofString "nextchar", .str (T [d]) t) :: rtPs P ⟨pos, .ws, [], line, false, es, tst, tl, tt, t3, tes⟩) (Str.ofString "self") = some (.ref P.x) := rfl
      refine Ex.ifF (Tp.cmp (Ep.lx (v := .str (T [32]) tst) hs la_state lo_state) Ep.none Cop.isSN) ?_
      refine Ex.ifT (Tp.cmp (Ep.lx (v := .str (T [32]) tst) hs la_state lo_state) Ep.str (Cop.eqC (by decide +kernel))) ?_
      refine Ex.ifF (Tp.not (Tp.val (Ep.name rfl) Tv.one)) ?_
      refine Ex.iff (Tp.cmp (Ep.name rfl) (Ep.lx hs la_whitespace lo_whitespace) Cop.inW) (fun hw => ?_) (fun hw => ?_)
      · refine Ex.ifF (Tp.cmp (Ep.lx hs la_debug lo_debug) Ep.int (Cop.geI rfl)) ?_
        refine Ex.ifF (tp_tq (l := []) (q := false) hs rfl (by decide) rfl) ?_
        refine Ex.cont ⟨⟨pos + 1, .ws, [], bump d line, false, es, tst, tl', tt, t', tes⟩, ⟨fun O h => ?_, ⟨hp, by dsimp only [List.length_nil]; omega, fun _ => ⟨rfl, rfl⟩, nofun, nofun, nofun⟩, Nat.lt_succ_self _⟩, ⟨rfl, rfl, rfl⟩, rfl⟩
        dsimp only at h ⊢
        rw [hs3] at h
        rw [h0]
        exact Run.wsW rfl hw h
      have hb : bump d line = line := bump_W hw
      rw [hb]
      refine Ex.iff (Tp.cmp (Ep.name rfl) (Ep.lx hs la_commenters lo_commenters) Cop.inH) (fun hc => ?_) (fun hc => ?_)
      · obtain rfl := eq_of_beq hc
        refine Ex.exp (Ev.rl D h5 h6 hp hlen hs fun v t2 => ?_)
        refine Ex.auga (Ep.name hs) (Tr.lx la_lineno lo_lineno) Ep.int (by rintro v ⟨u, rfl⟩; exact Tr.iaddI) ?_
        rintro v ⟨u, rfl⟩
        refine Tr.sx D ⟨_, la_lineno, rfl⟩ lt_lineno (put_lineno _ _) ?_
        have hal := aft_le (P.r.drop (pos + 1))
        have hda := drop_aft (r := P.r) (p := pos + 1)
        rw [List.length_drop] at hal
        refine Ex.nil ⟨⟨P.r.length - (aft (P.r.drop (pos + 1))).length, .ws, [], line + 1, false, es, tst, u, tt, t2, tes⟩, ⟨fun O h => ?_, ⟨Nat.sub_le _ _, by dsimp only [List.length_nil]; omega, fun _ => ⟨rfl, rfl⟩, nofun, nofun, nofun⟩, by dsimp only; omega⟩, ⟨rfl, rfl, rfl⟩, rfl⟩
        dsimp only at h ⊢
        rw [hda, hs3] at h
        rw [h0]
        exact Run.wsC h
      refine Ex.iff (Tp.L (TL.andT (Tp.val (Ep.lx hs la_posix lo_posix) Tv.bool) (TL.and1 (Tp.cmp (Ep.name rfl) (Ep.lx hs la_escape lo_escape) Cop.inB)))) (fun he => ?_) (fun he => ?_)
      · obtain rfl := eq_of_beq he
        refine Ex.asp (Ep.strT s_a) ?_
        rintro v ⟨u, rfl⟩
        refine Ex.seta (Ep.name rfl) (Ep.name rfl) ?_
        rintro v rfl
        refine Tr.sx D ⟨_, la_state, rfl⟩ lt_state (put_state _) ?_
        refine Ex.nil ⟨⟨pos + 1, .esc, [], line, false, .wd, t, tl', tt, t', u⟩, ⟨fun O h => ?_, ⟨hp, by dsimp only [List.length_nil]; omega, nofun, nofun, nofun, nofun⟩, Nat.lt_succ_self _⟩, ⟨rfl, rfl, rfl⟩, rfl⟩
        dsimp only at h ⊢
        rw [hs3] at h
        rw [h0]
        exact Run.wsE h
      refine Ex.iff (Tp.cmp (Ep.name rfl) (Ep.lx hs la_wordchars lo_wordchars) Cop.inC) (fun hC => ?_) (fun hC => ?_)
      · refine Ex.seta (Ep.name rfl) (Ep.name hs) ?_
        rintro v rfl
        refine Tr.sx D ⟨_, la_token, rfl⟩ lt_token (put_token _ _) ?_
        refine Ex.seta (Ep.strT s_a) (Ep.name hs) ?_
        rintro v ⟨u, rfl⟩
        refine Tr.sx D ⟨_, la_state, rfl⟩ lt_state (put_state _) ?_
        refine Ex.nil ⟨⟨pos + 1, .wd, [d], line, false, es, u, tl', t, t', tes⟩, ⟨fun O h => ?_, ⟨hp, by dsimp only [List.length_cons, List.length_nil]; omega, nofun, fun _ => .inl (by simp), nofun, nofun⟩, Nat.lt_succ_self _⟩, ⟨rfl, rfl, rfl⟩, rfl⟩
        dsimp only at h ⊢
        rw [hs3] at h
        rw [h0]
        exact Run.wsD hC h
      refine Ex.ifF (Tp.cmp (Ep.name rfl) (Ep.pch (by omega) (by omega) hs) Cop.inN) ?_
      refine Ex.iff (Tp.cmp (Ep.name rfl) (Ep.lx hs la_quotes lo_quotes) Cop.inQ) (fun hq => ?_) (fun hq => ?_)
      · refine Ex.ifF (Tp.not (Tp.val (Ep.lx hs la_posix lo_posix) Tv.bool)) ?_
        refine Ex.seta (Ep.name rfl) (Ep.name hs) ?_
        rintro v rfl
        refine Tr.sx D ⟨_, la_state, rfl⟩ lt_state (put_state _) ?_
        rcases isQ_cases hq with rfl | rfl
        · refine Ex.nil ⟨⟨pos + 1, .sq, [], line, false, es, t, tl', tt, t', tes⟩, ⟨fun O h => ?_, ⟨hp, by dsimp only [List.length_nil]; omega, nofun, nofun, nofun, nofun⟩, Nat.lt_succ_self _⟩, ⟨rfl, rfl, rfl⟩, rfl⟩
          dsimp only at h ⊢
          rw [hs3] at h
          rw [h0]
          exact Run.wsQ h
        · refine Ex.nil ⟨⟨pos + 1, .dq, [], line, false, es, t, tl', tt, t', tes⟩, ⟨fun O h => ?_, ⟨hp, by dsimp only [List.length_nil]; omega, nofun, nofun, nofun, nofun⟩, Nat.lt_succ_self _⟩, ⟨rfl, rfl, rfl⟩, rfl⟩
          dsimp only at h ⊢
          rw [hs3] at h
          rw [h0]
          exact Run.wsR h
      refine Ex.ifF (Tp.val (Ep.lx hs la_whitespace_split lo_whitespace_split) Tv.bool) ?_
      refine Ex.seta (Ep.name rfl) (Ep.name hs) ?_
      rintro v rfl
      refine Tr.sx D ⟨_, la_token, rfl⟩ lt_token (put_token _ _) ?_
      refine Ex.ifT (tp_tq (l := [d]) (q := false) hs rfl (by simp) rfl) ?_
      refine Ex.brk ⟨⟨pos + 1, .ws, [d], line, false, es, tst, tl', t, t', tes⟩, [], dn, ⟨?_, hp, ?_⟩, rfl, rfl, rfl⟩
      · dsimp only
        rw [h0, hs3]
        exact Run.wsP hw hc he hC hq
      · dsimp only [List.length_cons, List.length_nil]; omega
    | sq =>
      have h2 := hI.h2
      dsimp only at h2
      have hs : look ((Str.ofString "nextchar", .str (T [d]) t) :: rtPs P ⟨pos, .sq, tok, line, q, es, tst, tl, tt, t3, tes⟩) (Str.ofString "self") = some (.ref P.x) := rfl
      refine Ex.ifF (Tp.cmp (Ep.lx (v := .str (T [39]) tst) hs la_state lo_state) Ep.none Cop.isSN) ?_
      refine Ex.ifF (Tp.cmp (Ep.lx (v := .str (T [39]) tst) hs la_state lo_state) Ep.str (Cop.eqC (by decide +kernel))) ?_
      refine Ex.ifT (Tp.cmp (Ep.lx (v := .str (T [39]) tst) hs la_state lo_state) (Ep.lx hs la_quotes lo_quotes) Cop.inQ) ?_
      refine Ex.asp Ep.bool ?_
      rintro v rfl
      have hs : look ((Str.ofString "quoted", .bool true) :: (Str.ofString "nextchar", .str (T [d]) t) :: rtPs P ⟨pos, .sq, tok, line, q, es, tst, tl, tt, t3, tes⟩) (Str.ofString "self") = some (.ref P.x) := rfl
      refine Ex.ifF (Tp.not (Tp.val (Ep.name rfl) Tv.one)) ?_
      refine Ex.iff (Tp.cmp (Ep.name rfl) (Ep.lx (v := .str (T [39]) tst) hs la_state lo_state) Cop.eqdd) (fun hd => ?_) (fun hd => ?_)
      · obtain rfl := of_decide_eq_true hd
        refine Ex.ifF (Tp.not (Tp.val (Ep.lx hs la_posix lo_posix) Tv.bool)) ?_
        refine Ex.seta (Ep.strT s_a) (Ep.name hs) ?_
        rintro v ⟨u, rfl⟩
        refine Tr.sx D ⟨_, la_state, rfl⟩ lt_state (put_state _) ?_
        refine Ex.nil ⟨⟨pos + 1, .wd, tok, bump 39 line, true, es, u, tl', tt, t', tes⟩, ⟨fun O h => ?_, ⟨hp, by dsimp only; omega, nofun, fun _ => .inr rfl, nofun, nofun⟩, Nat.lt_succ_self _⟩, ⟨rfl, rfl, rfl⟩, rfl⟩
        dsimp only at h ⊢
        rw [hs3] at h
        rw [h0]
        exact Run.sqE h
      have hd' := of_decide_eq_false hd
      refine Ex.ifF (Tp.L (TL.andT (Tp.val (Ep.lx hs la_posix lo_posix) Tv.bool) (TL.and2F (Tp.cmp (Ep.name rfl) (Ep.lx hs la_escape lo_escape) Cop.inB) (Tp.cmp (Ep.lx (v := .str (T [39]) tst) hs la_state lo_state) (Ep.lx hs la_escapedquotes lo_escapedquotes) Cop.inD)))) ?_
      refine Ex.auga (Ep.name hs) (Tr.lx la_token lo_token) (Ep.name rfl) (by rintro v rfl; exact Tr.iadd (by simp only [List.length_cons, List.length_nil]; omega)) ?_
      rintro v ⟨u2, rfl⟩
      refine Tr.sx D ⟨_, la_token, rfl⟩ lt_token (put_token _ _) ?_
      refine Ex.nil ⟨⟨pos + 1, .sq, tok ++ [d], bump d line, true, es, tst, tl', u2, t', tes⟩, ⟨fun O h => ?_, ⟨hp, by simp only [List.length_append, List.length_cons, List.length_nil]; omega, nofun, nofun, nofun, nofun⟩, Nat.lt_succ_self _⟩, ⟨rfl, rfl, rfl⟩, rfl⟩
      dsimp only at h ⊢
      rw [hs3] at h
      rw [h0]
      exact Run.sqC rfl hd' h
    | dq =>
      have h2 := hI.h2
      dsimp only at h2
      have hs : look ((Str.ofString "nextchar", .str (T [d]) t) :: rtPs P ⟨pos, .dq, tok, line, q, es, tst, tl, tt, t3, tes⟩) (Str.ofString "self") = some (.ref P.x) := rfl
      refine Ex.ifF (Tp.cmp (Ep.lx (v := .str (T [34]) tst) hs la_state lo_state) Ep.none Cop.isSN) ?_
      refine Ex.ifF (Tp.cmp (Ep.lx (v := .str (T [34]) tst) hs la_state lo_state) Ep.str (Cop.eqC (by decide +kernel))) ?_
      refine Ex.ifT (Tp.cmp (Ep.lx (v := .str (T [34]) tst) hs la_state lo_state) (Ep.lx hs la_quotes lo_quotes) Cop.inQ) ?_
      refine Ex.asp Ep.bool ?_
      rintro v rfl
      have hs : look ((Str.ofString "quoted", .bool true) :: (Str.ofString "nextchar", .str (T [d]) t) :: rtPs P ⟨pos, .dq, tok, line, q, es, tst, tl, tt, t3, tes⟩) (Str.ofString "self") = some (.ref P.x) := rfl
      refine Ex.ifF (Tp.not (Tp.val (Ep.name rfl) Tv.one)) ?_
      refine Ex.iff (Tp.cmp (Ep.name rfl) (Ep.lx (v := .str (T [34]) tst) hs la_state lo_state) Cop.eqdd) (fun hd => ?_) (fun hd => ?_)
      · obtain rfl := of_decide_eq_true hd
        refine Ex.ifF (Tp.not (Tp.val (Ep.lx hs la_posix lo_posix) Tv.bool)) ?_
        refine Ex.seta (Ep.strT s_a) (Ep.name hs) ?_
        rintro v ⟨u, rfl⟩
        refine Tr.sx D ⟨_, la_state, rfl⟩ lt_state (put_state _) ?_
        refine Ex.nil ⟨⟨pos + 1, .wd, tok, bump 34 line, true, es, u, tl', tt, t', tes⟩, ⟨fun O h => ?_, ⟨hp, by dsimp only; omega, nofun, fun _ => .inr rfl, nofun, nofun⟩, Nat.lt_succ_self _⟩, ⟨rfl, rfl, rfl⟩, rfl⟩
        dsimp only at h ⊢
        rw [hs3] at h
        rw [h0]
        exact Run.dqE h
      have hd' := of_decide_eq_false hd
      refine Ex.iff (Tp.L (TL.andT (Tp.val (Ep.lx hs la_posix lo_posix) Tv.bool) (TL.and2T (Tp.cmp (Ep.name rfl) (Ep.lx hs la_escape lo_escape) Cop.inB) (Tp.cmp (Ep.lx (v := .str (T [34]) tst) hs la_state lo_state) (Ep.lx hs la_escapedquotes lo_escapedquotes) Cop.inD)))) (fun he => ?_) (fun he => ?_)
      · obtain rfl := eq_of_beq he
        refine Ex.asp (Ep.lx (v := .str (T [34]) tst) hs la_state lo_state) ?_
        rintro v rfl
        refine Ex.seta (Ep.name rfl) (Ep.name rfl) ?_
        rintro v rfl
        refine Tr.sx D ⟨_, la_state, rfl⟩ lt_state (put_state _) ?_
        refine Ex.nil ⟨⟨pos + 1, .esc, tok, bump 92 line, true, .dq, t, tl', tt, t', tst⟩, ⟨fun O h => ?_, ⟨hp, by dsimp only; omega, nofun, nofun, nofun, nofun⟩, Nat.lt_succ_self _⟩, ⟨rfl, rfl, rfl⟩, rfl⟩
        dsimp only at h ⊢
        rw [hs3] at h
        rw [h0]
        exact Run.dqX h
      refine Ex.auga (Ep.name hs) (Tr.lx la_token lo_token) (Ep.name rfl) (by rintro v rfl; exact Tr.iadd (by simp only [List.length_cons, List.length_nil]; omega)) ?_
      rintro v ⟨u2, rfl⟩
      refine Tr.sx D ⟨_, la_token, rfl⟩ lt_token (put_token _ _) ?_
      refine Ex.nil ⟨⟨pos + 1, .dq, tok ++ [d], bump d line, true, es, tst, tl', u2, t', tes⟩, ⟨fun O h => ?_, ⟨hp, by simp only [List.length_append, List.length_cons, List.length_nil]; omega, nofun, nofun, nofun, nofun⟩, Nat.lt_succ_self _⟩, ⟨rfl, rfl, rfl⟩, rfl⟩
      dsimp only at h ⊢
      rw [hs3] at h
      rw [h0]
      exact Run.dqC rfl hd' he h
    | esc =>
      have h2 := hI.h2
      dsimp only at h2
      cases es with
      | sp => exact absurd (hI.h5 rfl rfl) (by dsimp only; omega)
      | wd =>
        have hs : look ((Str.ofString "nextchar", .str (T [d]) t) :: rtPs P ⟨pos, .esc, tok, line, q, .wd, tst, tl, tt, t3, tes⟩) (Str.ofString "self") = some (.ref P.x) := rfl
        refine Ex.ifF (Tp.cmp (Ep.lx (v := .str (T [92]) tst) hs la_state lo_state) Ep.none Cop.isSN) ?_
        refine Ex.ifF (Tp.cmp (Ep.lx (v := .str (T [92]) tst) hs la_state lo_state) Ep.str (Cop.eqC (by decide +kernel))) ?_
        refine Ex.ifF (Tp.cmp (Ep.lx (v := .str (T [92]) tst) hs la_state lo_state) (Ep.lx hs la_quotes lo_quotes) Cop.inQ) ?_
        refine Ex.ifT (Tp.cmp (Ep.lx (v := .str (T [92]) tst) hs la_state lo_state) (Ep.lx hs la_escape lo_escape) Cop.inB) ?_
        refine Ex.ifF (Tp.not (Tp.val (Ep.name rfl) Tv.one)) ?_
        refine Ex.ifF (Tp.L (TL.andF (Tp.cmp (Ep.name (v := .str (T [97]) tes) rfl) (Ep.lx hs la_quotes lo_quotes) Cop.inQ))) ?_
        refine Ex.auga (Ep.name hs) (Tr.lx la_token lo_token) (Ep.name rfl) (by rintro v rfl; exact Tr.iadd (by simp only [List.length_append, List.length_cons, List.length_nil]; omega)) ?_
        rintro v ⟨u2, rfl⟩
        refine Tr.sx D ⟨_, la_token, rfl⟩ lt_token (put_token _ _) ?_
        refine Ex.seta (Ep.name rfl) (Ep.name hs) ?_
        rintro v rfl
        refine Tr.sx D ⟨_, la_state, rfl⟩ lt_state (put_state _) ?_
        refine Ex.nil ⟨⟨pos + 1, .wd, tok ++ [d], bump d line, q, .wd, tes, tl', u2, t', tes⟩, ⟨fun O h => ?_, ⟨hp, by simp only [List.length_append, List.length_cons, List.length_nil]; omega, nofun, fun _ => .inl (by simp), nofun, nofun⟩, Nat.lt_succ_self _⟩, ⟨rfl, rfl, rfl⟩, rfl⟩
        dsimp only at h ⊢
        rw [hs3] at h
        rw [h0]
        exact Run.escC rfl (fun z => nomatch z) h
      | dq =>
        have hs : look ((Str.ofString "nextchar", .str (T [d]) t) :: rtPs P ⟨pos, .esc, tok, line, q, .dq, tst, tl, tt, t3, tes⟩) (Str.ofString "self") = some (.ref P.x) := rfl
        refine Ex.ifF (Tp.cmp (Ep.lx (v := .str (T [92]) tst) hs la_state lo_state) Ep.none Cop.isSN) ?_
        refine Ex.ifF (Tp.cmp (Ep.lx (v := .str (T [92]) tst) hs la_state lo_state) Ep.str (Cop.eqC (by decide +kernel))) ?_
        refine Ex.ifF (Tp.cmp (Ep.lx (v := .str (T [92]) tst) hs la_state lo_state) (Ep.lx hs la_quotes lo_quotes) Cop.inQ) ?_
        refine Ex.ifT (Tp.cmp (Ep.lx (v := .str (T [92]) tst) hs la_state lo_state) (Ep.lx hs la_escape lo_escape) Cop.inB) ?_
        refine Ex.ifF (Tp.not (Tp.val (Ep.name rfl) Tv.one)) ?_
        refine Ex.iff (Tp.L (TL.andT (Tp.cmp (Ep.name (v := .str (T [34]) tes) rfl) (Ep.lx hs la_quotes lo_quotes) Cop.inQ) (TL.andB (Tp.cmp (Ep.name rfl) (Ep.lx (v := .str (T [92]) tst) hs la_state lo_state) Cop.nedd) (TL.and1 (Tp.cmp (Ep.name rfl) (Ep.name (v := .str (T [34]) tes) rfl) Cop.nedd))))) (fun hd => ?_) (fun hd => ?_)
        · simp only [Bool.and_eq_true, Bool.not_eq_true', decide_eq_false_iff_not] at hd
          refine Ex.auga (Ep.name hs) (Tr.lx la_token lo_token) (Ep.lx (v := .str (T [92]) tst) hs la_state lo_state) (by rintro v rfl; exact Tr.iadd (by simp only [List.length_cons, List.length_nil]; omega)) ?_
          rintro v ⟨u, rfl⟩
          refine Tr.sx D ⟨_, la_token, rfl⟩ lt_token (put_token _ _) ?_
          refine Ex.auga (Ep.name hs) (Tr.lx la_token lo_token) (Ep.name rfl) (by rintro v rfl; exact Tr.iadd (by simp only [List.length_append, List.length_cons, List.length_nil]; omega)) ?_
          rintro v ⟨u2, rfl⟩
          refine Tr.sx D ⟨_, la_token, rfl⟩ lt_token (put_token _ _) ?_
          refine Ex.seta (Ep.name rfl) (Ep.name hs) ?_
          rintro v rfl
          refine Tr.sx D ⟨_, la_state, rfl⟩ lt_state (put_state _) ?_
          refine Ex.nil ⟨⟨pos + 1, .dq, tok ++ [92] ++ [d], bump d line, q, .dq, tes, tl', u2, t', tes⟩, ⟨fun O h => ?_, ⟨hp, by simp only [List.length_append, List.length_cons, List.length_nil]; omega, nofun, nofun, nofun, nofun⟩, Nat.lt_succ_self _⟩, ⟨rfl, rfl, rfl⟩, rfl⟩
          dsimp only at h ⊢
          rw [hs3] at h
          rw [h0]
          exact Run.escB rfl hd.1 hd.2 h
        · have hd' : d = 92 ∨ d = 34 := by
            by_cases z : d = 92
            · exact .inl z
            · by_cases z2 : d = 34
              · exact .inr z2
              · simp [z, z2] at hd
          refine Ex.auga (Ep.name hs) (Tr.lx la_token lo_token) (Ep.name rfl) (by rintro v rfl; exact Tr.iadd (by simp only [List.length_append, List.length_cons, List.length_nil]; omega)) ?_
          rintro v ⟨u2, rfl⟩
          refine Tr.sx D ⟨_, la_token, rfl⟩ lt_token (put_token _ _) ?_
          refine Ex.seta (Ep.name rfl) (Ep.name hs) ?_
          rintro v rfl
          refine Tr.sx D ⟨_, la_state, rfl⟩ lt_state (put_state _) ?_
          refine Ex.nil ⟨⟨pos + 1, .dq, tok ++ [d], bump d line, q, .dq, tes, tl', u2, t', tes⟩, ⟨fun O h => ?_, ⟨hp, by simp only [List.length_append, List.length_cons, List.length_nil]; omega, nofun, nofun, nofun, nofun⟩, Nat.lt_succ_self _⟩, ⟨rfl, rfl, rfl⟩, rfl⟩
          dsimp only at h ⊢
          rw [hs3] at h
          rw [h0]
          exact Run.escC rfl (fun _ => hd') h
    | wd =>
      have h2 := hI.h2
      dsimp only at h2
      have h4 : tok ≠ [] ∨ q = true := hI.h4 rfl
      have hs : look ((Str.ofString "nextchar", .str (T [d]) t) :: rtPs P ⟨pos, .wd, tok, line, q, es, tst, tl, tt, t3, tes⟩) (Str.ofString "self") = some (.ref P.x) := rfl
      refine Ex.ifF (Tp.cmp (Ep.lx (v := .str (T [97]) tst) hs la_state lo_state) Ep.none Cop.isSN) ?_
      refine Ex.ifF (Tp.cmp (Ep.lx (v := .str (T [97]) tst) hs la_state lo_state) Ep.str (Cop.eqC (by decide +kernel))) ?_
      refine Ex.ifF (Tp.cmp (Ep.lx (v := .str (T [97]) tst) hs la_state lo_state) (Ep.lx hs la_quotes lo_quotes) Cop.inQ) ?_
      refine Ex.ifF (Tp.cmp (Ep.lx (v := .str (T [97]) tst) hs la_state lo_state) (Ep.lx hs la_escape lo_escape) Cop.inB) ?_
      refine Ex.ifT (Tp.in2 (Ep.lx (v := .str (T [97]) tst) hs la_state lo_state) (by decide +kernel)) ?_
      refine Ex.ifF (Tp.not (Tp.val (Ep.name rfl) Tv.one)) ?_
      refine Ex.iff (Tp.cmp (Ep.name rfl) (Ep.lx hs la_whitespace lo_whitespace) Cop.inW) (fun hw => ?_) (fun hw => ?_)
      · refine Ex.ifF (Tp.cmp (Ep.lx hs la_debug lo_debug) Ep.int (Cop.geI rfl)) ?_
        refine Ex.seta (Ep.strT s_sp) (Ep.name hs) ?_
        rintro v ⟨u, rfl⟩
        refine Tr.sx D ⟨_, la_state, rfl⟩ lt_state (put_state _) ?_
        refine Ex.ifT (tp_tqT (l := tok) (q := q) hs rfl (by omega) rfl h4) ?_
        refine Ex.brk ⟨⟨pos + 1, .ws, tok, bump d line, q, es, u, tl', tt, t', tes⟩, [], dn, ⟨?_, hp, ?_⟩, rfl, rfl, rfl⟩
        · dsimp only
          rw [h0, hs3]
          exact Run.wdW rfl hw
        · dsimp only; omega
      have hb : bump d line = line := bump_W hw
      rw [hb]
      refine Ex.iff (Tp.cmp (Ep.name rfl) (Ep.lx hs la_commenters lo_commenters) Cop.inH) (fun hc => ?_) (fun hc => ?_)
      · obtain rfl := eq_of_beq hc
        refine Ex.exp (Ev.rl D h5 h6 hp hlen hs fun v t2 => ?_)
        refine Ex.auga (Ep.name hs) (Tr.lx la_lineno lo_lineno) Ep.int (by rintro v ⟨u, rfl⟩; exact Tr.iaddI) ?_
        rintro v ⟨u, rfl⟩
        refine Tr.sx D ⟨_, la_lineno, rfl⟩ lt_lineno (put_lineno _ _) ?_
        refine Ex.ifT (Tp.val (Ep.lx hs la_posix lo_posix) Tv.bool) ?_
        refine Ex.seta (Ep.strT s_sp) (Ep.name hs) ?_
        rintro v ⟨u2, rfl⟩
        refine Tr.sx D ⟨_, la_state, rfl⟩ lt_state (put_state _) ?_
        refine Ex.ifT (tp_tqT (l := tok) (q := q) hs rfl (by omega) rfl h4) ?_
        have hda := drop_aft (r := P.r) (p := pos + 1)
        refine Ex.brk ⟨⟨P.r.length - (aft (P.r.drop (pos + 1))).length, .ws, tok, line + 1, q, es, u2, u, tt, t2, tes⟩, [], dn, ⟨?_, Nat.sub_le _ _, ?_⟩, rfl, rfl, rfl⟩
        · dsimp only
          rw [hda, h0, hs3]
          exact Run.wdC
        · dsimp only; omega
      refine Ex.ifF (Tp.cmp (Ep.lx (v := .str (T [97]) tst) hs la_state lo_state) Ep.str (Cop.eqC (by decide +kernel))) ?_
      refine Ex.iff (Tp.L (TL.andT (Tp.val (Ep.lx hs la_posix lo_posix) Tv.bool) (TL.and1 (Tp.cmp (Ep.name rfl) (Ep.lx hs la_quotes lo_quotes) Cop.inQ)))) (fun hq => ?_) (fun hq => ?_)
      · refine Ex.seta (Ep.name rfl) (Ep.name hs) ?_
        rintro v rfl
        refine Tr.sx D ⟨_, la_state, rfl⟩ lt_state (put_state _) ?_
        rcases isQ_cases hq with rfl | rfl
        · refine Ex.nil ⟨⟨pos + 1, .sq, tok, line, q, es, t, tl', tt, t', tes⟩, ⟨fun O h => ?_, ⟨hp, by dsimp only; omega, nofun, nofun, nofun, nofun⟩, Nat.lt_succ_self _⟩, ⟨rfl, rfl, rfl⟩, rfl⟩
          dsimp only at h ⊢
          rw [hs3] at h
          rw [h0]
          exact Run.wdQ h
        · refine Ex.nil ⟨⟨pos + 1, .dq, tok, line, q, es, t, tl', tt, t', tes⟩, ⟨fun O h => ?_, ⟨hp, by dsimp only; omega, nofun, nofun, nofun, nofun⟩, Nat.lt_succ_self _⟩, ⟨rfl, rfl, rfl⟩, rfl⟩
          dsimp only at h ⊢
          rw [hs3] at h
          rw [h0]
          exact Run.wdR h
      refine Ex.iff (Tp.L (TL.andT (Tp.val (Ep.lx hs la_posix lo_posix) Tv.bool) (TL.and1 (Tp.cmp (Ep.name rfl) (Ep.lx hs la_escape lo_escape) Cop.inB)))) (fun he => ?_) (fun he => ?_)
      · obtain rfl := eq_of_beq he
        refine Ex.asp (Ep.strT s_a) ?_
        rintro v ⟨u, rfl⟩
        refine Ex.seta (Ep.name rfl) (Ep.name rfl) ?_
        rintro v rfl
        refine Tr.sx D ⟨_, la_state, rfl⟩ lt_state (put_state _) ?_
        refine Ex.nil ⟨⟨pos + 1, .esc, tok, line, q, .wd, t, tl', tt, t', u⟩, ⟨fun O h => ?_, ⟨hp, by dsimp only; omega, nofun, nofun, nofun, nofun⟩, Nat.lt_succ_self _⟩, ⟨rfl, rfl, rfl⟩, rfl⟩
        dsimp only at h ⊢
        rw [hs3] at h
        rw [h0]
        exact Run.wdE h
      refine Ex.iff (Tp.L (TL.orB (Tp.cmp (Ep.name rfl) (Ep.lx hs la_wordchars lo_wordchars) Cop.inC) (TL.orB (Tp.cmp (Ep.name rfl) (Ep.lx hs la_quotes lo_quotes) Cop.inQ) (TL.or1 (Tp.L (TL.andF (Tp.val (Ep.lx hs la_whitespace_split lo_whitespace_split) Tv.bool))))))) (fun hC => ?_) (fun hC => ?_)
      · have hC' : isC d = true := by simpa [show isQ d = false from hq] using hC
        refine Ex.auga (Ep.name hs) (Tr.lx la_token lo_token) (Ep.name rfl) (by rintro v rfl; exact Tr.iadd (by simp only [List.length_cons, List.length_nil]; omega)) ?_
        rintro v ⟨u2, rfl⟩
        refine Tr.sx D ⟨_, la_token, rfl⟩ lt_token (put_token _ _) ?_
        refine Ex.nil ⟨⟨pos + 1, .wd, tok ++ [d], line, q, es, tst, tl', u2, t', tes⟩, ⟨fun O h => ?_, ⟨hp, by simp only [List.length_append, List.length_cons, List.length_nil]; omega, nofun, fun _ => .inl (by simp), nofun, nofun⟩, Nat.lt_succ_self _⟩, ⟨rfl, rfl, rfl⟩, rfl⟩
        dsimp only at h ⊢
        rw [hs3] at h
        rw [h0]
        exact Run.wdD hC' h
      have hC' : isC d = false := by cases z : isC d with | false => rfl | true => simp [z] at hC
      refine Ex.ifF (Tp.val (Ep.pch (by omega) (by omega) hs) Tv.emp) ?_
      refine Ex.exp (Ev.apl D (by decide) hs rfl ?_)
      refine Ex.ifF (Tp.cmp (Ep.lx hs la_debug lo_debug) Ep.int (Cop.geI rfl)) ?_
      refine Ex.seta (Ep.strT s_sp) (Ep.name hs) ?_
      rintro v ⟨u, rfl⟩
      refine Tr.sx D ⟨_, la_state, rfl⟩ lt_state (put_state _) ?_
      refine Ex.ifT (tp_tqT (l := tok) (l2 := [.str (T [d]) t]) (q := q) hs rfl (by omega) rfl h4) ?_
      refine Ex.brk ⟨⟨pos + 1, .ws, tok, line, q, es, u, tl', tt, t', tes⟩, [(d, t)], dn + 1, ⟨?_, hp, ?_⟩, rfl, rfl, rfl⟩
      · dsimp only
        rw [h0, hs3]
        exact Run.wdP hw hc he hC' hq
      · dsimp only; omega
end
end Mine

end
section
open Mine
namespace Mine
theorem rt_body {y : Fx} {P : LP} {news : Led} (D : RtD P news) {pos : Nat} {t3 tst tl tt : Tok} {st : St} {line : Int} {tok : List Nat} {dn : Int} (h5 : 9 ≤ y.c) (h6 : 70 ≤ y.u)
    (hp : pos ≤ P.r.length ∧ P.r.length < 10000 ∧ tok.length + 2 * (P.r.length - pos) < 60000 ∧ (st = .ws → tok = []) ∧ st ≠ .wd ∧ (st = .esc → P.r.length ≤ pos) ∧ (st = .fin → P.r.length ≤ pos)) :
    Ex y rtF [(Str.ofString "self", .ref P.x)] (rtN P ⟨st.val tst, line, tl, T tok, tt⟩ pos t3 dn [] news) (fb o711.1)
      (fun fl _ n' => ∃ (c : LC) (push : List (Nat × Tok)) (dn' : Int) (tv : Tok), Run (P.r.drop pos) st tok line false .sp (.done (P.r.drop c.pos) c.st c.tok c.line c.q (push.map Prod.fst)) ∧ c.pos ≤ P.r.length ∧ retv fl = (if c.q = false ∧ c.tok = [] then .none else .str (T c.tok) tv) ∧
        n' = rtN P ⟨c.st.val c.tst, c.line, c.tl, T [], c.tt⟩ c.pos c.t3 dn' (pushV push) news)
      (fun es n' => ∃ (k : Bool) (c : LC) (tm : Tok), Run (P.r.drop pos) st tok line false .sp (.bad k c.st c.tok c.line) ∧ c.pos = P.r.length ∧ es = [.str (Str.ofString (if k then "No escaped character" else "No closing quotation")) tm] ∧ n' = rtN P (lvOf c) c.pos c.t3 dn [] news) := by
  obtain ⟨hpos, hlen, htok, hws, hwd, hesc, hfin⟩ := hp
  refine Ex.asp Ep.bool ?_
  rintro v rfl
  refine Ex.asp (Ep.strT s_sp) ?_
  rintro v ⟨u, rfl⟩
  refine Ex.whl (rtPs P) (fun c => rtN P (lvOf c) c.pos c.t3 dn [] news) (fun c => RtI P.r c ∧ (∀ O, Run (P.r.drop c.pos) c.st c.tok c.line c.q c.es O → Run (P.r.drop pos) st tok line false .sp O)) (fun c => P.r.length - c.pos) ⟨pos, st, tok, line, false, .sp, tst, tl, tt, t3, u⟩
    (List.forall_mem_cons.mpr ⟨rfl, List.forall_mem_cons.mpr ⟨rfl, List.forall_mem_cons.mpr ⟨rfl, List.forall_mem_nil _⟩⟩⟩) (fun q hq => hq) ⟨⟨hpos, htok, fun h => ⟨hws h, rfl⟩, fun h => absurd h hwd, fun h _ => hesc h, hfin⟩, fun O h => h⟩ ?_
  rintro c ⟨hI, hO⟩
  refine (Tp.val Ep.bool Tv.bool).go ?_
  refine (if_pos rfl).mpr ?_
  refine Tr.mono (rt_turn D hI (by omega) (by omega) hlen) (fun fl m' n' h => ?_) (fun es n' h => ?_)
  · cases fl with
    | ret v => exact h.elim
    | next =>
      obtain ⟨c', ⟨h1, h2, h3⟩, ⟨k1, k2, k3⟩, rfl⟩ := h
      exact ⟨c', ⟨h2, fun O h => hO O (h1 O h)⟩, by have := h2.h1; dsimp only; omega, List.forall_mem_cons.mpr ⟨k1, List.forall_mem_cons.mpr ⟨k2, List.forall_mem_cons.mpr ⟨k3, List.forall_mem_nil _⟩⟩⟩, fun q hq => hq⟩
    | cont =>
      obtain ⟨c', ⟨h1, h2, h3⟩, ⟨k1, k2, k3⟩, rfl⟩ := h
      exact ⟨c', ⟨h2, fun O h => hO O (h1 O h)⟩, by have := h2.h1; dsimp only; omega, List.forall_mem_cons.mpr ⟨k1, List.forall_mem_cons.mpr ⟨k2, List.forall_mem_cons.mpr ⟨k3, List.forall_mem_nil _⟩⟩⟩, fun q hq => hq⟩
    | brk =>
      obtain ⟨c', push, dn', ⟨h1, h2, h3⟩, k1, k2, rfl⟩ := h
      have hR := hO _ h1
      refine Ex.asp (Ep.lx k1 la_token lo_token) ?_
      rintro v rfl
      refine Ex.seta (Ep.strT s_em) (Ep.name k1) ?_
      rintro v ⟨u2, rfl⟩
      refine Tr.sx D ⟨_, la_token, rfl⟩ lt_token (put_token _ _) ?_
      refine Ex.iff (Tp.L (TL.andT (Tp.val (Ep.lx k1 la_posix lo_posix) Tv.bool) (TL.andB (Tp.not (Tp.val (Ep.name (v := .bool c'.q) k2) Tv.bool)) (TL.and1 (Tp.cmp (Ep.name (v := .str (T c'.tok) c'.tt) rfl) Ep.str Cop.emp))))) (fun hz => ?_) (fun hz => ?_)
      · have hz' : c'.q = false ∧ c'.tok = [] := by simpa using hz
        refine Ex.asp Ep.none ?_
        rintro v rfl
        refine Ex.ifF (Tp.cmp (Ep.lx k1 la_debug lo_debug) Ep.int (Cop.gtI rfl)) ?_
        refine Ex.ret ((Ep.name (v := .none) rfl).go fun v hv => ⟨⟨c'.pos, c'.st, c'.tok, c'.line, c'.q, c'.es, c'.tst, c'.tl, u2, c'.t3, c'.tes⟩, push, dn', 0, hR, h2, ?_, rfl⟩)
        subst hv
        exact (if_pos hz').symm
      · have hz' : ¬ (c'.q = false ∧ c'.tok = []) := fun z => by simp [z] at hz
        refine Ex.ifF (Tp.cmp (Ep.lx k1 la_debug lo_debug) Ep.int (Cop.gtI rfl)) ?_
        refine Ex.ret ((Ep.name (v := .str (T c'.tok) c'.tt) rfl).go fun v hv => ⟨⟨c'.pos, c'.st, c'.tok, c'.line, c'.q, c'.es, c'.tst, c'.tl, u2, c'.t3, c'.tes⟩, push, dn', c'.tt, hR, h2, ?_, rfl⟩)
        subst hv
        exact (if_neg hz').symm
  · obtain ⟨k, c', tm, h1, h2, rfl, rfl⟩ := h
    exact ⟨k, c', tm, hO _ h1, h2, rfl, rfl⟩
theorem rt_spec {w : World} {P : LP} {news : Led} (D : RtD P news) {pos : Nat} {t3 tst tl tt : Tok} {st : St} {line : Int} {tok : List Nat} {dn : Int} :
  Con 10 80 w 711 (rtN P ⟨st.val tst, line, tl, T tok, tt⟩ pos t3 dn [] news)
    (pos ≤ P.r.length ∧ P.r.length < 10000 ∧ tok.length + 2 * (P.r.length - pos) < 60000 ∧ (st = .ws → tok = []) ∧ st ≠ .wd ∧ (st = .esc → P.r.length ≤ pos) ∧ (st = .fin → P.r.length ≤ pos)) [.ref P.x]
    (fun v n' => ∃ (c : LC) (push : List (Nat × Tok)) (dn' : Int) (tv : Tok), Run (P.r.drop pos) st tok line false .sp (.done (P.r.drop c.pos) c.st c.tok c.line c.q (push.map Prod.fst)) ∧ c.pos ≤ P.r.length ∧ v = (if c.q = false ∧ c.tok = [] then .none else .str (T c.tok) tv) ∧
        n' = rtN P ⟨c.st.val c.tst, c.line, c.tl, T [], c.tt⟩ c.pos c.t3 dn' (pushV push) news)
    (fun es n' => ∃ (k : Bool) (c : LC) (tm : Tok), Run (P.r.drop pos) st tok line false .sp (.bad k c.st c.tok c.line) ∧ c.pos = P.r.length ∧ es = [.str (Str.ofString (if k then "No escaped character" else "No closing quotation")) tm] ∧ n' = rtN P (lvOf c) c.pos c.t3 dn [] news) := by
  refine' Con.of (binds := [(Str.ofString "self", .ref P.x)]) ?a ?b ?c ?d ?e ?h ?i ?j ?k ?l
  case a => k_is
  case b => k_is
  case c => exact fun s X => BindsTo.of_eq rfl
  case d => exact locs rfl
  case e => decide
  case i => exact rfl
  case j => exact rfl
  case k => exact rfl
  case l => decide
  intro hp y hw hc hu hcl
  exact rt_body D (by omega) (by omega) hp
end Mine

end
section
open Mine
namespace Mine
theorem toks_setGen (s : Shared) (g : Nat) (st : GenState) : (s.setGen g st).toks = s.toks := rfl
theorem runs_toks {M : Model} {Γ : Ctx} {p : Pos} {t : Sem Fin} {l : List Frame} {s s' : Shared} {e : End} (h : Runs M Γ p t l s e s') : s.toks ≤ s'.toks := by
  induction h <;> (try simp only [toks_setGen] at *) <;> omega
theorem wakes_toks {M : Model} {Γ : Ctx} {p : Pos} {g : Nat} {r : Resume} {s s' : Shared} {res : GenResult} (h : Wakes M Γ p g r s res s') : s.toks ≤ s'.toks := by
  unfold Wakes at h
  split at h
  · exact h.elim
  · split at h
    · obtain ⟨e₁, s₁, hr, _, _, rfl⟩ := h
      have := runs_toks hr
      simpa only [toks_setGen] using this
    · rw [h.2]; exact Nat.le_refl _
    · rw [h.2]; exact Nat.le_refl _
  · obtain ⟨e₁, s₁, hr, _, _, rfl⟩ := h
    have := runs_toks hr
    simpa only [toks_setGen] using this
  · rw [h.2]; exact Nat.le_refl _
  · rw [h.2]; exact Nat.le_refl _
theorem wp_toks {X : Type} {M : Model} {Γ : Ctx} (t : Sem X) {Q : X → Pos → Shared → Prop} {E : Value → Pos → Shared → Prop} {k : Nat} (p : Pos) (s : Shared) (hk : k ≤ s.toks)
    (h : Sem.wp M Γ t (fun a p' s' => k ≤ s'.toks → Q a p' s') (fun e p' s' => k ≤ s'.toks → E e p' s') p s) : Sem.wp M Γ t Q E p s := by
  revert h
  induction t generalizing p s with
  | pure x => exact fun h => h hk
  | raise v => exact fun h => h hk
  | unsupported | finish | yield | fork | await | register => exact id
  | rule _ k ih | «at» _ k ih | alloc _ k ih | loadIfAlive _ k ih | point _ k ih | ask k ih | os _ _ k ih | handled _ k ih | newGen _ k ih | stack k ih | thread k ih => exact ih _ _ _ hk
  | fresh k ih => exact ih _ _ _ (Nat.le_succ_of_le hk)
  | load a _ k ih | genState a k ih => exact fun ⟨o, ho, h⟩ => ⟨o, ho, ih _ _ _ hk h⟩
  | update a _ f k ih | choose _ _ k ih => exact fun ⟨ha, h⟩ => ⟨ha, ih _ _ _ hk h⟩
  | call c h g l k ih => exact fun ⟨r, s', hr, h⟩ => ⟨r, s', hr, ih _ _ _ (Nat.le_trans hk (runs_toks hr)) h⟩
  | resume g r l k ih => exact fun ⟨res, s', hw, h⟩ => ⟨res, s', hw, ih _ _ _ (Nat.le_trans hk (wakes_toks hw)) h⟩
section
variable {α : Type} {M : Model} {A : Around} {E : Value → Shared → Prop} {s : Shared}
theorem wpAny_tk {t : Sem α} {Q : α → Shared → Prop} (h : wpAny M A t (fun a s' => s.toks ≤ s'.toks → Q a s') (fun e s' => s.toks ≤ s'.toks → E e s') s) : wpAny M A t Q E s :=
  fun Γ p hΓ => wp_toks t p s (Nat.le_refl _) (h Γ p hΓ)
theorem wpAny_tkQ {t : Sem α} {Q : α → Shared → Prop} (h : wpAny M A t (fun a s' => s.toks ≤ s'.toks → Q a s') E s) : wpAny M A t Q E s :=
  wpAny_tk (wpAny_mono h (fun _ _ q => q) fun _ _ e _ => e)
end
end Mine

end
section
open Mine
namespace Mine
open PySem.Builtin PySem.Builtin.Str
noncomputable def exT (kind : Str) (c n : Nat) : Str := Str.ofString "expected " ++ Str.ofString (toString (c : Int)) ++ Str.ofString " bytes in a " ++ kind ++ Str.ofString "1, but only " ++ Str.ofString (toString (n : Int)) ++ Str.ofString " remain"
inductive Pf (fmt : Str) : List Nat → List Value → Str → Nat → Prop
  | nil : Pf fmt [] [] PySem.Str.empty 0
  | lit {c : Nat} {lit rest : List Nat} {p : List Value} {T : Str} {N : Nat} : (c :: lit ++ rest).span (· != 37) = (c :: lit, rest) → ((c :: lit).length == fmt.length) = false → Pf fmt rest p T N → Pf fmt (c :: lit ++ rest) p (⟨(c :: lit).toArray⟩ ++ T) ((c :: lit).length + N)
  | d {n : Int} {u : Tok} {rest : List Nat} {p : List Value} {T : Str} {N : Nat} : 0 ≤ n → n < 10000000000 → Pf fmt rest p T N → Pf fmt (37 :: 100 :: rest) (.int n u :: p) (Str.ofString (toString n) ++ T) (10 + N)
  | s {y : Str} {u : Tok} {K : Nat} {rest : List Nat} {p : List Value} {T : Str} {N : Nat} : y.length ≤ K → Pf fmt rest p T N → Pf fmt (37 :: 115 :: rest) (.str y u :: p) (y ++ T) (K + N)
section
variable {A : Around} {E : Value → Shared → Prop} {s : Shared}
theorem turnF {β : Type} {M : Model} {l : List Nat} {x : Nat} {b : β} {f f0 : Nat → β → Sem (ForInStep β)} {Q : β → Shared → Prop} (hf : f0 = f)
    (h : wpAny M A (f0 x b) (fun r s' => match r with | .done b' => Q b' s' | .yield b' => wpAny M A (forIn l b' f) Q E s') E s) : wpAny M A (forIn (x :: l) b f) Q E s := by
  subst hf; exact KPc.turn h
end
theorem genF {β : Type} {M : Model} {A : Around} {E : Value → Shared → Prop} {s : Shared} {l : List Nat} {b : β} {f0 : Nat → β → Sem (ForInStep β)} {Q : β → Shared → Prop} (h : ∀ f, f0 = f → wpAny M A (forIn l b f) Q E s) : wpAny M A (forIn l b f0) Q E s := h f0 rfl
theorem pf_run {fmt : Str} {t : Tok} {b : Addr} {its : Array Value} {T : Str} {N : Nat} (hP : Pf fmt fmt.cps.toList its.toList T N) (hN : N ≤ 16777216) :
    Meets («str.__mod__» ⟨[.str fmt t, .ref b], []⟩) (fun _ R s => IsTup s.heap b its ∧ ∀ t' k, R (.ok (.ret (.str T t'))) { s with toks := k }) := by
  apply KPt.meets_tup
  intro pr wo A s Q E kptH hQ
  obtain ⟨kptO, kptG, kptC, kptN, kptD⟩ := kptH
  rw [KPt.entry_is_r]
  unfold Builtin.Str.percentFormat
  refine wpAny_bind (wpAny_isInstance (T := "tuple") ⟨kptO, kptG, kptC⟩ KPt.sub_tt ?_)
  refine wpAny_bind (KPt.asStr_ref kptG kptD ?_)
  refine wpAny_bind (KPt.fills_ref ⟨kptO, kptG, kptC⟩ ?_)
  intro mp
  kpc_if
  refine wpAny_bind (wpAny_seqItems kptG kptD ?_)
  refine wpAny_bind (wpAny_pure ?_)
  refine wpAny_bind ?_
  rw [KPc.range_list]
  refine KPc.start ?_
  intro w0 g0
  refine genF ?_
  intro f hf
  have loop : ∀ rest p Tr Nr, Pf fmt rest p Tr Nr → ∀ (l : List Nat) (w : Writer) (T0 : Str) (N0 : Nat), KPc.Good w T0 N0 → N0 + Nr ≤ 16777216 → rest.length ≤ l.length → ∀ (s : Shared) (Q' : List Value × Writer × List Nat → Shared → Prop),
      (∀ w' N' k, KPc.Good w' (T0 ++ Tr) N' → N' ≤ 16777216 → Q' ([], w', []) { s with toks := k }) → wpAny (model pr wo) A (forIn l (p, w, rest) f) Q' E s := by
    intro rest p Tr Nr h
    induction h with
    | nil =>
      intro l w T0 N0 g hN hl s Q' q
      have q' : Q' ([], w, []) s := q w N0 s.toks (by rw [PySem.Str.append_empty]; exact g) hN
      cases l with
      | nil => exact wpAny_pure q'
      | cons x l =>
        refine turnF hf ?_
        refine wpAny_ite (KPc.ite_no (KPc.short_good g hN) ?_)
        kpc_if
        exact wpAny_pure q'
    | @lit c lit rest p T N h1 h2 h3 ih =>
      intro l w T0 N0 g hN hl s Q' q
      cases l with
      | nil => cases hl
      | cons x l =>
      refine turnF hf ?_
      refine wpAny_ite (KPc.ite_no (KPc.short_good g (Nat.le_trans (Nat.le_add_right _ _) hN)) ?_)
      kpc_if
      rw [h1]
      kpc_if
      refine wpAny_pure ?_
      refine ih l _ _ _ (KPc.good_add g (KPc.obj_none (if_neg (by rw [h2]; exact Bool.false_ne_true)))) (by rw [Nat.add_assoc]; exact hN) (Nat.le_of_succ_le_succ (Nat.le_trans (Nat.succ_le_succ (by show rest.length ≤ (lit ++ rest).length; rw [List.length_append]; exact Nat.le_add_left _ _)) hl)) s Q' fun w' N' k g' hN' => q w' N' k (by rw [← PySem.Str.append_assoc]; exact g') hN'
    | @d n u rest p T N h1 h2 h3 ih =>
      intro l w T0 N0 g hN hl s Q' q
      cases l with
      | nil => cases hl
      | cons x l =>
      refine turnF hf ?_
      refine wpAny_ite (KPc.ite_no (KPc.short_good g (Nat.le_trans (Nat.le_add_right _ _) hN)) ?_)
      (repeat kpc_if)
      refine wpAny_bind ?_; refine wpAny_holding ?_; (repeat kpc_if); kpt_conv; refine wpAny_pure ?_; refine wpAny_pure ?_
      refine KPc.after_int g rfl (by kpc_kind) rfl h1 h2 rfl (by kpc_none) fun w2 g2 => ?_
      exact ih l _ _ _ g2 (by rw [Nat.add_assoc]; exact hN) (Nat.le_of_succ_le_succ (Nat.le_trans (Nat.le_succ _) hl)) _ Q' fun w' N' k g' hN' => q w' N' k (by rw [← PySem.Str.append_assoc]; exact g') hN'
    | @s y u K rest p T N h1 h2 ih =>
      intro l w T0 N0 g hN hl s Q' q
      cases l with
      | nil => cases hl
      | cons x l =>
      refine turnF hf ?_
      refine wpAny_ite (KPc.ite_no (KPc.short_good g (Nat.le_trans (Nat.le_add_right _ _) hN)) ?_)
      (repeat kpc_if)
      refine wpAny_bind ?_; refine wpAny_holding ?_; (repeat kpc_if); kpt_conv; refine wpAny_pure ?_; refine wpAny_pure ?_
      refine KPc.after_str g h1 ?_ fun w2 g2 => ?_
      · intro v e
        split at e
        · exact ⟨_, (Option.some.inj e).symm⟩
        · cases e
      exact ih l _ _ _ g2 (by rw [Nat.add_assoc]; exact hN) (Nat.le_of_succ_le_succ (Nat.le_trans (Nat.le_succ _) hl)) _ Q' fun w' N' k g' hN' => q w' N' k (by rw [← PySem.Str.append_assoc]; exact g') hN'
  refine loop _ _ _ _ hP _ w0 _ 0 g0 (by rw [Nat.zero_add]; exact hN) (by rw [List.length_range']; exact Nat.le_refl _) _ _ fun w' N' k g' hN' => ?_
  kpc_if
  exact KPc.finish_ok g' hN' (KPc.empty_app T) fun t' k' => hQ t' k'
section
variable {prog : Program} {w : World} {A : Around} {E : Value → Shared → Prop} {s : Shared} {t u1 u2 u3 : Tok} {Q : Value → Shared → Prop} {b L : Addr} {h₀ : Heap} {news : List (Addr × Obj)}
theorem mod_any {fmt T : Str} {its : Array Value} {N : Nat} (hN : News h₀ L s.heap news) (hb : (b, ({ cls := .type "tuple", data := .seq its } : Obj)) ∈ news) (hP : Pf fmt fmt.cps.toList its.toList T N) (hz : N ≤ 16777216)
    (h : ∀ t' k, Q (.str T t') { s with toks := k }) : wpAny (model prog w) A (binaryOp .Mod (.str fmt t) (.ref b)) Q E s := KPt.mod_tuple hN hb rfl (pf_run hP hz) h
end
theorem Pf.cast {fmt : Str} {l l' : List Nat} {p : List Value} {T T' : Str} {N : Nat} (h : Pf fmt l p T N) (e : l' = l) (e2 : T' = T) : Pf fmt l' p T' N := e ▸ e2 ▸ h
noncomputable abbrev cpl (z : Str) : List Nat := z.cps.toList
theorem Pf.tx {fmt z : Str} {rest : List Nat} {p : List Value} {T : Str} {N : Nat} (h1 : (cpl z ++ rest).span (· != 37) = (cpl z, rest)) (h2 : ((cpl z).length == fmt.length) = false) (h3 : (cpl z).isEmpty = false) (h : Pf fmt rest p T N) : Pf fmt (cpl z ++ rest) p (z ++ T) ((cpl z).length + N) := by
  have hz : z = ⟨(cpl z).toArray⟩ := congrArg PySem.Str.mk (Array.toArray_toList ..).symm
  cases e : cpl z with
  | nil => rw [e] at h3; cases h3
  | cons c lit =>
    rw [e] at h1 h2
    have := Pf.lit (c := c) (lit := lit) h1 h2 h
    rw [← e] at this ⊢
    rw [← hz] at this
    exact this
section
variable {prog : Program} {w : World} {A : Around} {E : Value → Shared → Prop} {s : Shared} {t u1 u2 u3 : Tok} {Q : Value → Shared → Prop} {b L : Addr} {h₀ : Heap} {news : List (Addr × Obj)}
theorem mod_law {kind : Str} {c n : Nat} (N : News h₀ L s.heap news) (hb : (b, ({ cls := .type "tuple", data := .seq #[.int (c : Int) u1, .str kind u2, .int (n : Int) u3] } : Obj)) ∈ news) (hk : kind.length ≤ 10) (hc : c < 10000) (hn : n < 10000)
    (h : ∀ t' k, Q (.str (exT kind c n) t') { s with toks := k }) : wpAny (model prog w) A (binaryOp .Mod (.str (Str.ofString "expected %d bytes in a %s1, but only %d remain") t) (.ref b)) Q E s := by
  refine mod_any N hb (T := exT kind c n) (Pf.cast (Pf.tx (z := Str.ofString "expected ") (by decide +kernel) (by decide +kernel) (by decide +kernel) (Pf.d (u := u1) (Int.natCast_nonneg c) (o_8 hc (by decide)) (Pf.tx (z := Str.ofString " bytes in a ") (by decide +kernel) (by decide +kernel) (by decide +kernel) (Pf.s (u := u2) hk (Pf.tx (z := Str.ofString "1, but only ") (by decide +kernel) (by decide +kernel) (by decide +kernel) (Pf.d (u := u3) (Int.natCast_nonneg n) (o_8 hn (by decide)) (Pf.tx (z := Str.ofString " remain") (by decide +kernel) (by decide +kernel) (by decide +kernel) .nil))))))) (by decide +kernel) ?_) ?_ h
  · simp only [exT, Str.append_assoc, Str.append_empty]
  · exact Nat.le_of_ble_eq_true (by decide +kernel)
theorem mod_str1 {c n : Nat} (N : News h₀ L s.heap news) (hb : (b, ({ cls := .type "tuple", data := .seq #[.int (c : Int) u1, .int (n : Int) u3] } : Obj)) ∈ news) (hc : c < 10000) (hn : n < 10000)
    (h : ∀ t' k, Q (.str (exT (Str.ofString "string") c n) t') { s with toks := k }) : wpAny (model prog w) A (binaryOp .Mod (.str (Str.ofString "expected %d bytes in a string1, but only %d remain") t) (.ref b)) Q E s := by
  refine mod_any N hb (T := exT (Str.ofString "string") c n) (Pf.cast (Pf.tx (z := Str.ofString "expected ") (by decide +kernel) (by decide +kernel) (by decide +kernel) (Pf.d (u := u1) (Int.natCast_nonneg c) (o_8 hc (by decide)) (Pf.tx (z := Str.ofString " bytes in a string1, but only ") (by decide +kernel) (by decide +kernel) (by decide +kernel) (Pf.d (u := u3) (Int.natCast_nonneg n) (o_8 hn (by decide)) (Pf.tx (z := Str.ofString " remain") (by decide +kernel) (by decide +kernel) (by decide +kernel) .nil))))) (by decide +kernel) ?_) ?_ h
  · rw [show Str.ofString " bytes in a string1, but only " = Str.ofString " bytes in a " ++ (Str.ofString "string" ++ Str.ofString "1, but only ") by decide +kernel]
    simp only [exT, Str.append_assoc, Str.append_empty]
  · exact Nat.le_of_ble_eq_true (by decide +kernel)
theorem mod_byt1 {c n : Nat} (N : News h₀ L s.heap news) (hb : (b, ({ cls := .type "tuple", data := .seq #[.int (c : Int) u1, .int (n : Int) u3] } : Obj)) ∈ news) (hc : c < 10000) (hn : n < 10000)
    (h : ∀ t' k, Q (.str (exT (Str.ofString "bytes") c n) t') { s with toks := k }) : wpAny (model prog w) A (binaryOp .Mod (.str (Str.ofString "expected %d bytes in a bytes1, but only %d remain") t) (.ref b)) Q E s := by
  refine mod_any N hb (T := exT (Str.ofString "bytes") c n) (Pf.cast (Pf.tx (z := Str.ofString "expected ") (by decide +kernel) (by decide +kernel) (by decide +kernel) (Pf.d (u := u1) (Int.natCast_nonneg c) (o_8 hc (by decide)) (Pf.tx (z := Str.ofString " bytes in a bytes1, but only ") (by decide +kernel) (by decide +kernel) (by decide +kernel) (Pf.d (u := u3) (Int.natCast_nonneg n) (o_8 hn (by decide)) (Pf.tx (z := Str.ofString " remain") (by decide +kernel) (by decide +kernel) (by decide +kernel) .nil))))) (by decide +kernel) ?_) ?_ h
  · rw [show Str.ofString " bytes in a bytes1, but only " = Str.ofString " bytes in a " ++ (Str.ofString "bytes" ++ Str.ofString "1, but only ") by decide +kernel]
    simp only [exT, Str.append_assoc, Str.append_empty]
  · exact Nat.le_of_ble_eq_true (by decide +kernel)
end
end Mine

end
section
open Mine
namespace Mine
open PySem PySem.Calls PyProof.Rows Builtin Builtin.ObjectAttr
theorem mk_by {K : Frag} {M : Model} {h : Heap} (X : K.In h) {C : Addr} {o : Obj} {cd : ClassData} (ho : K.lookup C = some o) (hc : clsIn K C = some cd) (hs : o.slots[4]? = some (some .none)) (hm : ∃ c l, cd.mro = c :: l) :
    Looks M h (Bind.madeBy (.ref C)) none := by
  have hM : Looks M h (mroOf (.ref C)) cd.mro := (looks_clsIn X hc).andThen .now
  obtain ⟨c, l, hl⟩ := hm
  intro A Q E s k q
  unfold Bind.madeBy
  refine wpAny_bind (hM A _ E s k ?_)
  rw [hl, List.forIn_cons]
  refine wpAny_bind (wpAny_bind (wpAny_bind (wpAny_bind (wpAny_loadPart (k _ _ (X _ _ ho)) (wpAny_pure ?_)))))
  dsimp only
  rw [hs]
  exact wpAny_pure (wpAny_pure (wpAny_pure q))
theorem mk_obj {M : Model} {h : Heap} : Looks M h (Bind.madeBy (.type "object")) (some "object.__new__") := by
  have hm : Looks M h (mroOf (.type "object")) [.type "object"] := Looks.of_pure (by kernel_rfl)
  have hn : Looks M h (typeLookup (.type "object") "__new__") (some (.builtin "object.__new__")) := Looks.of_pure (by rw [typeLookup_type, builtinLookup_eq_fast]; kernel_rfl)
  intro A Q E s k q
  unfold Bind.madeBy
  refine wpAny_bind (hm A _ E s k ?_)
  rw [List.forIn_cons]
  refine wpAny_bind (wpAny_bind ?_)
  dsimp only
  refine wpAny_bind (hn A _ E s k ?_)
  have e1 : ("object.__new__" : String).endsWith ".__new__" = true := by decide +kernel
  dsimp only
  simp only [e1, Bool.not_true, Bool.false_eq_true, if_false]
  exact wpAny_pure (wpAny_pure (wpAny_pure q))
theorem mk_slots {K : Frag} {M : Model} {h : Heap} (X : K.In h) {C : Addr} {cd : ClassData} (hc : clsIn K C = some cd) : Looks M h (Slots.slotNamesOf (.ref C)) cd.slotNames := by
  unfold Slots.slotNamesOf
  exact (looks_clsIn X hc).andThen .now
theorem mk_slots_obj {M : Model} {h : Heap} : Looks M h (Slots.slotNamesOf (.type "object")) [] := by
  have hm : Looks M h (mroOf (.type "object")) [.type "object"] := Looks.of_pure (by kernel_rfl)
  unfold Slots.slotNamesOf
  refine hm.andThen (Looks.of_pure ?_)
  kernel_rfl
theorem mk_adds {K : Frag} {M : Model} {h : Heap} (X : K.In h) {C : Addr} {cd : ClassData} {b : Value} (hc : clsIn K C = some cd) (hs : cd.slotNames = []) (hb : cd.bases = [b]) (hB : Looks M h (Slots.slotNamesOf b) []) :
    Looks M h (Slots.addsLayout (.ref C)) false := by
  unfold Slots.addsLayout
  refine (looks_clsIn X hc).andThen ?_
  rw [hb, hs]
  intro A Q E s k q
  dsimp only
  rw [List.forIn_cons]
  refine wpAny_bind (wpAny_bind (wpAny_bind (hB A _ E s k ?_)))
  exact wpAny_pure (wpAny_pure (wpAny_pure q))
theorem mk_adds_obj {M : Model} {h : Heap} : Looks M h (Slots.addsLayout (.type "object")) false := Looks.of_pure (by kernel_rfl)
theorem mk_solid_obj {M : Model} {h : Heap} : Looks M h (Slots.solid (.type "object")) (.type "object") := by
  have hm : Looks M h (mroOf (.type "object")) [.type "object"] := Looks.of_pure (by kernel_rfl)
  have ho := @mk_adds_obj M h
  unfold Slots.solid
  refine hm.andThen ?_
  intro A Q E s k q
  rw [List.forIn_cons]
  refine wpAny_bind (wpAny_bind (wpAny_bind (ho A _ E s k ?_)))
  dsimp only
  simp only [Bool.false_eq_true, if_false]
  split <;> exact wpAny_pure (wpAny_pure (wpAny_pure q))
theorem mk_solid1 {M : Model} {h : Heap} {C : Addr} (hm : Looks M h (mroOf (.ref C)) [.ref C, .type "object"]) (h1 : Looks M h (Slots.addsLayout (.ref C)) false) : Looks M h (Slots.solid (.ref C)) (.type "object") := by
  have ho := @mk_adds_obj M h
  unfold Slots.solid
  refine hm.andThen ?_
  intro A Q E s k q
  rw [List.forIn_cons]
  refine wpAny_bind (wpAny_bind (wpAny_bind (h1 A _ E s k ?_)))
  dsimp only
  simp only [Bool.false_eq_true, if_false]
  refine wpAny_pure ?_
  dsimp only
  rw [List.forIn_cons]
  refine (wpAny_bind (wpAny_bind (ho A _ E s k ?_)))
  dsimp only
  simp only [Bool.false_eq_true, if_false]
  split <;> exact wpAny_pure (wpAny_pure (wpAny_pure q))
theorem mk_solid2 {M : Model} {h : Heap} {C D : Addr} (hm : Looks M h (mroOf (.ref C)) [.ref C, .ref D, .type "object"]) (h1 : Looks M h (Slots.addsLayout (.ref C)) false) (h2 : Looks M h (Slots.addsLayout (.ref D)) false) : Looks M h (Slots.solid (.ref C)) (.type "object") := by
  have ho := @mk_adds_obj M h
  unfold Slots.solid
  refine hm.andThen ?_
  intro A Q E s k q
  rw [List.forIn_cons]
  refine wpAny_bind (wpAny_bind (wpAny_bind (h1 A _ E s k ?_)))
  dsimp only
  simp only [Bool.false_eq_true, if_false]
  refine wpAny_pure ?_
  dsimp only
  rw [List.forIn_cons]
  refine (wpAny_bind (wpAny_bind (h2 A _ E s k ?_)))
  dsimp only
  simp only [Bool.false_eq_true, if_false]
  refine wpAny_pure ?_
  dsimp only
  rw [List.forIn_cons]
  refine (wpAny_bind (wpAny_bind (ho A _ E s k ?_)))
  dsimp only
  simp only [Bool.false_eq_true, if_false]
  split <;> exact wpAny_pure (wpAny_pure (wpAny_pure q))
theorem mk_best {M : Model} {h : Heap} {b : Value} {r : Value} (hs : Looks M h (Slots.solid b) r) : Looks M h (Slots.bestBase [b]) b := by
  unfold Slots.bestBase
  intro A Q E s k q
  dsimp only
  rw [List.forIn_cons]
  refine wpAny_bind (wpAny_bind (wpAny_bind (hs A _ E s k ?_)))
  exact wpAny_pure (wpAny_pure (wpAny_pure q))
theorem mk_base {K : Frag} {M : Model} {h : Heap} (X : K.In h) {C B D : Addr} {cC cB cD : ClassData} (hC : clsIn K C = some cC) (hB : clsIn K B = some cB) (hD : clsIn K D = some cD)
    (mC : cC.mro = [.ref C, .ref B, .ref D, .type "object"]) (bC : cC.bases = [.ref B]) (bB : cB.bases = [.ref D]) (bD : cD.bases = [.type "object"])
    (sB : Looks M h (Slots.solid (.ref B)) (.type "object")) (sD : Looks M h (Slots.solid (.ref D)) (.type "object"))
    (yC : Looks M h (Bind.madeBy (.ref C)) none) (yB : Looks M h (Bind.madeBy (.ref B)) none) (yD : Looks M h (Bind.madeBy (.ref D)) none) :
    Looks M h (Bind.staticBase (.ref C)) (.type "object") := by
  unfold Bind.staticBase
  intro A Q E s k q
  dsimp only
  have hm : Looks M h (mroOf (.ref C)) cC.mro := (looks_clsIn X hC).andThen .now
  refine wpAny_bind (hm A _ E s k ?_)
  rw [mC, List.forIn_cons]
  refine wpAny_bind (wpAny_bind (wpAny_bind (yC A _ E s k ?_)))
  dsimp only [Option.isSome]
  simp only [Bool.false_eq_true, if_false]
  refine wpAny_bind ((looks_clsIn X hC) A _ E s k ?_)
  rw [bC]
  refine wpAny_bind (mk_best sB A _ E s k (wpAny_pure ?_))
  dsimp only
  rw [List.forIn_cons]
  refine (wpAny_bind (wpAny_bind (yB A _ E s k ?_)))
  dsimp only [Option.isSome]
  simp only [Bool.false_eq_true, if_false]
  refine wpAny_bind ((looks_clsIn X hB) A _ E s k ?_)
  rw [bB]
  refine wpAny_bind (mk_best sD A _ E s k (wpAny_pure ?_))
  dsimp only
  rw [List.forIn_cons]
  refine (wpAny_bind (wpAny_bind (yD A _ E s k ?_)))
  dsimp only [Option.isSome]
  simp only [Bool.false_eq_true, if_false]
  refine wpAny_bind ((looks_clsIn X hD) A _ E s k ?_)
  rw [bD]
  refine wpAny_bind (mk_best mk_solid_obj A _ E s k (wpAny_pure ?_))
  dsimp only
  rw [List.forIn_cons]
  refine (wpAny_bind (wpAny_bind (mk_obj A _ E s k ?_)))
  exact wpAny_pure (wpAny_pure (wpAny_pure q))
theorem mk_here {M : Model} {h : Heap} {C : Addr} (hb : Looks M h (Bind.staticBase (.ref C)) (.type "object")) : Looks M h (Bind.madeHere "object.__new__" (.ref C)) () := by
  unfold Bind.madeHere
  exact hb.andThen (mk_obj.andThen (Looks.of_pure (by simp only [Option.map_some, bne_self_eq_false, Bool.false_eq_true, if_false])))
section
variable {prog : Program} {w : World} {A : Around} {K : Frag} {C : Addr} {R : Result → Shared → Prop} {h : Heap} {g : Array GenState} {d : Drawn} {t : Nat} {os : OsState}
theorem mk_new {oc : Value} {od : Option Addr} {cd : ClassData} {sl : Array (Option Value)} (hC : h.get? C = some ⟨oc, od, .cls cd, sl⟩) (e1 : cd.abstract = false) (e2 : cd.hasDel = false) (typ : Looks (model prog w) h (isInstance (.ref C) (.type "type")) true) (top : Looks (model prog w) h (isSubtype (.ref C) (.type "object")) true) (self : Looks (model prog w) h (isSubtype (.ref C) (.ref C)) true)
    (base : Looks (model prog w) h (Bind.staticBase (.ref C)) (.type "object"))
    (hq : R (.ok (.ret (.ref (h.objs.size + 1)))) ⟨(h.push emptyDict).push (instObj C h.objs.size), g, d, t, os⟩) :
    codeAny (model prog w) A (.call (.builtin "object.__new__") ⟨[.ref C], []⟩) R ⟨h, g, d, t, os⟩ := by
  have F := PySem.F.objNew
  have here := mk_here base
  have mo := @mk_obj (model prog w) h
  refine codeAny_call_builtin_code (Code.quiet_builtin _ F.quiet) ?_
  simp only [checkBuiltinCall, F.kind, F.split, F.row]
  have args : Bind.checkArgs "object.__new__" ⟨.hand, "object.__new__", "__new__", .cls, []⟩ ⟨[.ref C], []⟩ = pure () := by kernel_rfl
  rw [args]
  repeat (first | kpc_if | lk | (rw [bne_self_eq_false, if_neg Bool.false_ne_true]) | simp only [bne_self_eq_false, Bool.false_eq_true, if_false])
  refine codeAny_builtin F.entry ?_
  unfold Builtin.«object.__new__»
  have fin : ∀ A', wpAny (model prog w) A' (do
      let d ← if typeHasDict (.ref C) then some <$> alloc { cls := .type "dict", data := .dict #[] } else pure none
      ret (← newObj (.ref C) .plain d)) (fun fin s' => match fin with | .done f => R (.ok f) s' | .again c' => c'.quiet = true ∧ codeAny (model prog w) A c' R s') (fun e s' => R (.error e) s') ⟨h, g, d, t, os⟩ := by
    intro A'
    show wpAny _ _ ((alloc emptyDict >>= fun x => pure (some x)) >>= _) _ _ _
    refine wpAny_bind (wpAny_bind (wpAny_alloc (wpAny_pure (wpAny_bind ?_))))
    show wpAny _ _ (newObjAsIs _ _ _) _ _ _
    unfold newObjAsIs classHasDel
    refine wpAny_bind (wpAny_alloc (wpAny_bind (wpAny_bind (wpAny_load (Heap.get?_push_of_some _ (Heap.get?_push_of_some _ hC)) (wpAny_pure ?_)))))
    rw [e2]
    refine wpAny_pure (wpAny_pure ?_)
    show R _ _
    rw [Heap.size_push]
    exact hq
  repeat (first | exact fin _ | kpc_if | lk | (rw [e1]; kpc_if) | simp only [e1, Bool.false_eq_true, if_false])
end
end Mine

end
section
open Mine
namespace Mine
open PySem PySem.Calls PyProof.Rows Builtin Builtin.ObjectAttr
noncomputable abbrev Back (Q E : Value → Shared → Prop) : Result → Shared → Prop := fun r s' => match r with | .ok (.ret v) => Q v s' | .ok _ => False | .error e => E e s'
noncomputable def MadeX (K : Frag) (M : Model) (A : Around) (C fI : Addr) (rest : List Value) (Q E : Value → Shared → Prop) (nv : Value) (s' : Shared) : Prop :=
  ∃ x ox, nv = .ref x ∧ K.In s'.heap ∧ s'.heap.get? x = some ox ∧ ox.cls = .ref C ∧ codeAny M A (.call (.ref fI) ⟨.ref x :: rest, []⟩) (InitBack x (Back Q E)) s'
section
variable {prog : Program} {w : World} {A : Around} {K : Frag} {C : Addr} {s : Shared} {h₀ : Heap} {L : Addr} {m : Str → Option Value} {news : List (Addr × Obj)} {Q E : Value → Shared → Prop}
theorem mk_call {rest : List Value} {fI p : Addr} {f : Value} {tl : List Value} (F : Fr h₀ L s.heap m) (X₀ : K.In h₀)
    (ho : (match K.lookup C with | some ⟨_, _, .cls cd, sl⟩ => !cd.mro.isEmpty && cd.mro.contains (.ref C) && (sl[4]?).join == some .none | _ => false) = true)
    (hc : specialIn K (.ref C) "__call__" = some (some (.builtin "type.__call__"))) (ht : instIn K (.ref C) (.type "type") = some true)
    (hr : readsIn K C (.type "type") = true) (htp : typeIn K (.ref C) = some (.type "type"))
    (hn : findCls K (.ref C) (.type "type") "__new__" = some (.get (.builtin "staticmethod.__get__") (.ref p) .none (.ref C))) (hp : recIn K p "staticmethod" = some (f :: tl)) (hv : handedIn f = true)
    (hi : findIn K (.ref C) "__init__" = some (some (.ref fI))) (hf : isFn K (.ref fI) = true)
    (h : wpAny (model prog w) (A.under (.builtin "type.__call__" ⟨.ref C :: rest, []⟩)) (call f (.ref C :: rest) []) (MadeX K (model prog w) (A.under (.builtin "type.__call__" ⟨.ref C :: rest, []⟩)) C fI rest Q E) E { s with toks := s.toks + 1 }) :
    wpAny (model prog w) A (call (.ref C) rest []) Q E s := by
  refine wpAny_call ?_
  have X := X₀.keeps F.keep
  split at ho
  · rename_i oc od cd sl hK
    simp only [Bool.and_eq_true, Bool.not_eq_true', beq_iff_eq] at ho
    obtain ⟨⟨e1, e2⟩, e3⟩ := ho
    have hC := X _ _ hK
    have hcl : clsIn K C = some cd := by unfold clsIn; rw [hK]
    have e3' : sl[4]? = some (some .none) := by cases q : sl[4]? with | none => rw [q] at e3; cases e3 | some y => rw [q] at e3; exact congrArg some e3
    obtain ⟨c, l, hl⟩ : ∃ c l, cd.mro = c :: l := by cases q : cd.mro with | nil => rw [q] at e1; cases e1 | cons c l => exact ⟨c, l, rfl⟩
    have call : Looks (model prog w) s.heap (specialOf (.ref C) "__call__") (some (.builtin "type.__call__")) := looks_specialIn X hc
    have typ : Looks (model prog w) s.heap (isInstance (.ref C) (.type "type")) true := looks_instIn X ht
    have made : Looks (model prog w) s.heap (Bind.madeBy (.ref C)) none := mk_by X hK hcl e3' ⟨c, l, hl⟩
    have hm : Looks (model prog w) s.heap (mroOf (.ref C)) cd.mro := (looks_clsIn X hcl).andThen .now
    refine codeAny_of_tree ?_
    show wpAny _ _ (callAny (.ref C) _) _ _ _
    refine nd_load hC ?_
    show wpAny _ _ (callAny.viaDunder (.ref C) _) _ _ _
    unfold callAny.viaDunder
    refine wpAny_bind (call.here ?_)
    dsimp only
    rw [tc_bind]
    refine wpAny_bind (wpAny_pure (wpAny_bind (wpAny_pure ?_)))
    refine wpAny_pure (a := Fin.again (.call (.builtin "type.__call__") ⟨.ref C :: rest, []⟩)) (And.intro rfl ?_)
    refine codeAny_call_builtin_at (Code.quiet_builtin _ (by decide +kernel)) entry_typeCall (check_slot tc_kind tc_split typ (tc_args _ _ _) ?_)
    unfold Builtin.«type.__call__»
    have e0 : (Value.ref C == Value.type "type") = false := rfl
    simp only [e0, Bool.false_eq_true, if_false]
    refine wpAny_bind (hm.here ?_)
    rw [hl]
    simp only [List.isEmpty, Bool.false_eq_true, if_false]
    refine wpAny_bind (made.here ?_)
    dsimp only
    refine wpAny_bind (cls_sm F X₀ htp hr hn hp hv ?_)
    refine wpAny_bind (wpAny_holding (wpAny_mono h (fun nv s' hM => ?_) fun e s' z => z))
    obtain ⟨x, ox, rfl, X', hx, hxc, hI⟩ := hM
    have t1 : Looks (model prog w) s'.heap (typeOf (.ref x)) (.ref C) := by rw [← hxc]; exact (Looks.ld hx).andThen .now
    have self : Looks (model prog w) s'.heap (isSubtype (.ref C) (.ref C)) true := looks_mroIn X' (by unfold mroIn; rw [hcl, Option.bind_some, if_neg (by rw [e1]; decide), e2])
    have i1 : Looks (model prog w) s'.heap (isInstance (.ref x) (.ref C)) true := t1.andThen self
    have l1 : Looks (model prog w) s'.heap (specialOf (.ref x) "__init__") (some (.ref fI)) := t1.andThen (looks_findIn X' hi)
    have b1 : Looks (model prog w) s'.heap (bindSpecial (.ref fI) (.ref x)) (.ref fI, [.ref x]) := bind_fn X' _ (beq_iff_eq.mp hf)
    refine wpAny_bind (i1.here ?_)
    simp only [Bool.not_true, Bool.false_eq_true, if_false]
    unfold callSpecial?
    refine wpAny_bind (wpAny_holding (wpAny_bind (l1.here ?_)))
    dsimp only
    refine wpAny_holding (wpAny_bind (b1.here ?_))
    dsimp only
    refine wpAny_bind (wpAny_call ?_)
    refine codeAny_mono hI fun r s' z => ?_
    rcases r with e | (v | _ | _ | _) <;> first | exact z | exact z.elim | skip
    obtain ⟨rfl, z⟩ := z
    exact wpAny_pure (wpAny_pure z)
  · cases ho
end
end Mine

end
section
open Mine
namespace Mine
open PySem PySem.Calls PyProof.Rows Builtin Builtin.ObjectAttr
noncomputable def mkChk (K : Frag) (C B D : Addr) : Bool :=
  (match K.lookup C, K.lookup B, K.lookup D with
  | some ⟨_, _, .cls c, s1⟩, some ⟨_, _, .cls b, s2⟩, some ⟨_, _, .cls d, s3⟩ =>
    (s1[4]?).join == some .none && (s2[4]?).join == some .none && (s3[4]?).join == some .none
    && c.mro == [.ref C, .ref B, .ref D, .type "object"] && b.mro == [.ref B, .ref D, .type "object"] && d.mro == [.ref D, .type "object"]
    && c.bases == [.ref B] && b.bases == [.ref D] && d.bases == [.type "object"]
    && b.slotNames == [] && d.slotNames == [] && !c.abstract && !c.hasDel
  | _, _, _ => false) && instIn K (.ref C) (.type "type") == some true
theorem slot_join {sl : Array (Option Value)} {v : Value} (e3 : (sl[4]?).join = some v) : sl[4]? = some (some v) := by cases q : sl[4]? with | none => rw [q] at e3; cases e3 | some y => rw [q] at e3; exact congrArg some e3
theorem mk_newK {prog : Program} {w : World} {A : Around} {K : Frag} {C B D : Addr} {s : Shared} {h₀ : Heap} {L : Addr} {m : Str → Option Value} {news : List (Addr × Obj)} {Q E : Value → Shared → Prop}
    (F : Fr h₀ L s.heap m) (N : News h₀ L s.heap news) (X₀ : K.In h₀) (e : mkChk K C B D = true)
    (h : ∀ x dx h', Fr h₀ L h' m → News h₀ L h' ((x, instObj C dx) :: (dx, dictOf [] 0) :: news) → (∀ p ∈ news, p.1 < dx) → dx < x → Q (.ref x) { s with heap := h' }) :
    wpAny (model prog w) A (call (.builtin "object.__new__") [.ref C] []) Q E s := by
  have X := X₀.keeps F.keep
  refine wpAny_call ?_
  unfold mkChk at e
  simp only [Bool.and_eq_true] at e
  obtain ⟨e, ht⟩ := e
  split at e
  · rename_i oc1 od1 c s1 oc2 od2 b s2 oc3 od3 d s3 hC hB hD
    simp only [Bool.and_eq_true, Bool.not_eq_true', beq_iff_eq] at e ht
    obtain ⟨⟨⟨⟨⟨⟨⟨⟨⟨⟨⟨⟨f1, f2⟩, f3⟩, mC⟩, mB⟩, mD⟩, bC⟩, bB⟩, bD⟩, sB⟩, sD⟩, ab⟩, hd⟩ := e
    have cC : clsIn K C = some c := by unfold clsIn; rw [hC]
    have cB : clsIn K B = some b := by unfold clsIn; rw [hB]
    have cD : clsIn K D = some d := by unfold clsIn; rw [hD]
    have yC : Looks (model prog w) s.heap (Bind.madeBy (.ref C)) none := mk_by X hC cC (slot_join f1) ⟨_, _, mC⟩
    have yB : Looks (model prog w) s.heap (Bind.madeBy (.ref B)) none := mk_by X hB cB (slot_join f2) ⟨_, _, mB⟩
    have yD : Looks (model prog w) s.heap (Bind.madeBy (.ref D)) none := mk_by X hD cD (slot_join f3) ⟨_, _, mD⟩
    have aD : Looks (model prog w) s.heap (Slots.addsLayout (.ref D)) false := mk_adds X cD sD bD mk_slots_obj
    have aB : Looks (model prog w) s.heap (Slots.addsLayout (.ref B)) false := mk_adds X cB sB bB (by rw [← sD]; exact mk_slots X cD)
    have moB : Looks (model prog w) s.heap (mroOf (.ref B)) [.ref B, .ref D, .type "object"] := by rw [← mB]; exact (looks_clsIn X cB).andThen .now
    have moD : Looks (model prog w) s.heap (mroOf (.ref D)) [.ref D, .type "object"] := by rw [← mD]; exact (looks_clsIn X cD).andThen .now
    have base := mk_base X cC cB cD mC bC bB bD (mk_solid2 moB aB aD) (mk_solid1 moD aD) yC yB yD
    have iC : ∀ v, v ∈ c.mro → Looks (model prog w) s.heap (isSubtype (.ref C) v) true := fun v hv => looks_mroIn X (by
      unfold mroIn; rw [cC, Option.bind_some, if_neg (by rw [mC]; exact Bool.noConfusion)]; exact congrArg some (List.contains_iff_mem.mpr hv))
    obtain ⟨hh, g, dr, t, os⟩ := s
    refine mk_new (X _ _ hC) ab hd (looks_instIn X ht) (iC _ (by rw [mC]; simp)) (iC _ (by rw [mC]; simp)) base ?_
    have N2 := (N.push F emptyDict).push (F.push _) (instObj C hh.objs.size)
    rw [Heap.size_push] at N2
    exact h _ hh.objs.size _ ((F.push _).push _) N2 (fun p hp => Heap.lt_size (N p hp).1) (Nat.lt_succ_self _)
  · cases e
theorem mk_fin {K : Frag} {M : Model} {A : Around} {C fI x dx L : Addr} {rest : List Value} {Q E : Value → Shared → Prop} {s' : Shared} {h₀ : Heap} {m : Str → Option Value} {news : List (Addr × Obj)} (F : Fr h₀ L s'.heap m) (X : K.In h₀) (N : News h₀ L s'.heap news) (hm : (x, instObj C dx) ∈ news)
    (h : codeAny M A (.call (.ref fI) ⟨.ref x :: rest, []⟩) (InitBack x (Back Q E)) s') : MadeX K M A C fI rest Q E (.ref x) s' := ⟨x, _, rfl, X.keeps F.keep, (N _ hm).1, rfl, h⟩
end Mine

end
section
open Mine
namespace Mine
open PySem.Builtin
theorem dn_mro : mroOf (.type "collections.deque") = pure [.type "collections.deque", .type "object"] := by rw [mroOf_type]; kernel_rfl
theorem dn_lookup_new : typeLookup (.type "collections.deque") "__new__" = pure (some (.builtin "collections.deque.__new__")) := by rw [typeLookup_type, builtinLookup_eq_fast]; kernel_rfl
theorem dn_slot_init : Slot "collections.deque" "__init__" "collections.deque.__init__" :=
  .of (owner := "collections.deque") (n := "__init__") (by rw [typeLookup_type, builtinLookup_eq_fast]; kernel_rfl) (by decide +kernel) (by decide +kernel) (by decide +kernel)
    (by first | exact .inl (by decide +kernel) | exact .inr (by decide +kernel)) (by rw [isSubtype_type]; kernel_rfl)
theorem dn_called : TypeCalled "collections.deque" "collections.deque.__new__" "collections.deque.__init__" :=
  ⟨by decide +kernel, by decide +kernel, ⟨_, _, dn_mro⟩, madeBy_type dn_mro dn_lookup_new (by decide +kernel), by decide +kernel, by rw [isSubtype_type]; kernel_rfl, dn_slot_init⟩
theorem dn_typeCall : checkTypeCall "collections.deque" ⟨[], []⟩ = pure () := by kernel_rfl
theorem dn_newCall : checkBuiltinCall "collections.deque.__new__" ⟨[.type "collections.deque"], []⟩ = pure () := by kernel_rfl
theorem dn_plain : plainId "collections.deque.__new__" = true := by decide +kernel
theorem dn_entry : entryFor table "collections.deque.__new__" = some Builtin.«collections.deque.__new__» := entryFor_of_tree (by kernel_rfl)
theorem dn_entry_init : entryFor table "collections.deque.__init__" = some Builtin.«collections.deque.__init__» := entryFor_of_tree (by kernel_rfl)
theorem dn_sub : isSubtype (.type "collections.deque") (.type "collections.deque") = pure true := by rw [isSubtype_type]; kernel_rfl
theorem dn_istype : isInstance (.type "collections.deque") (.type "type") = pure true := by kernel_rfl
theorem dn_args_init (a : Value) : argsOk "collections.deque.__init__" ⟨[a], []⟩ := by
  unfold argsOk; rw [signature?_of (id := "collections.deque.__init__") (n := ['_', '_', 't', 'i', 'n', 'i', '_', '_']) (o := ['e', 'u', 'q', 'e', 'd', '.', 's', 'n', 'o', 'i', 't', 'c', 'e', 'l', 'l', 'o', 'c']) (by kernel_rfl) owner_deque]; kernel_rfl
section
variable {prog : Program} {w : World} {A : Around} {E : Value → Shared → Prop} {s : Shared} {h₀ : Heap} {L D : Addr} {m : Str → Option Value} {news news' : List (Addr × Obj)} {n : Int} {xs : List Value}
theorem dn_new {Q₁ : Value → Shared → Prop} (F : Fr h₀ L s.heap m) (N : News h₀ L s.heap news)
    (h : ∀ d h', Fr h₀ L h' m → News h₀ L h' ((d, dqO 0 []) :: news) → (∀ p ∈ news, p.1 < d) → Q₁ (.ref d) { s with heap := h' }) :
    codeAny (model prog w) A (.call (.builtin "collections.deque.__new__") ⟨[.type "collections.deque"], []⟩) (wants Q₁ E) s := by
  refine codeAny_of_tree ?_
  show wpAny _ A.in1 (do checkBuiltinCall "collections.deque.__new__" ⟨[.type "collections.deque"], []⟩; again (.builtin "collections.deque.__new__" ⟨[.type "collections.deque"], []⟩)) _ _ s
  refine wpAny_bind (wpAny_of_eq dn_newCall (wpAny_pure ⟨plainId_quiet dn_plain _, codeAny_builtin dn_entry ?_⟩))
  unfold Builtin.«collections.deque.__new__» Deque.newArgs isType
  refine wpAny_bind (wpAny_bind (wpAny_of_eq dn_istype ?_))
  simp only [Bool.not_true, Bool.false_eq_true, if_false]
  refine wpAny_bind (wpAny_of_eq dn_sub ?_)
  simp only [Bool.not_true, Bool.false_eq_true, if_false]
  refine wpAny_pure ?_
  unfold Deque.new
  obtain ⟨hp, g, d, tk, os⟩ := s
  refine wpAny_bind ?_
  wp_walk
  exact h hp.objs.size _ (F.push _) (N.push F _) (fun p hp => Heap.lt_size (N p hp).1)
theorem dn_make {Q : Value → Shared → Prop} (F : Fr h₀ L s.heap m) (N : News h₀ L s.heap news)
    (h : ∀ d h', Fr h₀ L h' m → News h₀ L h' ((d, dqO 0 []) :: news) → (∀ p ∈ news, p.1 < d) → Q (.ref d) { s with heap := h' }) :
    wpAny (model prog w) A (call (.type "collections.deque") [] []) Q E s := by
  refine callType_codes (Q₁ := fun obj s₁ => ∃ d h', obj = .ref d ∧ s₁ = { s with heap := h' } ∧ Fr h₀ L h' m ∧ News h₀ L h' ((d, dqO 0 []) :: news) ∧ (∀ p ∈ news, p.1 < d)) dn_called dn_typeCall dn_entry_init
    (dn_new F N fun d h' F' N' l => ⟨d, h', rfl, rfl, F', N', l⟩) ?_
  rintro _ _ ⟨d, h', rfl, rfl, F', N', l⟩
  have z := N' _ (.head _)
  refine ⟨⟨_, z.1, rfl⟩, dn_args_init _, ?_⟩
  show wpAny _ _ (do setField (.ref d) 0 .none; Deque.clear (.ref d); ret .none) _ _ _
  have b : ∀ p ∈ news, p.1 ≠ d := fun p hp => Nat.ne_of_lt (l p hp)
  refine wpAny_bind (wpAny_setField z.1 rfl (by decide) ?_)
  have F2 : Fr h₀ L (h'.update d (Obj.mapFields (·.setIfInBounds 0 .none))) m := F'.change (Heap.SameBut.update ..) z.2.1 z.2.2
  have N2 : News h₀ L (h'.update d (Obj.mapFields (·.setIfInBounds 0 .none))) ((d, dqO 0 []) :: news) := by
    refine news_set (pre := []) N' (fun _ hp => nomatch hp) b (Heap.SameBut.update ..) ?_
    rw [Heap.get?_update_self _ z.1 rfl]
    rfl
  unfold Deque.clear Deque.items
  refine wpAny_bind (wpAny_bind (wpAny_bind (wpAny_fieldsOf (N2 _ (.head _)).1 rfl (wpAny_pure ?_))))
  refine wpAny_pure (wpAny_pure ⟨rfl, h d _ F2 N2 l⟩)
end
end Mine

end
section
open Mine
theorem Mine.pre_Sn : PySem.Challenge.rw_in0151_02 = PySem.Challenge.rw_in0151_02 ∧ Mine.KK = Mine.KK := by
  k_with_none
  k_fill
  k_with "om" => (first | with_reducible assumption | exact Nat.le_of_ble_eq_true rfl | with_reducible exact Nat.ne_of_lt (by assumption) | with_reducible exact Nat.ne_of_gt (by assumption) | with_reducible exact Nat.le_of_lt (by assumption) | with_reducible exact Nat.le_refl _ | with_reducible exact Nat.le_add_right _ _ | with_reducible exact Nat.lt_add_one _ | with_reducible exact Nat.succ_le_of_lt (by assumption) | with_reducible exact Nat.lt_of_succ_le (by assumption) | with_reducible exact Int.ofNat_lt.mpr (by assumption) | with_reducible exact Int.natCast_nonneg _ | with_reducible exact Mine.o_n (by assumption) | with_reducible exact Mine.o_l (by assumption) | with_reducible exact Mine.o_i (by assumption) (by assumption) | with_reducible exact Mine.o_k (by assumption) (by assumption) | with_reducible exact Mine.o_m (by assumption) (by assumption) | with_reducible exact Mine.o_w (by assumption) | with_reducible exact Mine.o_v (by assumption) (by assumption) (by assumption) | with_reducible exact Mine.o_s (by assumption) | with_reducible exact Mine.o_t (by assumption) | with_reducible exact Mine.o_17 (by assumption) | with_reducible exact Mine.o_y (by assumption) (by assumption) | with_reducible exact Mine.o_z (by assumption) (by assumption) | with_reducible exact Mine.o_y2 (by assumption) (by assumption) | exact Mine.o_a (a := 10000) (by with_reducible assumption) rfl | exact Mine.o_a (a := 9000) (by with_reducible assumption) rfl | exact Mine.o_a (a := 256) (by with_reducible assumption) rfl | exact Mine.o_a (a := 300) (by with_reducible assumption) rfl | exact Mine.o_a (by with_reducible assumption) rfl | exact Mine.o_b (a := 10000) (by with_reducible assumption) rfl | exact Mine.o_b (a := 9000) (by with_reducible assumption) rfl | exact Mine.o_b (a := 256) (by with_reducible assumption) rfl | exact Mine.o_b (by with_reducible assumption) rfl | exact Mine.o_c (by with_reducible assumption) rfl | exact Mine.o_d (by with_reducible assumption) rfl | exact Mine.o_e (by with_reducible assumption) rfl | exact Mine.o_f (by with_reducible assumption) rfl | exact Mine.o_g (by with_reducible assumption) rfl | exact Mine.o_h (by with_reducible assumption) rfl | exact Mine.o_1 (by with_reducible assumption) rfl | exact Mine.o_2 (by with_reducible assumption) rfl | exact Mine.o_3 (by with_reducible assumption) rfl | exact Mine.o_4 (by with_reducible assumption) rfl | with_reducible exact Mine.o_5 (by assumption) | exact Mine.o_6 (by with_reducible assumption) rfl | exact Mine.o_7 (by with_reducible assumption) rfl | exact Mine.o_12 (by with_reducible assumption) (by with_reducible assumption) rfl | exact Mine.o_13 (by with_reducible assumption) (by with_reducible assumption) rfl | exact Mine.o_14 (by with_reducible assumption) (by with_reducible assumption) rfl | exact Mine.o_15 (by with_reducible assumption) (by with_reducible assumption) rfl | with_reducible exact Mine.o_18 (by assumption) (by assumption) | with_reducible exact Mine.o_11 (by assumption) (by assumption) | with_reducible exact Mine.o_x (by assumption) (by assumption) | with_reducible exact Nat.ne_of_lt (Nat.lt_trans (by assumption) (by assumption)) | with_reducible exact Nat.ne_of_gt (Nat.lt_trans (by assumption) (by assumption)) | with_reducible exact Mine.o_r (by assumption) (by assumption) | with_reducible exact Mine.o_o (by assumption) (by assumption) | with_reducible exact Mine.o_p (by assumption) (by assumption) | with_reducible exact Mine.o_q (by assumption) (by assumption) | with_reducible exact Mine.o_u (by assumption) (by assumption) | with_reducible exact Mine.o_j (by assumption) (by assumption) | with_reducible exact Mine.o_20 (by assumption) | with_reducible exact Mine.o_21 (by assumption) | with_reducible exact Mine.o_22 (by assumption) | with_reducible exact Mine.o_23 (by assumption) | with_reducible exact Mine.o_24 (by assumption) | with_reducible exact Mine.o_28 (by assumption) | with_reducible exact Mine.o_29 (by assumption) | with_reducible exact Mine.o_31 (by assumption) | with_reducible exact Mine.o_25 (by assumption) (by assumption) (by assumption) | with_reducible exact Mine.o_26 (by assumption) (by assumption) (by assumption) | with_reducible exact Mine.o_27 (by assumption) (by assumption) | with_reducible exact Mine.o_30 (by assumption) (by assumption) | exact Mine.o_19 (by with_reducible assumption) (by with_reducible assumption) rfl | fail "om")
  k_with "my enter" => (refine' code_def ?k1_z ?k2_z ?k3_z ?k4_z ?k5_z ?kA_z ?kF_z ?kK_z ?k6_z ?k7_z ?k8_z ?k9_z ?kB_z ?_ ?c2_z ?c3_z ?c4_z ?c5_z; (case kA_z => exact rfl); (case kF_z => exact rfl); (case kK_z => first | exact rfl | assumption); (case k1_z => k_asm); (case k2_z => k_asm); (case k3_z => k_asm); (case k4_z => k_asm); (case k5_z => k_asm); (case k6_z => k_is); (case k7_z => k_is); (case k8_z => ktr_room); (case k9_z => first | exact BindsTo.of_eq rfl | exact binds_K (by k_in) rfl (by k_is) rfl rfl rfl); (case c5_z => decide); (case kB_z => exact locs rfl); (case c2_z => exact rfl); (case c3_z => exact rfl); (case c4_z => exact rfl); k_whole; intro G LL h1 FG F1 N1 B1 X1 T1; (try dsimp only); (try k_lift B1); (try k_fold))
  k_with "call builtin:str.find" => (refine Mine.find4 (by first | rfl | omega) ?_)
  k_with "truthy str" => ((with_reducible show wpAny _ _ (PySem.truthy (Value.str (Str.mk (List.toArray _)) _)) _ _ _); (refine Mine.truthy_T (by first | assumption | omega) ?_); intro _)
  k_with "truthy str" => ((with_reducible show wpAny _ _ (PySem.truthy (Value.str (Str.mk (List.toArray [_])) _)) _ _ _); (refine Mine.truthy_one ?_); intro _)
  k_with "compareOp In str str" => ((with_reducible show wpAny _ _ (compareOp CmpOp.In (Value.str (Str.mk (List.toArray [_])) _) _) _ _ _); first | refine Mine.in_ws ?_ | refine Mine.in_cm ?_ | refine Mine.in_es ?_ | refine Mine.in_dt ?_ | refine Mine.in_wc ?_ | refine Mine.in_none ?_ | refine Mine.in_qs ?_)
  k_with "inplaceOp Add str str" => ((with_reducible show wpAny _ _ (inplaceOp _ (Value.str (Str.mk (List.toArray _)) _) (Value.str (Str.mk (List.toArray _)) _)) _ _ _); (refine Mine.iadd_T (by first | omega | (simp only [List.length_append, List.length_cons, List.length_nil] at *; omega)) ?_); intro _ _)
  k_with "compareOp Eq str str" => ((with_reducible show wpAny _ _ (compareOp CmpOp.Eq (Value.str (Str.mk (List.toArray [_])) _) _) _ _ _); ((with_reducible first | refine Mine.eq_nl ?_ ?_ | refine Mine.eq_sp ?_ ?_ | refine Mine.eq_lc ?_ ?_ | refine Mine.eq_hs ?_ ?_ | refine Mine.eq_dq ?_ ?_ | refine Mine.eq_bs ?_ ?_ | refine Mine.eq_dd ?_ ?_) <;> (intro hspz; first | (exfalso; revert hspz; decide) | (subst hspz) | skip)))
  k_with "compareOp NotEq str str" => ((with_reducible show wpAny _ _ (compareOp CmpOp.NotEq (Value.str (Str.mk (List.toArray [_])) _) _) _ _ _); ((with_reducible refine Mine.ne_dd ?_ ?_) <;> (intro hspz; first | (exfalso; revert hspz; decide) | (subst hspz) | skip)))
  k_with "exec If" => refine wpAny_If ?_
  k_with "call type:ValueError" => (k_dflt (refine Mine.raise_VE ?_); intro h'z ez hmxz)
  k_with "leaving ref" => (k_dflt (refine' leave_raiseS ?k1_z (Heap.MadeExc.of ?k2_z) ?k3_z ?k4_z ?_; (case k1_z => assumption); (case k2_z => assumption); (case k3_z => assumption); (case k4_z => assumption)); intro h'z t'z R1z R2z U1z)
  k_with "subscriptTail Name Name str int" => (k_dflt (refine Mine.item_T (by omega) (by omega) ?_; intro cz s'z hsufz tkz kz))
  k_with "subscriptTail Name Name str int" => (k_dflt (refine Mine.item_H (by assumption) (by omega) ?_; intro tkz kz))
  k_with "call ref" => (k_here; (with_reducible show wpAny _ _ (call (Value.ref 554) [Value.ref _, Value.int _ _]) _ _ _); k_dflt (refine' Mine.rd1_at ?k1_z ?k2_z ?k3_z ?k4_z ?k5_z ?kK_z ?km_z ?kU_z ?kn_z ?kp_z ?kd_z ?ku_z ?_ ?_; (case k1_z => k_asm); (case k2_z => k_asm); (case k3_z => k_asm); (case k4_z => k_asm); (case k5_z => k_asm); (case kK_z => first | exact rfl | assumption); (case km_z => k_mem); (case kU_z => k_updF); (case kn_z => omega); (case kp_z => constructor <;> omega); (case kd_z => ktr_room); (case ku_z => ktr_units); all_goals (intro cz s'z hsufz h'z tk'z tz t'z F'z N'z; (try dsimp only at N'z); (try k_sweep))))
  k_with "call ref" => (k_here; (try simp only [List.nil_append, List.cons_append, List.append_nil]); (with_reducible show wpAny _ _ (call (Value.ref 562) [Value.ref _]) _ _ _); k_dflt (refine' Mine.rl_at ?k1_z ?k2_z ?k3_z ?k4_z ?k5_z ?kK_z ?km_z ?kU_z ?kn_z ?kp_z ?kd_z ?ku_z ?_; (case k1_z => k_asm); (case k2_z => k_asm); (case k3_z => k_asm); (case k4_z => k_asm); (case k5_z => k_asm); (case kK_z => first | exact rfl | assumption); (case km_z => k_mem); (case kU_z => k_updF); (case kn_z => omega); (case kp_z => constructor <;> omega); (case kd_z => ktr_room); (case ku_z => ktr_units); (intro xz h'z tk'z tz t'z F'z N'z; (try dsimp only at N'z); (try k_sweep))))
  k_with "exec While Constant cons nil" => refine Mine.Halt.out ?_
  k_with "KswEnd" => refine Mine.Halt.out ?_
  k_with "truthy ref" => (k_here; k_dflt (refine' Mine.dq_truthy_N ?N_z ?m_z ?f_z ?_; (case N_z => k_asm); (case m_z => k_mem); (case f_z => first | decide | omega | (simp only [List.length_cons, List.length_nil]; omega)); k_whole); intro _; (try simp only [List.isEmpty_cons, List.isEmpty_nil, Bool.not_false, Bool.not_true]))
  k_with "getMethod ref" => (k_here; (with_reducible show wpAny _ _ (getMethod (Value.ref _) (PySem.Str.ofString "appendleft") _) _ _ _); k_dflt (refine' Mine.dq_method ?N_z ?m_z Mine.slot_dq_appendleft Mine.type_dq_appendleft ?_; (case N_z => k_asm); (case m_z => k_mem)))
  k_with "getMethod ref" => (k_here; (with_reducible show wpAny _ _ (getMethod (Value.ref _) (PySem.Str.ofString "popleft") _) _ _ _); k_dflt (refine' Mine.dq_method ?N_z ?m_z Mine.slot_dq_popleft Mine.type_dq_popleft ?_; (case N_z => k_asm); (case m_z => k_mem)))
  k_with "call builtin:collections.deque.appendleft" => (k_here; k_dflt (refine' Mine.dq_appendleft ?k1_z ?k2_z ?k3_z ?z_z ?_; (case k1_z => k_asm); (case k2_z => k_asm); (case k3_z => k_upd); (case z_z => first | decide | omega)); intro h'z F'z N'z; (try k_sweep))
  k_with "call builtin:collections.deque.popleft" => (k_here; k_dflt (refine' Mine.dq_popleft ?k1_z ?k2_z ?k3_z ?z_z ?_; (case k1_z => k_asm); (case k2_z => k_asm); (case k3_z => k_upd); (case z_z => first | decide | omega)); intro h'z F'z N'z; (try k_sweep))
  k_with "compareOp In str str" => ((with_reducible show wpAny _ _ (compareOp CmpOp.In (Value.str (Mine.ES.str _) _) _) _ _ _); (rename Mine.ES => ezz; cases ezz <;> dsimp only [Mine.ES.str] at *))
  k_with "compareOp In str str" => ((with_reducible show wpAny _ _ (compareOp CmpOp.In (Value.str (Mine.ES.str _) _) _) _ _ _); (rename Mine.ES => ezz; cases ezz <;> dsimp only [Mine.ES.str] at *); all_goals (try (exfalso; (have hqz := (by assumption : Mine.ES.sp = Mine.ES.sp → _ ≤ _) rfl); omega)))
  k_with "my enterC" => (refine' code_defC ?k1_z ?k2_z ?k3_z ?k4_z ?k5_z ?kA_z ?kF_z ?kK_z ?k6_z ?k7_z ?k8_z ?k9_z ?kB_z ?kD_z ?_ ?c2_z ?c3_z ?c4_z; (case kA_z => exact rfl); (case kF_z => exact rfl); (case kK_z => first | exact rfl | assumption); (case k1_z => k_asm); (case k2_z => k_asm); (case k3_z => k_asm); (case k4_z => k_asm); (case k5_z => k_asm); (case k6_z => k_is); (case k7_z => k_is); (case k8_z => ktr_room); (case k9_z => first | exact BindsTo.of_eq rfl | exact binds_K (by k_in) rfl (by k_is) rfl rfl rfl); (case kB_z => exact rfl); (case kD_z => decide +kernel); (case c2_z => exact rfl); (case c3_z => exact rfl); (case c4_z => exact rfl); k_whole; intro G LL h1 tk1 cells1 FG F1 N1 Y1 B1 X1 T1 l1; (try k_lt l1); k_cells Y1; (try simp only [List.cons_append, List.nil_append] at N1); (try dsimp only); (try k_lift B1); (try k_fold))
  k_with "call ref" => ((with_reducible show wpAny _ _ (call (Value.ref 608) _ _) _ _ _); k_dflt (refine' mk_call ?k1_z ?k2_z ?k3_z ?k4_z ?k5_z ?k6_z ?k7_z ?k8_z ?k9_z ?ka_z ?kb_z ?kc_z ?_; (case k1_z => k_asm); (case k2_z => k_asm); (case k3_z => kernel_rfl); (case k4_z => k_is); (case k5_z => k_is); (case k6_z => k_is); (case k7_z => k_is); (case k8_z => k_is); (case k9_z => k_is); (case ka_z => k_handed); (case kb_z => k_is); (case kc_z => k_is); k_whole))
  k_with "call builtin:object.__new__" => (k_dflt (refine' mk_newK (B := 131) (D := 104) ?k1_z ?k2_z ?k3_z ?k4_z ?_; (case k1_z => k_asm); (case k2_z => k_asm); (case k3_z => k_asm); (case k4_z => kernel_rfl); k_whole; intro x'z d'z h'z F'z N'z l1z l2z; (try k_lt l1z); (try k_lt2 l2z); (try k_sweep)))
  k_with "call type:collections.deque" => (k_dflt (refine' dn_make ?k1_z ?k2_z ?_; (case k1_z => k_asm); (case k2_z => k_asm); k_whole; intro d'z h'z F'z N'z l1z; (try k_lt l1z); (try k_sweep)))
  k_with "MadeX" => (k_dflt (refine' mk_fin ?k0_z ?k1_z ?k2_z ?k3_z ?_; (case k0_z => k_asm); (case k1_z => k_asm); (case k2_z => k_asm); (case k3_z => k_mem); k_whole; (first | k_enter | (k_dflt (walk_at "my enter")))))
  k_with "my enterB" => ((refine' kp_both ?k1_z ?k2_z ?k3_z ?k4_z ?k5_z ?kA_z ?kF_z ?kK_z ?k6_z ?k7_z ?k8_z ?kV_z ?kX_z ?kQ_z ?kM_z ?kN_z ?kD_z ?kR_z ?kP_z ?kS_z ?kT_z ?kB_z ?_ ?c2_z ?c3_z ?c4_z ?c5_z; (case kA_z => exact rfl); (case kF_z => exact rfl); (case kK_z => first | exact rfl | assumption); (case k1_z => k_asm); (case k2_z => k_asm); (case k3_z => k_asm); (case k4_z => k_asm); (case k5_z => k_asm); (case k6_z => k_is); (case k7_z => k_is); (case k8_z => k_room); (case kV_z => kp_lit); (case kX_z => kp_lit); (case kQ_z => exact rfl); (case kM_z => exact rfl); (case kN_z => exact rfl); (case kD_z => kp_flats); (case kR_z => exact rfl); (case kP_z => exact rfl); (case kS_z => exact fun _ => rfl); (case kT_z => exact fun _ _ => rfl); (case kB_z => exact fun _ _ => locs rfl); (case c5_z => decide); (case c2_z => exact rfl); (case c3_z => exact rfl); (case c4_z => exact rfl); k_whole; intro C' D' o' g' L' h' tk' l1 l2 lo' hs' fs' FG' F' N' B' X' T'; (try k_lt l1); (try k_lt2 l2); (try dsimp only); (try k_lift B'); (try k_fold)))
  exact ⟨rfl, rfl⟩

namespace Mine
theorem allLt_mem {d : Nat} {l : List (Addr × Obj)} (h : AllLt d l) : ∀ p ∈ l, @LT.lt Nat _ p.1 d := by
  induction l with
  | nil => intro _ h; cases h
  | cons q l ih =>
    intro p hp
    obtain ⟨h1, h2⟩ := h
    rcases List.mem_cons.mp hp with e | hp
    · rw [e]; exact h1
    · exact ih h2 p hp
inductive SnR (r : List Nat) (news : Led) (v : Value) (n' : Led) : Prop
  | mk (sio sd : Addr) (hs2 : Nat → Int) (ts2 : Nat → Tok) (t1 t2 t3 : Tok) : v = .ref sio → (∀ q ∈ news, @LT.lt Nat _ q.1 sd) → @LT.lt Nat _ sd sio → n' = (sio, instObj 608 sd) :: (sd, sioD hs2 ts2 (T r) 0 t1 t2 t3) :: news → SnR r news v n'
theorem sn_close {h₀ h : Heap} {L sio sd D C : Addr} {o oC : Obj} {g0 g1 g2 : Int} {l0 l1 l2 t1 t2 t3 : Tok} {r : List Nat} {news : Led} {Q : Prop}
    (N : News h₀ L h ((sio, instObj 608 sd) :: (sd, dictOf [⟨g0, .str (Str.ofString "_StringIO__newline") l0, .str (Str.ofString "\n") t1⟩, ⟨g1, .str (Str.ofString "_StringIO__buf") l1, .str (T r) t2⟩, ⟨g2, .str (Str.ofString "_StringIO__pos") l2, .int 0 t3⟩] 3) :: (D, o) :: (C, oC) :: news))
    (hl : AllLt sd news) (h2 : @LT.lt Nat _ sd sio) (q : ∀ n', SnR r news (.ref sio) n' → News h₀ L h n' → Q) : Q :=
  q _ ⟨sio, sd, fun i => [g0, g1, g2].getD i 0, fun i => [l0, l1, l2].getD i 0, t1, t2, t3, rfl, allLt_mem hl, h2, rfl⟩ (News.sub N fun _ h => (List.mem_cons.mp h).elim (fun e => e ▸ .head _) fun h => (List.mem_cons.mp h).elim (fun e => e ▸ .tail _ (.head _)) fun h => .tail _ (.tail _ (.tail _ (.tail _ h))))
theorem sn_spec {w : World} (news : Led) (r : List Nat) (t1 : Tok) : Con 20 160 w 608 news (r.length < 9000) [.str (T r) t1] (SnR r news) (fun _ _ => False) := by
  intro p loose mean mg mb dp un gd cn cs a ccd cl outer A₀ base h₀ L m s Q E hB hF hX hN hT hk hpre hdp hun hret _
  have hTl := T_len r
  k_steps
  refine wpAny_call ?_
  k_dflt (walk_at "my enterB")
  k_steps
  exact sn_close (by assumption) (by with_reducible assumption : _ ∧ _ ∧ AllLt _ news).2.2 (by assumption) fun n' hR hN => hret _ _ _ n' hR (by assumption) hN
end Mine

end
section
open Mine
namespace Mine
noncomputable abbrev Ds := List (Str × (Value → Prop))
inductive DI : Ds → List DictEntry → Prop
  | nil : DI [] []
  | cons {y : Str} {V : Value → Prop} {h : Int} {t : Tok} {v : Value} {l : Ds} {es : List DictEntry} : V v → DI l es → DI ((y, V) :: l) (⟨h, .str y t, v⟩ :: es)
noncomputable def dput (name : Str) (V : Value → Prop) : Ds → Ds
  | [] => [(name, V)]
  | p :: r => if (Value.str p.1 0).isStr name then (p.1, V) :: r else p :: dput name V r
noncomputable def dget (name : Str) : Ds → Option (Value → Prop)
  | [] => none
  | p :: r => if (Value.str p.1 0).isStr name then some p.2 else dget name r
theorem DI.set {l : Ds} {es : List DictEntry} {name : Str} {V : Value → Prop} {v : Value} {h : Int} {t : Tok} (hv : V v) (H : DI l es) : DI (dput name V l) (putL name h (.str name t) v es) := by
  induction H with
  | nil => exact .cons hv .nil
  | @cons y W h0 t0 w l es hw H ih =>
    unfold dput putL
    by_cases hy : (Value.str y 0).isStr name = true
    · rw [if_pos hy, if_pos (show (Value.str y t0).isStr name = true from hy)]; exact .cons hv H
    · rw [if_neg hy, if_neg (show ¬(Value.str y t0).isStr name = true from hy)]; exact .cons hw ih
theorem putN_len {es : List DictEntry} {name : Str} {h : Int} {k v : Value} : putN name es es.length = (putL name h k v es).length ∧ (putL name h k v es).length ≤ es.length + 1 := by
  unfold putN
  induction es with
  | nil => exact ⟨rfl, Nat.le_refl _⟩
  | cons e r ih =>
    rw [List.any_cons]
    unfold putL
    cases e.key.isStr name with
    | true => exact ⟨rfl, Nat.le_succ _⟩
    | false =>
      simp only [Bool.false_or, Bool.false_eq_true, if_false, List.length_cons]
      refine ⟨?_, Nat.succ_le_succ ih.2⟩
      rw [← ih.1]
      split <;> rfl
theorem DI.noref {l : Ds} {es : List DictEntry} (H : DI l es) : (es.any (·.refKey)) = false := by
  induction H with
  | nil => rfl
  | cons _ _ ih => rw [List.any_cons, ih]; rfl
theorem DI.isS {l : Ds} {es : List DictEntry} {name : Str} (H : DI l es) : (getL name es).isSome = true := by
  unfold getL
  split
  · rfl
  · rw [H.noref]; rfl
theorem DI.get {l : Ds} {es : List DictEntry} {name : Str} {V : Value → Prop} (H : DI l es) (hg : dget name l = some V) : ∃ v, getL name es = some (some v) ∧ V v := by
  have key : ∃ e, es.find? (·.key.isStr name) = some e ∧ V e.val := by
    induction H with
    | nil => cases hg
    | @cons y W h t v l es hw H ih =>
      unfold dget at hg
      rw [List.find?_cons]
      show ∃ e, (match (Value.str y 0).isStr name with | true => _ | false => _) = some e ∧ _
      cases hy : (Value.str y 0).isStr name with
      | true => dsimp only at hg; rw [hy, if_pos rfl] at hg; exact ⟨_, rfl, Option.some.inj hg ▸ hw⟩
      | false => dsimp only at hg; rw [hy, if_neg Bool.false_ne_true] at hg; exact ih hg
  obtain ⟨e, h1, h2⟩ := key
  exact ⟨e.val, by unfold getL; rw [h1], h2⟩
section
variable {x : Fx} {f : Fn} {m : Loc} {d : Addr} {n : Led} {l : Ds} {R : Flow → Loc → Led → Prop} {X : List Value → Led → Prop} {k : Nat}
noncomputable def Li (x : Fx) (f : Fn) (m : Loc) (d : Addr) (n : Led) (l : Ds) (k : Nat) (ts : List Stmt) (R : Flow → Loc → Led → Prop) (X : List Value → Led → Prop) : Prop := ∀ es, DI l es → es.length ≤ k → Ex x f m ((d, dictOf es es.length) :: n) ts R X
noncomputable def Lp (x : Fx) (f : Fn) (m : Loc) (d : Addr) (n : Led) (l : Ds) (e : Expr) (V : Value → Prop) : Prop := ∀ es, DI l es → Ep x f m ((d, dictOf es es.length) :: n) e V
noncomputable def Lt (x : Fx) (f : Fn) (m : Loc) (d : Addr) (n : Led) (l : Ds) (e : Expr) (b : Bool) : Prop := ∀ es, DI l es → Tp x f m ((d, dictOf es es.length) :: n) e b
structure Si (m : Loc) (n : Led) (d : Addr) (y : Str) (a C : Addr) : Prop where
  hy : look m y = some (.ref a)
  hi : (a, instObj C d) ∈ n
  hd : ∀ q ∈ n, q.1 ≠ d
theorem Tr.setD {a C : Addr} {y name : Str} {v : Value} {V : Value → Prop} {es : List DictEntry} (S : Si m n d y a C) (hO : ∀ Q, setIn (Mine.KK Q) C name = true) (H : DI l es) (hz : es.length ≤ k) (hk : k < 1000) (hv : V v) {R : Unit → Loc → Led → Prop}
    (h : ∀ es', DI (dput name V l) es' → es'.length ≤ k + 1 → R () m ((d, dictOf es' es'.length) :: n)) : Tr x f m ((d, dictOf es es.length) :: n) (setAttr (.ref a) name v) R X := Tr.mk fun s Q E ok st q _ _ => by
  obtain ⟨⟨mm, F, km⟩, N⟩ := st
  obtain ⟨h1, h2, h3, h4⟩ := setIn_of (hO x.w.params)
  have hp := @putN_len es name (PyData.keyHash x.w.params name) (.str name (s.toks + 1)) v
  exact set_dict F ok.X N (InstAt.of_news N (.tail _ S.hi) (.head _)) rfl h1 h2 h4 h3 H.isS (congrArg (Prod.mk _) hp.1) (.head S.hd) (Nat.le_trans hp.2 (by omega)) fun h' F' N' => q () m _ h' _ (h _ (H.set hv) (Nat.le_trans hp.2 (Nat.succ_le_succ hz))) ⟨⟨mm, F', km⟩, N'⟩
theorem Li.set {a C : Addr} {y name : Str} {yp ap pos : Pos} {e : Expr} {r : List Stmt} {V : Value → Prop} (S : Si m n d y a C) (he : Lp x f m d n l e V) (hk : k < 1000) (h : Li x f m d n (dput name V l) (k + 1) r R X) (hO : ∀ Q, setIn (Mine.KK Q) C name = true := by intro Q; kernel_rfl)
    (hx : (x.env f).kindOf y = some .local := by rfl) (hd : (y == ("__debug__" : Str)) = false := by decide) (hs : swapsWith e (some (.Attribute (.Name y yp) name ap)) pos.line (x.env f) = pure false := by rfl) : Li x f m d n l k (.Assign [.Attribute (.Name y yp) name ap] e pos :: r) R X :=
  fun es H hz => Ex.seta (he es H) (Ep.name S.hy hx hd) (fun _ hv => Tr.setD S hO H hz hk hv fun es' H' hz' => h es' H' hz') hs
theorem Li.setDq {a C : Addr} {y name : Str} {yp ap gp cp pos : Pos} {r : List Stmt} (S : Si m n d y a C) (hk : k < 1000) (h : ∀ D, (∀ q ∈ n, @LT.lt Nat _ q.1 D) → @LT.lt Nat _ d D → Li x f m d ((D, dqO 0 []) :: n) (dput name (· = .ref D) l) (k + 1) r R X) (hO : ∀ Q, setIn (Mine.KK Q) C name = true := by intro Q; kernel_rfl)
    (hx : (x.env f).kindOf y = some .local := by rfl) (hd : (y == ("__debug__" : Str)) = false := by decide) (hg : (x.env f).kindOf (Str.ofString "deque") = some .globalImplicit := by rfl) (hs : swapsWith (.Call (.Name (Str.ofString "deque") gp) [] [] cp) (some (.Attribute (.Name y yp) name ap)) pos.line (x.env f) = pure false := by rfl)
    (he : eval (.Call (.Name (Str.ofString "deque") gp) [] [] cp) (x.env f) = (do callWith cp (← eval (.Name (Str.ofString "deque") gp) (x.env f)) [] (backTo cp (starEach [] (x.env f))) (backToKw cp (keywordEach [] (x.env f)))) := by rfl) :
    Li x f m d n l k (.Assign [.Attribute (.Name y yp) name ap] (.Call (.Name (Str.ofString "deque") gp) [] [] cp) pos :: r) R X :=
  fun es H hz => Ex.go <| Tr.mk fun s Q E ok st q ee po => plainObj_wpAny_Assign_Attribute (Call_ ((Ep.glb (v := .type "collections.deque") (by intro Q; kernel_rfl) hg (by decide)).use ok st (fun v h1 t1 hv st1 => by
    subst hv
    obtain ⟨⟨mm, F, km⟩, N⟩ := st1
    refine callWith_type0 (dn_make F N fun D h2 F2 N2 hlt => ?_)
    have hD : @LT.lt Nat _ d D := hlt _ (.head _)
    have hn : ∀ q ∈ n, @LT.lt Nat _ q.1 D := fun q hq => hlt q (.tail _ hq)
    have N3 : News x.G x.L h2 ((d, dictOf es es.length) :: (D, dqO 0 []) :: n) := News.sub N2 fun p hp => (List.mem_cons.mp hp).elim (fun e => .tail _ (e ▸ .head _)) fun hp => (List.mem_cons.mp hp).elim (fun e => e ▸ .head _) fun hp => .tail _ (.tail _ hp)
    have S' : Si m ((D, dqO 0 []) :: n) d y a C := ⟨S.hy, .tail _ S.hi, List.forall_mem_cons.mpr ⟨Nat.ne_of_gt hD, S.hd⟩⟩
    refine (Ep.name S.hy hx hd).use ok ⟨⟨mm, F2, km⟩, N3⟩ (fun v h1 t1 hv st1 => ?_) po
    subst hv
    exact (Tr.setD (V := (· = .ref D)) (X := X) S' hO H hz hk rfl fun es' H' hz' => h D hn hD es' H' hz').run _ _ E ok st1 (fun _ m' n' h' tk' z st3 => q _ _ _ h' tk' ⟨rfl, z⟩ st3) ee po) po) he) hs
theorem Li.ifT {test : Expr} {a b r : List Stmt} {pos : Pos} (ht : Lt x f m d n l test true) (h : Li x f m d n l k (a ++ r) R X) : Li x f m d n l k (.If test a b pos :: r) R X := fun es H hz => Ex.ifT (ht es H) (h es H hz)
theorem Li.ifF {test : Expr} {a b r : List Stmt} {pos : Pos} (ht : Lt x f m d n l test false) (h : Li x f m d n l k (b ++ r) R X) : Li x f m d n l k (.If test a b pos :: r) R X := fun es H hz => Ex.ifF (ht es H) (h es H hz)
theorem Lp.str {y : Str} {c : Nat} {pos : Pos} : Lp x f m d n l (.Constant (.str y) c pos) (IsS y) := fun _ _ => Ep.str
theorem Lp.int {i : Int} {c : Nat} {pos : Pos} : Lp x f m d n l (.Constant (.int i) c pos) (IsI i) := fun _ _ => Ep.int
theorem Lp.none {c : Nat} {pos : Pos} : Lp x f m d n l (.Constant .none c pos) (· = .none) := fun _ _ => Ep.none
theorem Lp.bool {b : Bool} {c : Nat} {pos : Pos} : Lp x f m d n l (.Constant (.bool b) c pos) (· = .bool b) := fun _ _ => Ep.bool
theorem Lp.name {y : Str} {pos : Pos} {v : Value} (hv : look m y = some v) (hx : (x.env f).kindOf y = some .local := by rfl) (hd : (y == ("__debug__" : Str)) = false := by decide) : Lp x f m d n l (.Name y pos) (· = v) := fun _ _ => Ep.name hv hx hd
theorem Lp.at {a C : Addr} {y name : Str} {yp ap : Pos} {V : Value → Prop} (S : Si m n d y a C) (hg : dget name l = some V) (hV : ∀ v, V v → handedIn v = true) (hO : ∀ Q, ownOk (Mine.KK Q) C name = true := by intro Q; kernel_rfl)
    (hx : (x.env f).kindOf y = some .local := by rfl) (hd : (y == ("__debug__" : Str)) = false := by decide) : Lp x f m d n l (.Attribute (.Name y yp) name ap) V := fun es H => by
  obtain ⟨v, h1, h2⟩ := H.get hg
  exact Ep.at rfl (Ep.name S.hy hx hd) (Tr.own (.tail _ S.hi) (.head _) hO h1 (hV v h2) ⟨h2, rfl, rfl⟩)
theorem Li.augS {a C : Addr} {y name z z' zw : Str} {yp ap pos : Pos} {e : Expr} {r : List Stmt} (S : Si m n d y a C) (hg : dget name l = some (IsS z)) (he : Lp x f m d n l e (IsS z')) (hw : z ++ z' = zw) (hz : z.length + z'.length ≤ 16777216) (hk : k < 1000) (h : Li x f m d n (dput name (IsS zw) l) (k + 1) r R X)
    (hO : ∀ Q, setIn (Mine.KK Q) C name = true := by intro Q; kernel_rfl) (hO2 : ∀ Q, ownOk (Mine.KK Q) C name = true := by intro Q; kernel_rfl)
    (hx : (x.env f).kindOf y = some .local := by rfl) (hd : (y == ("__debug__" : Str)) = false := by decide) : Li x f m d n l k (.AugAssign (.Attribute (.Name y yp) name ap) .Add e pos :: r) R X := fun es H hl => by
  obtain ⟨v, h1, t, h2⟩ := H.get hg
  subst h2 hw
  exact Ex.auga (V := IsS z') (W := IsS (z ++ z')) (Ep.name S.hy hx hd) (Tr.own (.tail _ S.hi) (.head _) hO2 h1 rfl ⟨rfl, rfl, rfl⟩) (he es H) (fun _ ⟨t', e⟩ => e ▸ Tr.fin (V := IsS (z ++ z')) (fun s Q E q => SBL.iadd (fun t k _ => q _ k ⟨t, rfl⟩) (by rw [sizeLine_eq]; exact hz)) fun _ h => ⟨h, rfl, rfl⟩) (fun _ hv => Tr.setD S hO H hl hk hv fun es' H' hz' => h es' H' hz')
end
end Mine

end
section
open Mine
namespace Mine
section
variable {x : Fx} {f : Fn} {m : Loc} {d : Addr} {n : Led} {l : Ds} {R : Flow → Loc → Led → Prop} {X : List Value → Led → Prop} {k : Nat}
theorem Li.asS {y z : Str} {p pos : Pos} {e : Expr} {r : List Stmt} (he : Lp x f m d n l e (IsS z)) (h : ∀ t, Li x f ((y, .str z t) :: m) d n l k r R X) (hs : swapsWith e (some (.Name y p)) pos.line (x.env f) = pure false := by rfl) (hx : (x.env f).kindOf y = some .local := by rfl) :
    Li x f m d n l k (.Assign [.Name y p] e pos :: r) R X := fun es H hz => Ex.asS (he es H) (fun t => h t es H hz) hs hx
theorem Lt.val {e : Expr} {V : Value → Prop} {b : Bool} (h : Lp x f m d n l e V) (hv : Tv V b) (hp : isTrue e (x.env f) (eval e (x.env f)) = (do
      let v ← eval e (x.env f)
      standAt e.pos
      holding [v] (truthy v)) := by rfl) : Lt x f m d n l e b := fun es H => Tp.val (h es H) hv hp
theorem Lt.notnone {y : Str} {yp p pos : Pos} {a : Addr} {c : Nat} (hv : look m y = some (.ref a)) (hx : (x.env f).kindOf y = some .local := by rfl) (hd : (y == ("__debug__" : Str)) = false := by decide) : Lt x f m d n l (.Compare (.Name y yp) [.IsNot] [.Constant .none c p] pos) true :=
  fun _ _ => Tp.cmp (Ep.name hv hx hd) Ep.none (fun _ _ _ s _ _ _ h1 h2 q => by subst h1 h2; exact isnot_ref_none (q s.toks)) rfl
end
noncomputable abbrev lexDs (iv : Value) (sio pb fs : Addr) : Ds := [(Str.ofString "instream", (· = .ref sio)), (Str.ofString "infile", (· = iv)), (Str.ofString "posix", (· = .bool true)), (Str.ofString "eof", (· = .none)), (Str.ofString "commenters", IsS (Str.ofString "#")), (Str.ofString "wordchars", IsS wcs), (Str.ofString "whitespace", IsS (Str.ofString " \t\r\n")), (Str.ofString "whitespace_split", (· = .bool false)), (Str.ofString "quotes", IsS (Str.ofString "'\"")), (Str.ofString "escape", IsS (Str.ofString "\\")), (Str.ofString "escapedquotes", IsS (Str.ofString "\"")), (Str.ofString "state", IsS (Str.ofString " ")), (Str.ofString "pushback", (· = .ref pb)), (Str.ofString "lineno", IsI 1), (Str.ofString "debug", IsI 0), (Str.ofString "token", IsS (Str.ofString "")), (Str.ofString "filestack", (· = .ref fs)), (Str.ofString "source", (· = .none)), (Str.ofString "_punctuation_chars", IsS (Str.ofString ""))]
theorem DI.cast {l l' : Ds} {es : List DictEntry} (h : DI l es) (e : l = l') : DI l' es := e ▸ h
inductive LiR (iv : Value) (r : List Nat) (x ld : Addr) (news : Led) (v : Value) (n' : Led) : Prop
  | mk (sio sd pb fs : Addr) (hs2 : Nat → Int) (ts2 : Nat → Tok) (t1 t2 t3 : Tok) (es : List DictEntry) : v = .none → DI (lexDs iv sio pb fs) es → @LT.lt Nat _ x sd → @LT.lt Nat _ sd sio → @LT.lt Nat _ sio pb → @LT.lt Nat _ pb fs →
    n' = (ld, dictOf es es.length) :: (fs, dqO 0 []) :: (pb, dqO 0 []) :: (sio, instObj 608 sd) :: (sd, sioD hs2 ts2 (T r) 0 t1 t2 t3) :: (x, instObj 743 ld) :: news → LiR iv r x ld news v n'
theorem li_fill {y : Fx} {iv : Value} {r : List Nat} {x ld sio sd : Addr} {news : Led} {hs2 : Nat → Int} {ts2 : Nat → Tok} {u t1 t2 t3 : Tok} (hl : ∀ q ∈ news, @LT.lt Nat _ q.1 ld) (h1 : @LT.lt Nat _ ld x) (h2 : @LT.lt Nat _ x sd) (h3 : @LT.lt Nat _ sd sio) :
    Li y (fnO o667.1 667) [(Str.ofString "instream", .ref sio), (Str.ofString "punctuation_chars", .bool false), (Str.ofString "posix", .bool true), (Str.ofString "infile", iv), (Str.ofString "instream", .str (T r) u), (Str.ofString "self", .ref x)] ld ((sio, instObj 608 sd) :: (sd, sioD hs2 ts2 (T r) 0 t1 t2 t3) :: (x, instObj 743 ld) :: news) [] 0 ((fb o667.1).drop 1) (fun fl _ n' => LiR iv r x ld news (retv fl) n') NoX := by
  have S0 : Si [(Str.ofString "instream", .ref sio), (Str.ofString "punctuation_chars", .bool false), (Str.ofString "posix", .bool true), (Str.ofString "infile", iv), (Str.ofString "instream", .str (T r) u), (Str.ofString "self", .ref x)] ((sio, instObj 608 sd) :: (sd, sioD hs2 ts2 (T r) 0 t1 t2 t3) :: (x, instObj 743 ld) :: news) ld (Str.ofString "self") x 743 :=
    ⟨rfl, .tail _ (.tail _ (.head _)), List.forall_mem_cons.mpr ⟨Nat.ne_of_gt (Nat.lt_trans (Nat.lt_trans h1 h2) h3), List.forall_mem_cons.mpr ⟨Nat.ne_of_gt (Nat.lt_trans h1 h2), List.forall_mem_cons.mpr ⟨Nat.ne_of_gt h1, fun q hq => Nat.ne_of_lt (hl q hq)⟩⟩⟩⟩
  refine Li.ifT (Lt.notnone rfl) ?_
  refine Li.set S0 (Lp.name rfl) (by decide) ?_
  refine Li.set S0 (Lp.name rfl) (by decide) ?_
  refine Li.set S0 (Lp.name rfl) (by decide) ?_
  refine Li.ifT (Lt.val (Lp.name rfl) Tv.bool) ?_
  refine Li.set S0 Lp.none (by decide) ?_
  refine Li.set S0 Lp.str (by decide) ?_
  refine Li.set S0 Lp.str (by decide) ?_
  refine Li.ifT (Lt.val (Lp.at (V := (· = .bool true)) S0 (by kernel_rfl) (fun _ e => e ▸ rfl)) Tv.bool) ?_
  refine Li.augS (z := Str.ofString "abcdfeghijklmnopqrstuvwxyzABCDEFGHIJKLMNOPQRSTUVWXYZ0123456789_") S0 (by kernel_rfl) Lp.str (zw := wcs) (by decide +kernel) (by decide +kernel) (by decide) ?_
  refine Li.set S0 Lp.str (by decide) ?_
  refine Li.set S0 Lp.bool (by decide) ?_
  refine Li.set S0 Lp.str (by decide) ?_
  refine Li.set S0 Lp.str (by decide) ?_
  refine Li.set S0 Lp.str (by decide) ?_
  refine Li.set S0 Lp.str (by decide) ?_
  refine Li.setDq S0 (by decide) fun pb p1 p2 => ?_
  have S1 : Si [(Str.ofString "instream", .ref sio), (Str.ofString "punctuation_chars", .bool false), (Str.ofString "posix", .bool true), (Str.ofString "infile", iv), (Str.ofString "instream", .str (T r) u), (Str.ofString "self", .ref x)] ((pb, dqO 0 []) :: (sio, instObj 608 sd) :: (sd, sioD hs2 ts2 (T r) 0 t1 t2 t3) :: (x, instObj 743 ld) :: news) ld (Str.ofString "self") x 743 := ⟨rfl, .tail _ S0.hi, List.forall_mem_cons.mpr ⟨Nat.ne_of_gt p2, S0.hd⟩⟩
  refine Li.set S1 Lp.int (by decide) ?_
  refine Li.set S1 Lp.int (by decide) ?_
  refine Li.set S1 Lp.str (by decide) ?_
  refine Li.setDq S1 (by decide) fun fs f1 f2 => ?_
  have S2 : Si [(Str.ofString "instream", .ref sio), (Str.ofString "punctuation_chars", .bool false), (Str.ofString "posix", .bool true), (Str.ofString "infile", iv), (Str.ofString "instream", .str (T r) u), (Str.ofString "self", .ref x)] ((fs, dqO 0 []) :: (pb, dqO 0 []) :: (sio, instObj 608 sd) :: (sd, sioD hs2 ts2 (T r) 0 t1 t2 t3) :: (x, instObj 743 ld) :: news) ld (Str.ofString "self") x 743 := ⟨rfl, .tail _ S1.hi, List.forall_mem_cons.mpr ⟨Nat.ne_of_gt f2, S1.hd⟩⟩
  refine Li.set S2 Lp.none (by decide) ?_
  refine Li.ifT (b := [_]) (fun _ _ => Tp.not (b := false) (Tp.val (Ep.name rfl) Tv.bool)) ?_
  refine Li.asS Lp.str fun t => ?_
  refine Li.set (V := IsS (Str.ofString "")) ⟨rfl, S2.hi, S2.hd⟩ (fun _ _ => Ep.nameS rfl) (by decide) ?_
  refine Li.ifF (Lt.val (Lp.name rfl) Tv.emp) ?_
  exact fun es H _ => Ex.nil ⟨sio, sd, pb, fs, hs2, ts2, t1, t2, t3, es, rfl, H.cast (by kernel_rfl), h2, h3, p1 _ (.head _), f1 _ (.head _), rfl⟩
theorem li_code {w : World} {iv : Value} {r : List Nat} {x ld : Addr} {news : Led} {t1 : Tok} (hl : ∀ q ∈ news, @LT.lt Nat _ q.1 ld) (h1 : @LT.lt Nat _ ld x) (hr : r.length < 9000)
    {p : Program} {loose : List Str} {mean : ExcName → Option Value} {mg mb : Str → Option Value} {A : Around} {env : Env} {outer : List Env} {A₀ : Around} {base h₀ : Heap} {L : Addr} {m : Str → Option Value} {s : Shared} {Q E : Value → Shared → Prop}
    (hA : A.frames = some (env :: outer)) (hf : env.frame = some L) (hck : env.scope.kind = .function) (hh : A.handled = none)
    (B : Below A₀ base outer h₀) (F : Fr h₀ L s.heap m) (X : (Mine.KK w.params).In h₀) (N : News h₀ L s.heap ((x, instObj 743 ld) :: (ld, dictOf [] 0) :: news)) (T' : Top p loose mean mg mb h₀) (hdp : A.depth + 1 + 20 < recursionLimit) (hun : A.units + 3 + 160 < cLine)
    (ret : ∀ (v : Value) (h' : Heap) (tk' : Nat) (n' : Led), LiR iv r x ld news v n' → Fr h₀ L h' m → News h₀ L h' n' → Q v { s with heap := h', toks := tk' }) :
    codeAny (model PySem.Challenge.pw_in0151_02 w) A (.call (.ref 667) ⟨[.ref x, .str (T r) t1, iv, .bool true], []⟩) (fun r s' => match r with | .ok (.ret v) => Q v s' | .ok _ => False | .error e => E e s') s := by
  refine code_of (c := 20) (u := 160) (binds := [(Str.ofString "self", .ref x), (Str.ofString "instream", .str (T r) t1), (Str.ofString "infile", iv), (Str.ofString "posix", .bool true), (Str.ofString "punctuation_chars", .bool false)]) (R := LiR iv r x ld news) (RE := NoX) (by k_is) (by k_is)
    (fun s X => binds_K X rfl (by k_is) rfl rfl rfl) (locs rfl) ?_ rfl rfl rfl (by decide) hA hf hck hh B F X N T' hdp hun ret (fun _ _ _ _ _ _ _ z => z.elim)
  intro y hw hc hu hcl
  show Ex y (fnO o667.1 667) _ _ (fb o667.1) _ _
  refine Ex.ifT (Tp.val (V := (· = .bool true)) (Ev.callB (by intro Q; kernel_rfl) boot_isinstance (by decide) (Er.E (Ep.name rfl) (Er.E (Ep.blt (by intro Q; kernel_rfl) boot_str (by decide)) (Er.nil (Tr.fi (V := (· = .bool true)) (fun w A E s Q _ q => IsiPair.str_str (q _ s.toks rfl)) fun _ h => ⟨h, rfl, rfl⟩))))) Tv.bool) ?_
  refine Ex.asK (Ev.dcall (fa := 608) (by intro Q; kernel_rfl) (by intro Q; kernel_rfl) (Er.E (Ep.name rfl) (Er.nil ?_)))
  refine Tr.con (sn_spec _ r t1) hr (fun q hq => hq) (by rw [hc]; decide) (by rw [hu]; decide) (fun v n' hR => ?_) (fun _ _ z => z.elim)
  obtain ⟨sio, sd, hs2, ts2, a1, a2, a3, rfl, hl2, h3, rfl⟩ := hR
  refine ⟨(ld, dictOf [] 0) :: (sio, instObj 608 sd) :: (sd, sioD hs2 ts2 (T r) 0 a1 a2 a3) :: (x, instObj 743 ld) :: news, fun q hq => ?_, ?_⟩
  · rcases List.mem_cons.mp hq with e | hq
    · exact e ▸ .tail _ (.tail _ (.tail _ (.head _)))
    rcases List.mem_cons.mp hq with e | hq
    · exact e ▸ .head _
    rcases List.mem_cons.mp hq with e | hq
    · exact e ▸ .tail _ (.head _)
    rcases List.mem_cons.mp hq with e | hq
    · exact e ▸ .tail _ (.tail _ (.head _))
    · exact .tail _ (.tail _ (.tail _ (.tail _ hq)))
  · exact li_fill hl h1 (hl2 _ (.head _)) h3 [] .nil (Nat.le_refl 0)
inductive LnR (iv : Value) (r : List Nat) (news : Led) (v : Value) (n' : Led) : Prop
  | mk (x ld sio sd pb fs : Addr) (hs2 : Nat → Int) (ts2 : Nat → Tok) (t1 t2 t3 : Tok) (es : List DictEntry) : v = .ref x → DI (lexDs iv sio pb fs) es → (∀ q ∈ news, @LT.lt Nat _ q.1 ld) → (@LT.lt Nat _ ld x ∧ @LT.lt Nat _ x sd ∧ @LT.lt Nat _ sd sio ∧ @LT.lt Nat _ sio pb ∧ @LT.lt Nat _ pb fs) →
    n' = (ld, dictOf es es.length) :: (fs, dqO 0 []) :: (pb, dqO 0 []) :: (sio, instObj 608 sd) :: (sd, sioD hs2 ts2 (T r) 0 t1 t2 t3) :: (x, instObj 743 ld) :: news → LnR iv r news v n'
theorem ln_new {w : World} {iv : Value} {r : List Nat} {t1 : Tok} {news : Led} (hr : r.length < 9000)
    {p : Program} {loose : List Str} {mean : ExcName → Option Value} {mg mb : Str → Option Value} {dp un : Nat} {gd : Option (List Code)} {cn : Str} {cs : Scope} {a : Addr} {ccd : Value} {cl : List (Str × Addr)} {outer : List Env} {A₀ : Around} {base h₀ : Heap} {L : Addr} {m : Str → Option Value} {s : Shared} {Q E : Value → Shared → Prop}
    (B : Below A₀ base outer h₀) (F : Fr h₀ L s.heap m) (X : (Mine.KK w.params).In h₀) (N : News h₀ L s.heap news) (T' : Top p loose mean mg mb h₀) (hck : cs.kind = .function) (hdp : dp + 23 < recursionLimit) (hun : un + 180 < cLine)
    (ret : ∀ (v : Value) (h' : Heap) (tk' : Nat) (n' : Led), LnR iv r news v n' → Fr h₀ L h' m → News h₀ L h' n' → Q v { s with heap := h', toks := tk' }) :
    wpAny (model PySem.Challenge.pw_in0151_02 w) (ktrTop dp un gd cn cs L a ccd cl outer) (call (.ref 743) [.str (T r) t1, iv, .bool true]) Q E s := by
  refine call_cls F X N (fI := 667) (by k_is) (by k_is) (by k_is) fun x ld h1 F1 N1 hl h2 => ?_
  refine codeAny_mono (li_code (iv := iv) (Q := fun v s' => InitBack x (fun r s' => match r with | .ok (.ret v) => Q v s' | .ok _ => False | .error e => E e s') (.ok (.ret v)) s') (E := E) (env := envX cn cs L a ccd cl) (outer := outer) hl h2 hr rfl rfl hck rfl B F1 X N1 T' ?_ ?_ ?_) ?_
  · show dp + 1 + 1 + 20 < recursionLimit
    omega
  · show un + 1 + 3 + 160 < cLine
    omega
  · rintro v h' tk' n' ⟨sio, sd, pb, fs, hs2, ts2, a1, a2, a3, es, rfl, H, l1, l2, l3, l4, rfl⟩ F' N'
    exact ⟨rfl, ret (.ref x) h' tk' _ ⟨x, ld, sio, sd, pb, fs, hs2, ts2, a1, a2, a3, es, rfl, H, hl, ⟨h2, l1, l2, l3, l4⟩, rfl⟩ F' N'⟩
  · intro r s' z
    rcases r with e | (v | _ | _ | _)
    · exact z
    all_goals exact z
end Mine

end
section
open Mine
namespace Mine
noncomputable def runF : Nat → List Nat → St → List Nat → Int → Bool → ES → Option Out
  | 0, _, _, _, _, _, _ => none
  | n + 1, s, st, tok, line, q, es => match st, s with
    | .fin, _ => some (.done [] .fin [] line q [])
    | .ws, [] => some (.done [] .fin tok line q [])
    | .ws, c :: s => bif isC c then runF n s .wd [c] line q es else bif isW c then runF n s .ws [] (bump c line) false es else bif c == 35 then runF n (aft s) .ws tok (line + 1) q es else bif c == 92 then runF n s .esc tok line q .wd
      else bif isQ c then runF n s (bif c == 39 then .sq else .dq) tok line q es else some (.done s .ws [c] line q [])
    | .sq, [] => some (.bad false .sq tok line)
    | .sq, c :: s => bif c == 39 then runF n s .wd tok line true es else runF n s .sq (tok ++ [c]) (bump c line) true es
    | .dq, [] => some (.bad false .dq tok line)
    | .dq, c :: s => bif c == 34 then runF n s .wd tok line true es else bif c == 92 then runF n s .esc tok line true .dq else runF n s .dq (tok ++ [c]) (bump c line) true es
    | .esc, [] => some (.bad true .esc tok line)
    | .esc, c :: s => match es with
      | .dq => bif c == 92 || c == 34 then runF n s .dq (tok ++ [c]) (bump c line) q .dq else runF n s .dq (tok ++ [92] ++ [c]) (bump c line) q .dq
      | es => runF n s es.st (tok ++ [c]) (bump c line) q es
    | .wd, [] => some (.done [] .fin tok line q [])
    | .wd, c :: s => bif isC c then runF n s .wd (tok ++ [c]) line q es else bif isW c then some (.done s .ws tok (bump c line) q []) else bif c == 35 then some (.done (aft s) .ws tok (line + 1) q []) else bif c == 92 then runF n s .esc tok line q .wd
      else bif isQ c then runF n s (bif c == 39 then .sq else .dq) tok line q es else some (.done s .ws tok line q [c])
theorem cT {α : Type} {b : Bool} {x y : α} (h : b = true) : cond b x y = x := by rw [h]; rfl
theorem cF {α : Type} {b : Bool} {x y : α} (h : b = false) : cond b x y = y := by rw [h]; rfl
theorem beqF {c d : Nat} (h : c ≠ d) : (c == d) = false := beq_eq_false_iff_ne.mpr h
theorem noWC {c : Nat} (h : isW c = true) : isC c = false := by
  unfold isW at h
  simp only [Bool.or_eq_true, beq_iff_eq] at h
  rcases h with ((h | h) | h) | h <;> (rw [h]; rfl)
theorem Run.toF {s : List Nat} {st : St} {tok : List Nat} {line : Int} {q : Bool} {es : ES} {O : Out} (h : Run s st tok line q es O) : ∃ n, ∀ k, runF (n + k) s st tok line q es = some O := by
  induction h with
  | fin0 | ws0 | sq0 | dq0 | esc0 | wd0 => exact ⟨1, fun k => by rw [Nat.add_comm]; rfl⟩
  | wsC _ ih | wsE _ ih | wsQ _ ih | wsR _ ih | sqE _ ih | dqE _ ih | dqX _ ih | wdQ _ ih | wdR _ ih | wdE _ ih =>
    obtain ⟨n, e⟩ := ih
    exact ⟨n + 1, fun k => by rw [Nat.add_right_comm]; exact e k⟩
  | wdC => exact ⟨1, fun k => by rw [Nat.add_comm]; rfl⟩
  | wsW a b _ ih =>
    obtain ⟨n, e⟩ := ih
    exact ⟨n + 1, fun k => by rw [Nat.add_right_comm]; exact (cF (noWC b)).trans ((cT b).trans (a ▸ e k))⟩
  | wsD b _ ih =>
    obtain ⟨n, e⟩ := ih
    exact ⟨n + 1, fun k => by rw [Nat.add_right_comm]; exact (cT b).trans (e k)⟩
  | wsP a b c d f => exact ⟨1, fun k => by rw [Nat.add_comm]; exact (cF d).trans ((cF a).trans ((cF b).trans ((cF c).trans (cF f))))⟩
  | sqC a b _ ih =>
    obtain ⟨n, e⟩ := ih
    exact ⟨n + 1, fun k => by rw [Nat.add_right_comm]; exact (cF (beqF b)).trans (a ▸ e k)⟩
  | dqC a b c _ ih =>
    obtain ⟨n, e⟩ := ih
    exact ⟨n + 1, fun k => by rw [Nat.add_right_comm]; exact (cF (beqF b)).trans ((cF c).trans (a ▸ e k))⟩
  | @escC c s tok line line' q es O a b _ ih =>
    obtain ⟨n, e⟩ := ih
    refine ⟨n + 1, fun k => ?_⟩
    rw [Nat.add_right_comm]
    subst a
    cases es with
    | dq => exact (cT (by rcases b rfl with h | h <;> (rw [h]; rfl))).trans (e k)
    | sp => exact e k
    | wd => exact e k
  | escB a b c _ ih =>
    obtain ⟨n, e⟩ := ih
    exact ⟨n + 1, fun k => by rw [Nat.add_right_comm]; exact (cF (by rw [beqF b, beqF c]; rfl)).trans (a ▸ e k)⟩
  | wdW a b => exact ⟨1, fun k => by rw [Nat.add_comm]; exact (cF (noWC b)).trans ((cT b).trans (by rw [a]))⟩
  | wdD b _ ih =>
    obtain ⟨n, e⟩ := ih
    exact ⟨n + 1, fun k => by rw [Nat.add_right_comm]; exact (cT b).trans (e k)⟩
  | wdP a b c d f => exact ⟨1, fun k => by rw [Nat.add_comm]; exact (cF d).trans ((cF a).trans ((cF b).trans ((cF c).trans (cF f))))⟩
theorem Run.det {s : List Nat} {st : St} {tok : List Nat} {line : Int} {q : Bool} {es : ES} {O O' : Out} (h : Run s st tok line q es O) (h' : Run s st tok line q es O') : O = O' := by
  obtain ⟨n, e⟩ := h.toF
  obtain ⟨m, e'⟩ := h'.toF
  exact Option.some.inj ((e m).symm.trans ((congrArg (fun k => runF k s st tok line q es) (Nat.add_comm n m)).trans (e' n)))
end Mine

end
section
open Mine
namespace Mine
noncomputable abbrev Wd := List Nat
noncomputable def wUse : Wd := [117, 115, 101]
noncomputable def wX : Wd := [120]
noncomputable def goodW : List (Wd × Nat) := [([48], 0), ([49], 1), ([50], 2), ([51], 3), ([52], 4), ([53], 5), ([54], 6), ([55], 7), ([56], 8), ([52, 48], 40), ([50, 54, 48], 4), (wX, 205)]
noncomputable def OkW (w : Wd) : Prop := ∃ q ∈ goodW, q.1 = w
noncomputable def octW (w : Wd) : Nat := (goodW.lookup w).getD 0
noncomputable def piece (o : Nat) : List Wd := [[[48]], [[49]], [[50]], [[51]], [wUse], [wUse], [wX], [], []].getD (o % 9) []
noncomputable def laid (os : List Nat) : List Wd := os.flatMap piece
structure Tx where
  nm : Option Wd
  ws : List Wd
noncomputable abbrev It := Option Wd × List Nat
inductive Res
  | word (w : Wd)
  | none
  | bad (i : It)
noncomputable abbrev Row := Res × Option Wd
noncomputable def theLine : Option Wd := some [116, 104, 101, 32, 108, 105, 110, 101]
noncomputable def maEnd : List It → List Row
  | [] => [(.none, theLine)]
  | i :: _ => [(.bad i, theLine), (.none, theLine)]
noncomputable def ma : Nat → List It → List Tx → Option (List Row)
  | _, o, [] => some (maEnd o)
  | 0, _, _ :: _ => none
  | n + 1, o, ⟨_, []⟩ :: p => ma n o p
  | n + 1, o, ⟨nm, w :: ws⟩ :: p => if w = wUse then ma n ((ws.head?, []) :: o) (⟨nm, ws.tail⟩ :: p) else match o with
    | [] => (ma n [] (⟨nm, ws⟩ :: p)).map ((.word w, nm) :: ·)
    | (i, nums) :: o => if (nums ++ [octW w]).headD 0 < nums.length + 1 then ma n o (⟨i, laid (nums ++ [octW w]).tail⟩ :: ⟨nm, ws⟩ :: p) else ma n ((i, nums ++ [octW w]) :: o) (⟨nm, ws⟩ :: p)
noncomputable def Goes (o : List It) (p : List Tx) (o' : List It) (p' : List Tx) : Prop := ∃ k, ∀ n, ma (n + k) o p = ma n o' p'
section
variable {o o' o'' : List It} {p p' p'' : List Tx} {nm : Option Wd} {w : Wd} {ws : List Wd} {i : Option Wd} {nums : List Nat}
theorem Goes.refl : Goes o p o p := ⟨0, fun _ => rfl⟩
theorem Goes.trans (h : Goes o p o' p') (g : Goes o' p' o'' p'') : Goes o p o'' p'' := by
  obtain ⟨k, h⟩ := h
  obtain ⟨l, g⟩ := g
  exact ⟨l + k, fun n => by rw [← Nat.add_assoc, h, g]⟩
theorem Goes.pop : Goes o (⟨nm, []⟩ :: p) o p := ⟨1, fun n => rfl⟩
theorem Goes.opn : Goes o (⟨nm, wUse :: ws⟩ :: p) ((ws.head?, []) :: o) (⟨nm, ws.tail⟩ :: p) := ⟨1, fun n => if_pos rfl⟩
theorem Goes.fed (hw : w ≠ wUse) (h : ¬ (nums ++ [octW w]).headD 0 < nums.length + 1) : Goes ((i, nums) :: o) (⟨nm, w :: ws⟩ :: p) ((i, nums ++ [octW w]) :: o) (⟨nm, ws⟩ :: p) := ⟨1, fun n => (if_neg hw).trans (if_neg h)⟩
theorem Goes.close (hw : w ≠ wUse) (h : (nums ++ [octW w]).headD 0 < nums.length + 1) : Goes ((i, nums) :: o) (⟨nm, w :: ws⟩ :: p) o (⟨i, laid (nums ++ [octW w]).tail⟩ :: ⟨nm, ws⟩ :: p) := ⟨1, fun n => (if_neg hw).trans (if_pos h)⟩
end
noncomputable def phi : List Tx → Nat
  | [] => 0
  | t :: p => 7 * t.ws.length + 1 + phi p
noncomputable def OkU (w : Wd) : Prop := w = wUse ∨ OkW w
noncomputable def Good (p : List Tx) : Prop := ∀ t ∈ p, ∀ w ∈ t.ws, OkU w
noncomputable def bot : List Tx → Option Wd
  | [] => none
  | [t] => t.nm
  | _ :: t :: p => bot (t :: p)
noncomputable def GoR (p : List Tx) (p' : List Tx) : Res → Prop
  | .word w => w ≠ wUse ∧ ∃ nm ws ts, p' = ⟨nm, ws⟩ :: ts ∧ ∀ o, Goes o p o (⟨nm, w :: ws⟩ :: ts)
  | .none => ∃ nm, p' = [⟨nm, []⟩] ∧ ∀ o, Goes o p o p'
  | .bad i => ∃ nm, p' = [⟨nm, []⟩] ∧ ∀ o, ∃ o', Goes o p (i :: o') p'
noncomputable def cost : Res → Nat
  | .word _ => 7
  | _ => 0
noncomputable def OkR : Res → Prop
  | .word w => OkW w
  | _ => True
structure GetR (p : List Tx) (r : Res) (p' : List Tx) : Prop where
  ph : phi p' + cost r ≤ phi p
  gd : Good p → Good p' ∧ OkR r
  bt : bot p' = bot p
  go : GoR p p' r
inductive Reads : List Tx → List Wd → List Tx → Prop
  | nil {p} : Reads p [] p
  | snoc {p ws p' w p''} : Reads p ws p' → GetR p' (.word w) p'' → Reads p (ws ++ [w]) p''
section
variable {p p' p'' : List Tx} {r : Res} {n : Option Wd} {w : Wd} {ws : List Wd} {ts : List Tx} {t : Tx} {i : It}
theorem Reads.ph (h : Reads p ws p') : phi p' + 7 * ws.length ≤ phi p := by
  induction h with
  | nil => exact Nat.le_refl _
  | snoc _ g ih =>
    have := g.ph
    rw [List.length_append, List.length_singleton]
    dsimp only [cost] at this
    omega
theorem Reads.gd (h : Reads p ws p') (hp : Good p) : Good p' ∧ ∀ w ∈ ws, OkW w := by
  induction h with
  | nil => exact ⟨hp, fun _ h => nomatch h⟩
  | snoc _ g ih =>
    obtain ⟨h1, h2⟩ := ih
    obtain ⟨h3, h4⟩ := g.gd h1
    refine ⟨h3, fun w hw => ?_⟩
    rcases List.mem_append.mp hw with h | h
    · exact h2 w h
    · rw [List.mem_singleton] at h; subst h; exact h4
theorem Reads.bt (h : Reads p ws p') : bot p' = bot p := by
  induction h with
  | nil => rfl
  | snoc _ g ih => exact g.bt.trans ih
theorem bot_cons : bot (t :: ⟨n, ws⟩ :: ts) = bot (⟨n, ws⟩ :: ts) := rfl
theorem bot_top {n' : Option Wd} : ∀ {ts : List Tx} {ws' : List Wd}, bot (⟨n, ws⟩ :: ts) = bot (⟨n, ws'⟩ :: ts)
  | [], _ => rfl
  | _ :: _, _ => rfl
theorem bot_cons' : p ≠ [] → bot (t :: p) = bot p := by
  intro h
  cases p with
  | nil => exact absurd rfl h
  | cons _ _ => rfl
theorem GoR.of (h : ∀ o, Goes o p o p') (g : GoR p' p'' r) : GoR p p'' r := by
  cases r with
  | word w =>
    obtain ⟨h1, nm, ws, ts, h2, h3⟩ := g
    exact ⟨h1, nm, ws, ts, h2, fun o => (h o).trans (h3 o)⟩
  | none =>
    obtain ⟨nm, h1, h2⟩ := g
    exact ⟨nm, h1, fun o => (h o).trans (h2 o)⟩
  | bad i =>
    obtain ⟨nm, h1, h2⟩ := g
    refine ⟨nm, h1, fun o => ?_⟩
    obtain ⟨o', h3⟩ := h2 o
    exact ⟨o', (h o).trans h3⟩
theorem Good.tail (h : Good (t :: p)) : Good p := fun u hu => h u (.tail _ hu)
theorem GetR.pop (h : GetR (t :: ts) r p') : GetR (⟨n, []⟩ :: t :: ts) r p' := by
  refine ⟨?_, fun hg => h.gd hg.tail, h.bt, GoR.of (fun o => Goes.pop) h.go⟩
  have := h.ph
  show _ ≤ 7 * 0 + 1 + phi (t :: ts)
  omega
theorem GetR.fin : GetR [⟨n, []⟩] .none [⟨n, []⟩] := ⟨Nat.le_refl _, fun h => ⟨h, trivial⟩, rfl, n, rfl, fun _ => Goes.refl⟩
theorem OkU.ne (h : OkU w) (h2 : w ≠ wUse) : OkW w := h.resolve_left h2
theorem GetR.word (hw : w ≠ wUse) : GetR (⟨n, w :: ws⟩ :: ts) (.word w) (⟨n, ws⟩ :: ts) := by
  refine ⟨?_, fun h => ⟨fun t ht => ?_, (h _ (.head _) _ (.head _)).ne hw⟩, bot_top (n' := n), hw, n, ws, ts, rfl, fun _ => Goes.refl⟩
  · show 7 * ws.length + 1 + phi ts + 7 ≤ 7 * (ws.length + 1) + 1 + phi ts
    omega
  · rcases List.mem_cons.mp ht with rfl | ht
    · exact fun v hv => h _ (.head _) v (.tail _ hv)
    · exact h t (.tail _ ht)
theorem goes_word {o : List It} (g : GetR p (.word w) p') : ∃ nm ws ts, w ≠ wUse ∧ p' = ⟨nm, ws⟩ :: ts ∧ Goes o p o (⟨nm, w :: ws⟩ :: ts) := by
  obtain ⟨h1, nm, ws, ts, h2, h3⟩ := g.go
  exact ⟨nm, ws, ts, h1, h2, h3 o⟩
theorem goes_count {o : List It} {j : Option Wd} (g : GetR p (.word w) p') (h : octW w ≠ 0) : Goes ((j, []) :: o) p ((j, [octW w]) :: o) p' := by
  obtain ⟨nm, ws, ts, h1, rfl, h3⟩ := goes_word (o := (j, []) :: o) g
  exact h3.trans (Goes.fed h1 (by show ¬ octW w < 1; omega))
theorem goes_count0 {o : List It} {j : Option Wd} (g : GetR p (.word w) p') (h : octW w = 0) : Goes ((j, []) :: o) p o (⟨j, []⟩ :: p') := by
  obtain ⟨nm, ws, ts, h1, rfl, h3⟩ := goes_word (o := (j, []) :: o) g
  exact h3.trans (Goes.close h1 (by show octW w < 1; omega))
theorem Reads.goes {o : List It} {j : Option Wd} {c : Nat} (h : Reads p ws p') (hl : ws.length < c) : Goes ((j, [c]) :: o) p ((j, c :: ws.map octW) :: o) p' := by
  induction h with
  | nil => exact Goes.refl
  | @snoc ws p' w p'' h g ih =>
    rw [List.length_append, List.length_singleton] at hl
    obtain ⟨nm, vs, ts, h1, rfl, h3⟩ := goes_word (o := (j, c :: ws.map octW) :: o) g
    have := ((ih (by omega)).trans h3).trans (Goes.fed h1 (by show ¬ c < (c :: ws.map octW).length + 1; simp; omega))
    rw [List.map_append]
    exact this
theorem Reads.closes {o : List It} {j : Option Wd} {c : Nat} (h : Reads p ws p') (hl : ws.length = c) (hc : c ≠ 0) : Goes ((j, [c]) :: o) p o (⟨j, laid (ws.map octW)⟩ :: p') := by
  cases h with
  | nil => exact absurd hl.symm hc
  | @snoc ws p' w _ h g =>
    rw [List.length_append, List.length_singleton] at hl
    obtain ⟨nm, vs, ts, h1, rfl, h3⟩ := goes_word (o := (j, c :: ws.map octW) :: o) g
    have := ((h.goes (by omega)).trans h3).trans (Goes.close h1 (by show c < (c :: ws.map octW).length + 1; simp; omega))
    rw [List.map_append]
    exact this
theorem piece_len (o : Nat) : (piece o).length ≤ 1 := by
  unfold piece
  have key : ∀ i : Fin 9, ([[[48]], [[49]], [[50]], [[51]], [wUse], [wUse], [wX], [], []].getD i.val ([] : List Wd)).length ≤ 1 := by decide
  exact key ⟨o % 9, Nat.mod_lt _ (by decide)⟩
theorem laid_len : ∀ os : List Nat, (laid os).length ≤ os.length
  | [] => Nat.le_refl _
  | o :: os => by
    have := laid_len os
    have := piece_len o
    unfold laid at *
    rw [List.flatMap_cons, List.length_append, List.length_cons]
    omega
theorem piece_ok (o : Nat) : ∀ w ∈ piece o, OkU w := by
  unfold piece
  have key : ∀ i : Fin 9, ∀ w ∈ [[[48]], [[49]], [[50]], [[51]], [wUse], [wUse], [wX], [], []].getD i.val ([] : List Wd), w = wUse ∨ goodW.any (fun q => q.1 == w) = true := by decide
  intro w hw
  rcases key ⟨o % 9, Nat.mod_lt _ (by decide)⟩ w hw with h | h
  · exact .inl h
  · obtain ⟨q, h1, h2⟩ := List.any_eq_true.mp h
    exact .inr ⟨q, h1, beq_iff_eq.mp h2⟩
theorem laid_ok (os : List Nat) : ∀ w ∈ laid os, OkU w := fun w hw => by
  obtain ⟨o, _, h⟩ := List.mem_flatMap.mp hw
  exact piece_ok o w h
noncomputable abbrev behind (n : Option Wd) (ws : List Wd) (ts : List Tx) : List Tx := ⟨n, ws.tail⟩ :: ts
theorem behind_ph : phi (behind n ws ts) + 7 ≤ phi (⟨n, wUse :: ws⟩ :: ts) := by
  show 7 * ws.tail.length + 1 + phi ts + 7 ≤ 7 * (ws.length + 1) + 1 + phi ts
  rw [List.length_tail]
  omega
theorem behind_gd (h : Good (⟨n, wUse :: ws⟩ :: ts)) : Good (behind n ws ts) := fun t ht => by
  rcases List.mem_cons.mp ht with rfl | ht
  · exact fun v hv => h _ (.head _) v (.tail _ (List.mem_of_mem_tail hv))
  · exact h t (.tail _ ht)
theorem behind_bt : bot (behind n ws ts) = bot (⟨n, wUse :: ws⟩ :: ts) := bot_top (n' := n)
theorem GetR.useN (h : GetR (behind n ws ts) .none p') : GetR (⟨n, wUse :: ws⟩ :: ts) (.bad (ws.head?, [])) p' := by
  obtain ⟨nm, h1, h2⟩ := h.go
  refine ⟨Nat.le_trans h.ph (Nat.le_trans (Nat.le_add_right _ 7) behind_ph), fun hg => ⟨(h.gd (behind_gd hg)).1, trivial⟩, h.bt.trans behind_bt, nm, h1, fun o => ⟨o, Goes.opn.trans (h2 _)⟩⟩
theorem GetR.useB (h : GetR (behind n ws ts) (.bad i) p') : GetR (⟨n, wUse :: ws⟩ :: ts) (.bad i) p' := by
  obtain ⟨nm, h1, h2⟩ := h.go
  refine ⟨Nat.le_trans h.ph (Nat.le_trans (Nat.le_add_right _ 7) behind_ph), fun hg => h.gd (behind_gd hg), h.bt.trans behind_bt, nm, h1, fun o => ?_⟩
  obtain ⟨o', h3⟩ := h2 ((ws.head?, []) :: o)
  exact ⟨o', Goes.opn.trans h3⟩
variable {p1 p2 p3 : List Tx} {os : List Wd}
theorem use_ph (g : GetR (behind n ws ts) (.word w) p2) (h : Reads p2 os p3) : phi p3 + 7 * os.length + 14 ≤ phi (⟨n, wUse :: ws⟩ :: ts) := by
  have h1 := g.ph
  have h2 := h.ph
  have h3 := @behind_ph n ws ts
  dsimp only [cost] at h1
  omega
theorem use_goes {o : List It} (g : GetR (behind n ws ts) (.word w) p2) (h : Reads p2 os p3) (hl : os.length < octW w) : Goes o (⟨n, wUse :: ws⟩ :: ts) ((ws.head?, octW w :: os.map octW) :: o) p3 :=
  (Goes.opn.trans (goes_count g (by omega))).trans (h.goes hl)
theorem GetR.useL (g : GetR (behind n ws ts) (.word w) p2) (h : Reads p2 os p3) (hl : os.length < octW w) (k : GetR p3 .none p') : GetR (⟨n, wUse :: ws⟩ :: ts) (.bad (ws.head?, octW w :: os.map octW)) p' := by
  obtain ⟨nm, h1, h2⟩ := k.go
  refine ⟨?_, fun hg => ⟨(k.gd (h.gd (g.gd (behind_gd hg)).1).1).1, trivial⟩, k.bt.trans (h.bt.trans (g.bt.trans behind_bt)), nm, h1, fun o => ⟨o, (use_goes g h hl).trans (h2 _)⟩⟩
  have := use_ph g h
  have := k.ph
  dsimp only [cost] at *
  omega
theorem GetR.useLB (g : GetR (behind n ws ts) (.word w) p2) (h : Reads p2 os p3) (hl : os.length < octW w) (k : GetR p3 (.bad i) p') : GetR (⟨n, wUse :: ws⟩ :: ts) (.bad i) p' := by
  obtain ⟨nm, h1, h2⟩ := k.go
  refine ⟨?_, fun hg => ⟨(k.gd (h.gd (g.gd (behind_gd hg)).1).1).1, trivial⟩, k.bt.trans (h.bt.trans (g.bt.trans behind_bt)), nm, h1, fun o => ?_⟩
  · have := use_ph g h
    have := k.ph
    dsimp only [cost] at *
    omega
  · obtain ⟨o', h3⟩ := h2 ((ws.head?, octW w :: os.map octW) :: o)
    exact ⟨o', (use_goes g h hl).trans h3⟩
theorem lay_ph (g : GetR (behind n ws ts) (.word w) p2) (h : Reads p2 os p3) : phi (⟨ws.head?, laid (os.map octW)⟩ :: p3) + 13 ≤ phi (⟨n, wUse :: ws⟩ :: ts) := by
  have := use_ph g h
  have := laid_len (os.map octW)
  rw [List.length_map] at this
  show 7 * (laid (os.map octW)).length + 1 + phi p3 + 13 ≤ _
  omega
theorem lay_gd (hg : Good p3) {j : Option Wd} {l : List Nat} : Good (⟨j, laid l⟩ :: p3) := fun t ht => by
  rcases List.mem_cons.mp ht with rfl | ht
  · exact laid_ok l
  · exact hg t ht
theorem GetR.nonempty (g : GetR p r p') : p' ≠ [] := by
  intro e
  subst e
  cases r with
  | word w => obtain ⟨_, _, _, _, h, _⟩ := g.go; cases h
  | none => obtain ⟨_, h, _⟩ := g.go; cases h
  | bad i => obtain ⟨_, h, _⟩ := g.go; cases h
theorem Reads.nonempty (h : Reads p ws p') (hp : p ≠ []) : p' ≠ [] := by
  induction h with
  | nil => exact hp
  | snoc _ g _ => exact g.nonempty
theorem GetR.use (g : GetR (behind n ws ts) (.word w) p2) (h : Reads p2 os p3) (hl : os.length = octW w) (k : GetR (⟨ws.head?, laid (os.map octW)⟩ :: p3) r p') : GetR (⟨n, wUse :: ws⟩ :: ts) r p' := by
  have hlp := lay_ph g h
  have hk := k.ph
  refine ⟨by omega, fun hg => k.gd (lay_gd (h.gd (g.gd (behind_gd hg)).1).1), ?_, GoR.of (p' := ⟨ws.head?, laid (os.map octW)⟩ :: p3) (fun o => ?_) k.go⟩
  · rw [k.bt, bot_cons' (h.nonempty g.nonempty), h.bt, g.bt, behind_bt]
  · by_cases h0 : octW w = 0
    · cases h with
      | nil => exact Goes.opn.trans (goes_count0 g h0)
      | snoc _ _ => rw [List.length_append, List.length_singleton] at hl; omega
    · exact (Goes.opn.trans (goes_count g h0)).trans (h.closes hl h0)
end
noncomputable def nmOf : List Tx → Option Wd
  | [] => none
  | t :: _ => t.nm
inductive TR : List Tx → List Row → Prop
  | fin {p p'} : GetR p .none p' → TR p [(.none, nmOf p')]
  | cons {p r p' rows} : GetR p r p' → r ≠ .none → TR p' rows → TR p ((r, nmOf p') :: rows)
theorem GetR.stuck {nm : Option Wd} {r : Res} {p' : List Tx} (g : GetR [⟨nm, []⟩] r p') : r = .none := by
  cases r with
  | none => rfl
  | word w =>
    have := g.ph
    have e : phi [⟨nm, []⟩] = 1 := rfl
    rw [e] at this
    dsimp only [cost] at this
    omega
  | bad i =>
    obtain ⟨n', h1, h2⟩ := g.go
    obtain ⟨o', k, h⟩ := h2 []
    subst h1
    have e := h 1
    rw [Nat.add_comm 1 k, ma, ma, ma, ma] at e
    cases e
theorem TR.ma {p : List Tx} {rows : List Row} (h : TR p rows) (hb : bot p = theLine) : ∃ n, ma n [] p = some rows := by
  induction h with
  | @fin p p' g =>
    obtain ⟨nm, h1, h2⟩ := g.go
    obtain ⟨k, h⟩ := h2 []
    have hn := g.bt
    subst h1
    refine ⟨1 + k, ?_⟩
    rw [h, Mine.ma, Mine.ma]
    have : nm = theLine := hn.trans hb
    rw [this]
    rfl
  | @cons p r p' rows g hr h ih =>
    cases r with
    | none => exact absurd rfl hr
    | word w =>
      obtain ⟨h1, nm, ws, ts, h2, h3⟩ := g.go
      subst h2
      obtain ⟨n, e⟩ := ih (g.bt.trans hb)
      obtain ⟨k, h4⟩ := h3 []
      refine ⟨n + 1 + k, ?_⟩
      rw [h4]
      exact (if_neg h1).trans (congrArg (Option.map _) e)
    | bad i =>
      obtain ⟨nm, h1, h2⟩ := g.go
      obtain ⟨o', k, h4⟩ := h2 []
      have hn := g.bt
      subst h1
      have hnm : nm = theLine := hn.trans hb
      refine ⟨1 + k, ?_⟩
      rw [h4, Mine.ma, Mine.ma]
      subst hnm
      cases h with
      | cons g' hr' _ => exact absurd g'.stuck hr'
      | fin g' =>
        obtain ⟨n2, h5, _⟩ := g'.go
        have h6 := g'.bt
        subst h5
        have : n2 = theLine := h6
        subst this
        rfl
end Mine

end
section
open Mine
namespace Mine
inductive Spell : List Nat → List Wd → Prop
  | nil {s} : (∀ line, ∃ line', Run s .ws [] line false .sp (.done [] .fin [] line' false [])) → Spell s []
  | cons {s s' w ws} : w ≠ [] → (∀ line, ∃ line' q, Run s .ws [] line false .sp (.done s' .ws w line' q [])) → Spell s' ws → Spell s (w :: ws)
structure TS where
  so : Addr
  sd : Addr
  hs : Nat → Int
  ts : Nat → Tok
  r : List Nat
  t1 : Tok
  t2 : Tok
  t3 : Tok
  pos : Nat
structure Lo where
  s : TS
  D : Addr
  nv : Value
  ln : Int
  tl : Tok
structure LX where
  x : Addr
  ld : Addr
  pb : Addr
  fs : Addr
  su : Value
  rd : Value
  hk : Value
  hs : Nat → Int
  ts : Nat → Tok
  tc : Nat → Tok
structure PS where
  s : TS
  nv : Value
  st : St
  tst : Tok
  ln : Int
  tl : Tok
  tt : Tok
  dn : Int
  fn : Int
  los : List Lo
noncomputable def lpOf (X : LX) (S : PS) : LP := ⟨X.x, X.ld, S.s.so, S.s.sd, X.pb, X.fs, S.nv, X.su, X.rd, X.hk, X.hs, X.ts, S.s.hs, S.s.ts, X.tc, S.s.r, S.s.t1, S.s.t2⟩
noncomputable def lvS (S : PS) : LV := ⟨S.st.val S.tst, S.ln, S.tl, T [], S.tt⟩
noncomputable abbrev tupV (vs : List Value) : Obj := { cls := .type "tuple", data := .seq vs.toArray }
noncomputable def tsO (s : TS) : Obj := sioD s.hs s.ts (T s.r) s.pos s.t1 s.t2 s.t3
noncomputable def loN : List Lo → Led
  | [] => []
  | e :: l => (e.D, tupV [e.nv, .ref e.s.so, .int e.ln e.tl]) :: (e.s.so, instObj 608 e.s.sd) :: (e.s.sd, tsO e.s) :: loN l
noncomputable def loA : List Lo → List Addr
  | [] => []
  | e :: l => e.D :: e.s.so :: e.s.sd :: loA l
noncomputable def restN (X : LX) (S : PS) (tl : Led) : Led := (X.fs, dqO S.fn (S.los.map fun e => .ref e.D)) :: (loN S.los ++ tl)
noncomputable def plN (X : LX) (S : PS) (tl : Led) : Led := rtN (lpOf X S) (lvS S) S.s.pos S.s.t3 S.dn [] (restN X S tl)
noncomputable def adr (X : LX) (S : PS) : List Addr := X.x :: X.ld :: S.s.so :: S.s.sd :: X.pb :: X.fs :: loA S.los
structure Dis (X : LX) (S : PS) (tl : Led) : Prop where
  nd : (adr X S).Nodup
  ne : ∀ q ∈ tl, q.1 ∉ adr X S
theorem loN_adr {l : List Lo} {q : Addr × Obj} (h : q ∈ loN l) : q.1 ∈ loA l := by
  induction l with
  | nil => cases h
  | cons e l ih =>
    unfold loN at h
    unfold loA
    rcases List.mem_cons.mp h with e | h
    · subst e; exact .head _
    rcases List.mem_cons.mp h with e | h
    · subst e; exact .tail _ (.head _)
    rcases List.mem_cons.mp h with e | h
    · subst e; exact .tail _ (.tail _ (.head _))
    · exact .tail _ (.tail _ (.tail _ (ih h)))
section
variable {X : LX} {S : PS} {tl : Led}
theorem nodup_ne {a b : Addr} {l : List Addr} (h : (a :: l).Nodup) (hb : b ∈ l) : @Ne Nat a b := fun e => (List.nodup_cons.mp h).1 (by rw [show a = b from e]; exact hb)
theorem Dis.rest (D : Dis X S tl) {a : Addr} (ha : a ∈ adr X S) (h1 : a ≠ X.fs) (h2 : a ∉ loA S.los) : ∀ q ∈ restN X S tl, q.1 ≠ a := by
  intro q hq e
  rcases List.mem_cons.mp hq with rfl | hq
  · exact h1 e.symm
  rcases List.mem_append.mp hq with h | h
  · exact h2 (e ▸ loN_adr h)
  · exact D.ne q h (e ▸ ha)
theorem Dis.rt (D : Dis X S tl) : RtD (lpOf X S) (restN X S tl) := by
  have n0 := D.nd
  unfold adr at n0
  have n1 := (List.nodup_cons.mp n0).2
  have n2 := (List.nodup_cons.mp n1).2
  have n3 := (List.nodup_cons.mp n2).2
  have n4 := (List.nodup_cons.mp n3).2
  refine ⟨nodup_ne n0 (.head _), nodup_ne n0 (.tail _ (.tail _ (.head _))), nodup_ne n2 (.head _), fun e => nodup_ne n3 (.head _) e.symm, fun e => nodup_ne n1 (.tail _ (.tail _ (.head _))) e.symm, fun e => nodup_ne n1 (.tail _ (.head _)) e.symm, fun e => nodup_ne n1 (.head _) e.symm, nodup_ne n0 (.tail _ (.tail _ (.tail _ (.head _)))), nodup_ne n2 (.tail _ (.head _)), ?_, ?_, ?_⟩
  · exact D.rest (a := S.s.sd) (.tail _ (.tail _ (.tail _ (.head _)))) (nodup_ne n3 (.tail _ (.head _))) fun h => (List.nodup_cons.mp n3).1 (.tail _ (.tail _ h))
  · exact D.rest (a := X.ld) (.tail _ (.head _)) (nodup_ne n1 (.tail _ (.tail _ (.tail _ (.head _))))) fun h => (List.nodup_cons.mp n1).1 (.tail _ (.tail _ (.tail _ (.tail _ h))))
  · exact D.rest (a := X.pb) (.tail _ (.tail _ (.tail _ (.tail _ (.head _))))) (nodup_ne n4 (.head _)) fun h => (List.nodup_cons.mp n4).1 (.tail _ h)
end
noncomputable def NmV : Option Wd → Value → Prop
  | none, v => v = .none
  | some w, v => IsS (T w) v
structure TsA (s : TS) (ws : List Wd) : Prop where
  hp : s.pos ≤ s.r.length
  hl : s.r.length < 9000
  sp : Spell (s.r.drop s.pos) ws
structure CuA (S : PS) (t : Tx) : Prop where
  nm : NmV t.nm S.nv
  hp : S.s.pos ≤ S.s.r.length
  hl : S.s.r.length < 9000
  sp : (S.st = .ws ∧ Spell (S.s.r.drop S.s.pos) t.ws) ∨ (S.st = .fin ∧ t.ws = [] ∧ S.s.r.length ≤ S.s.pos)
inductive LosA : List Lo → List Tx → Prop
  | nil : LosA [] []
  | cons {e l t p} : NmV t.nm e.nv → TsA e.s t.ws → LosA l p → LosA (e :: l) (t :: p)
inductive Abs (S : PS) : List Tx → Prop
  | mk {t ts} : CuA S t → LosA S.los ts → Abs S (t :: ts)
theorem Con.imp {d u : Nat} {w : World} {f : Addr} {n : Led} {pre pre' : Prop} {vs : List Value} {R R' : Value → Led → Prop} {RE RE' : List Value → Led → Prop} (C : Con d u w f n pre vs R RE) (hp : pre' → pre) (hR : ∀ v n', R v n' → R' v n') (hE : ∀ es n', RE es n' → RE' es n') : Con d u w f n pre' vs R' RE' :=
  fun p loose mean mg mb dp un gd cn cs a ccd cl outer A₀ base h₀ L m s Q E B F X N T hk hpre hd hu ret rai =>
    C p loose mean mg mb dp un gd cn cs a ccd cl outer A₀ base h₀ L m s Q E B F X N T hk (hp hpre) hd hu (fun v h' tk' n' r => ret v h' tk' n' (hR v n' r)) (fun e t g' h' tk' es n' r => rai e t g' h' tk' es n' (hE es n' r))
structure Same (S S' : PS) : Prop where
  nv : S'.nv = S.nv
  fn : S'.fn = S.fn
  los : S'.los = S.los
  so : S'.s.so = S.s.so
  sd : S'.s.sd = S.s.sd
theorem Same.adr {S S' : PS} (h : Same S S') (X : LX) : adr X S' = adr X S := by unfold Mine.adr; rw [h.los, h.so, h.sd]
theorem Same.dis {S S' : PS} {X : LX} {tl : Led} (h : Same S S') (D : Dis X S tl) : Dis X S' tl := ⟨by rw [h.adr]; exact D.nd, fun q hq => by rw [h.adr]; exact D.ne q hq⟩
noncomputable def RtW (S : PS) (t : Tx) (v : Value) (S' : PS) : Prop := Same S S' ∧ match t.ws with
  | [] => v = .none ∧ CuA S' ⟨t.nm, []⟩
  | w :: ws => IsS (T w) v ∧ S'.st = .ws ∧ CuA S' ⟨t.nm, ws⟩
theorem rtw_spec {w : World} {X : LX} {S : PS} {tl : Led} {t : Tx} (D : Dis X S tl) (A : CuA S t) : Con 10 80 w 711 (plN X S tl) True [.ref X.x] (fun v n' => ∃ S', RtW S t v S' ∧ n' = plN X S' tl) NoX := by
  have hlen : S.s.r.length < 10000 := Nat.lt_of_lt_of_le A.hl (by decide)
  have hp := A.hp
  have hst : ∃ O, (∀ line, True → ∃ line' q, Run (S.s.r.drop S.s.pos) S.st [] line false .sp (O line' q)) ∧ ((t.ws = [] ∧ O = fun l q => .done [] .fin [] l false []) ∨ ∃ w ws s', t.ws = w :: ws ∧ w ≠ [] ∧ Spell s' ws ∧ O = fun l q => .done s' .ws w l q []) := by
    rcases A.sp with ⟨h1, h2⟩ | ⟨h1, h2, h3⟩
    · rw [h1]
      generalize S.s.r.drop S.s.pos = s at h2
      generalize t.ws = ws at h2
      cases h2 with
      | nil h => exact ⟨_, fun line _ => (h line).imp fun l h => ⟨false, h⟩, .inl ⟨rfl, rfl⟩⟩
      | cons h3 h h4 => exact ⟨_, fun line _ => h line, .inr ⟨_, _, _, rfl, h3, h4, rfl⟩⟩
    · rw [h1, List.drop_eq_nil_of_le h3]
      exact ⟨_, fun line _ => ⟨line, false, Run.fin0⟩, .inl ⟨h2, rfl⟩⟩
  obtain ⟨O, hrun, hO⟩ := hst
  obtain ⟨line', q', hrun⟩ := hrun S.ln trivial
  refine Con.imp (rt_spec (P := lpOf X S) (news := restN X S tl) D.rt (pos := S.s.pos) (t3 := S.s.t3) (tst := S.tst) (tl := S.tl) (tt := S.tt) (st := S.st) (line := S.ln) (tok := []) (dn := S.dn)) (fun _ => ?_) ?_ ?_
  · refine ⟨hp, hlen, ?_, fun _ => rfl, ?_, ?_, ?_⟩
    · show 0 + 2 * (S.s.r.length - S.s.pos) < 60000
      omega
    · rcases A.sp with ⟨h1, _⟩ | ⟨h1, _⟩ <;> rw [h1] <;> exact fun z => nomatch z
    · rcases A.sp with ⟨h1, _⟩ | ⟨h1, _⟩ <;> rw [h1] <;> exact fun z => nomatch z
    · rcases A.sp with ⟨h1, _⟩ | ⟨h1, _, h3⟩
      · rw [h1]; exact fun z => nomatch z
      · exact fun _ => h3
  · rintro v n' ⟨c, push, dn', tv, h1, h2, h3, h4⟩
    have e := h1.det hrun
    have hcp : c.pos ≤ S.s.r.length := h2
    rcases hO with ⟨hw, rfl⟩ | ⟨w, ws, s', hw, hne, hsp, rfl⟩
    · injection e with e1 e2 e3 e4 e5 e6
      have hpush : push = [] := List.map_eq_nil_iff.mp e6
      subst hpush
      refine ⟨{ S with s := { S.s with pos := c.pos, t3 := c.t3 }, st := c.st, tst := c.tst, ln := c.line, tl := c.tl, tt := c.tt, dn := dn' }, ⟨⟨rfl, rfl, rfl, rfl, rfl⟩, ?_⟩, h4⟩
      rw [hw]
      refine ⟨by rw [h3, if_pos ⟨e5, e3⟩], A.nm, hcp, A.hl, .inr ⟨e2, rfl, List.drop_eq_nil_iff.mp e1⟩⟩
    · injection e with e1 e2 e3 e4 e5 e6
      have hpush : push = [] := List.map_eq_nil_iff.mp e6
      subst hpush
      refine ⟨{ S with s := { S.s with pos := c.pos, t3 := c.t3 }, st := c.st, tst := c.tst, ln := c.line, tl := c.tl, tt := c.tt, dn := dn' }, ⟨⟨rfl, rfl, rfl, rfl, rfl⟩, ?_⟩, h4⟩
      rw [hw]
      refine ⟨⟨tv, by rw [h3, if_neg (by rw [e3]; exact fun z => hne z.2), e3]⟩, e2, A.nm, hcp, A.hl, .inl ⟨e2, ?_⟩⟩
      exact e1 ▸ hsp
  · rintro es n' ⟨k, c, tm, h1, _⟩
    have e := h1.det hrun
    rcases hO with ⟨_, rfl⟩ | ⟨_, _, _, _, _, _, rfl⟩ <;> cases e
end Mine

end
section
open Mine
namespace Mine
open PySem.Builtin
noncomputable abbrev Byt (l : List Nat) : Array UInt8 := (l.map Nat.toUInt8).toArray
theorem byt_of (l : List Nat) : byteArr (l.map fun c : Nat => (c : Int)) = Byt l := by
  unfold byteArr Byt
  rw [List.map_map]; rfl
theorem byt_nat {l : List Nat} (h : ∀ c ∈ l, c < 256) : (Byt l).toList.map UInt8.toNat = l := by
  show ((l.map Nat.toUInt8).toArray.toList).map UInt8.toNat = l
  rw [List.toList_toArray, List.map_map]
  conv => rhs; rw [← List.map_id l]
  refine List.map_congr_left fun c hc => ?_
  have := h c hc
  simp [Nat.toUInt8, UInt8.toNat_ofNat, Nat.mod_eq_of_lt this]
theorem forIn_steps {β : Type} (f : Nat → β → Sem (ForInStep β)) (S : Nat → β) (n : Nat) (h : ∀ i k, k < n → f i (S k) = pure (.yield (S (k + 1)))) : ∀ m k j, k + m ≤ n → forIn (List.range' j m 1) (S k) f = pure (S (k + m))
  | 0, k, j, _ => rfl
  | m + 1, k, j, hm => by
    rw [List.range'_succ, List.forIn_cons, h j k (by omega)]
    show forIn (List.range' (j + 1) m 1) (S (k + 1)) f = _
    rw [forIn_steps f S n h m (k + 1) (j + 1) (by omega), show k + 1 + m = k + (m + 1) by omega]
theorem run_latin (id : String) (b : Array UInt8) (hz : b.size ≤ 10000) : _codecs.runDecoder id _codecs.latin1Decoder none true b 0 [] = pure ((b.toList.map UInt8.toNat).toArray, b.size) := by
  unfold _codecs.runDecoder
  dsimp only
  rw [KPc.range_list]
  refine (congrArg (fun t => t >>= _) (forIn_steps _ (fun k => (k, ((b.toList.take k).map UInt8.toNat).toArray, ({ held := [] } : _codecs.Faults))) b.size (fun i k hk => ?_) b.size 0 0 (by omega))).trans ?_
  · dsimp only
    rw [if_neg (by simp [sizeLine_eq]; omega), if_neg (by omega)]
    show pure (ForInStep.yield _) = _
    congr 3
    rw [List.take_add_one]
    simp [hk]
  · rw [Nat.zero_add]
    show (pure (((b.toList.take b.size).map UInt8.toNat).toArray, b.size) : Sem (Array Nat × Nat)) = _
    rw [List.take_of_length_le (by simp)]
theorem road_latin {id : String} {b : Array UInt8} : _codecs.decodeRoad id b (PySem.Str.ofString "latin-1") none [] = (_codecs.runDecoder id _codecs.latin1Decoder none true b 0 [] >>= fun r => mkStr ⟨r.1⟩) := by kernel_rfl
theorem entry_latin {c : UInt8} {cs : List UInt8} {t u : Tok} : «bytes.decode» ⟨[.bytes (c :: cs).toArray t, .str (PySem.Str.ofString "latin-1") u], []⟩ = (mkStr (PySem.Str.ofString "utf-8") >>= fun _ => mkStr (PySem.Str.ofString "latin-1") >>= fun e => mkStr (PySem.Str.ofString "bytes.decode") >>= fun d =>
    call (.builtin "_codecs.decode.text") [.bytes (c :: cs).toArray t, e, .none, d] >>= fun v => ret v) := by kernel_rfl
theorem entry_latin0 {t u : Tok} : «bytes.decode» ⟨[.bytes #[] t, .str (PySem.Str.ofString "latin-1") u], []⟩ = (rule "bytes.decode.empty" >>= fun _ => retStr Str.empty) := by kernel_rfl
theorem meets_text {b : Array UInt8} {x : Str} {n : Nat} {t t1 t2 : Tok} {d : Str} (hd : ∀ id, _codecs.runDecoder id _codecs.latin1Decoder none true b 0 [] = pure (x.cps, n)) :
    Meets («_codecs.decode.text» ⟨[.bytes b t, .str (PySem.Str.ofString "latin-1") t1, .none, .str d t2], []⟩) (fun _ R s => x.length ≤ sizeLine ∧ R (.ok (.ret (.str x s.toks))) { s with toks := s.toks + 1 }) := by
  refine .of_wp fun prog w A R s hS => ?_
  obtain ⟨hsz, h⟩ := hS
  show wpAny _ _ (Bytes.bytesLike _ (.bytes b t) >>= fun r => _) _ _ s
  refine wpAny_bind (wpAny_of_eq KBd.like_eq ?_)
  refine wpAny_bind (wpAny_of_eq KBd.held_eq ?_)
  show wpAny _ _ (_codecs.decodeRoad _ b (PySem.Str.ofString "latin-1") none [] >>= fun v => _) _ _ s
  rw [road_latin, hd]
  exact wpAny_bind (wpAny_bind (wpAny_pure (wpAny_mkStr (wpAny_pure ⟨_, rfl, h⟩) hsz)))
theorem args_decode_2 (a b : Value) : argsOk "bytes.decode" ⟨[a, b], []⟩ := by
  first | (unfold argsOk; kernel_rfl) | skip
section
variable {prog : Program} {w : World} {A : Around} {E : Value → Shared → Prop} {s : Shared} {t u : Tok} {Q : Value → Shared → Prop}
theorem decode_at {l : List Nat} (hl : ∀ c ∈ l, c < 256) (hz : l.length ≤ 10000) (h : ∀ t' k, Q (.str (T l) t') { s with toks := k }) :
    wpAny (model prog w) A (call (.builtin "bytes.decode") [.bytes (Byt l) t, .str (PySem.Str.ofString "latin-1") u]) Q E s := by
  refine call_meets FB.slot_bytes_decode (typeIs_bytes _ _ _) FB.entry_bytes_decode (args_decode_2 _ _) (S := fun _ R s => ∀ t' k, R (.ok (.ret (.str (T l) t'))) { s with toks := k }) (.of_wp fun prog w A R s h => ?_) (fun t' k => h t' k)
  have hd : ∀ id, _codecs.runDecoder id _codecs.latin1Decoder none true (Byt l) 0 [] = pure ((T l).cps, l.length) := fun id => by
    rw [run_latin id (Byt l) (by simpa [Byt] using hz), byt_nat hl]
    simp [Byt]
  cases l with
  | nil =>
    show wpAny _ _ («bytes.decode» ⟨[.bytes #[] t, .str (PySem.Str.ofString "latin-1") u], []⟩) _ _ s
    rw [entry_latin0]
    refine wpAny_bind (wpAny_rule ?_)
    exact wpAny_bind (wpAny_mkStr (wpAny_pure ⟨_, rfl, h _ _⟩) (by decide))
  | cons c l =>
    show wpAny _ _ («bytes.decode» ⟨[.bytes (c.toUInt8 :: l.map Nat.toUInt8).toArray t, .str (PySem.Str.ofString "latin-1") u], []⟩) _ _ s
    rw [entry_latin]
    refine wpAny_bind (wpAny_mkStr ?_ (by decide))
    refine wpAny_bind (wpAny_mkStr ?_ (by decide))
    refine wpAny_bind (wpAny_mkStr ?_ (by decide))
    exact wpAny_bind (call_function_meets KBd.kind_text KBd.plain_text KBd.entry_text (KBd.args_text _ _ _ _) (meets_text (x := T (c :: l)) hd) ⟨by rw [T_len, sizeLine_eq]; omega, wpAny_pure ⟨_, rfl, h _ _⟩⟩)
end
end Mine

end
section
open Mine
namespace Mine
section
variable {prog : Program} {w : World} {A : Around} {E : Value → Shared → Prop} {s : Shared} {h₀ : Heap} {L : Addr} {m : Str → Option Value} {env : Env}
noncomputable def StrSrc (prog : Program) (w : World) (A : Around) (h₀ : Heap) (L : Addr) (m : Str → Option Value) (env : Env) (elt : PySem.Expr) (x : Str) (scope : Scope) (cl : List (Str × Addr)) (Fin : Shared → List Value → List (Addr × Obj) → Prop) (xv : Value) (s₁ : Shared) : Prop :=
  ∃ l t news, xv = .str (T l) t ∧ A.handled = none ∧ Fr h₀ L s₁.heap m ∧ News h₀ L s₁.heap news ∧ l.length < 10000 ∧
    ∀ s₂ : Shared, (∃ h, s₂ = { s₁ with heap := h }) → LCg.CompRest prog w A h₀ L m env elt x scope cl s₂ (fun _ => True) (fun i v => ∃ c u, l[i]? = some c ∧ v = .str (⟨[c].toArray⟩ : Str) u) (Fin s₂) l.length 0 [] news
theorem comp_str {elt iter : PySem.Expr} {x : Str} {px : Pos} {scope : Scope} {cl : List (Str × Addr)} {pos : Pos} {Q : Value → Shared → Prop} (_F₀ : Fr h₀ L s.heap m)
    (hclos : closureFor scope env = pure cl) (hcell : ∀ y ∈ scope.names, y.2 ≠ .cell) (hkind : scope.kind = .function)
    (hnames : ∀ y ∈ scope.names, y.2 = .local → scope.names.lookup y.1 = some .local) (hx : scope.names.lookup x = some .local)
    (h : wpAny (model prog w) A (eval iter env) (StrSrc prog w A h₀ L m env elt x scope cl (fun s₂ => LCg.FinE h₀ L m s₂ Q)) E s)
    (hs : ∀ x, foldedSetIterable iter env x = pure x := by intro _; rfl) :
    wpAny (model prog w) A (eval (.ListComp elt [⟨.Name x px, iter, [], 0⟩] scope pos) env) Q E s := by
  rw [eval_ListComp]
  refine wpAny_comprehension_free (use := none) rfl hs hclos hkind hnames (wpAny_mono h (fun xv s₁ h₁ => ?_) fun _ _ e => e)
  obtain ⟨l, t, news, rfl, hh, F, N, hlen, R⟩ := h₁
  have hsz : (T l).cps.size = l.length := by simp
  have go : ∀ (cls : String) (o : Obj) (St : Nat → Heap → Prop), Walks prog w A s₁.heap.objs.size [s₁.heap.objs.size] [s₁.heap.objs.size] (T l).cps.size (SignAt (T l)) St → St 0 (s₁.heap.push o) → (∀ i h, St i h → ∃ o, h.get? s₁.heap.objs.size = some o) →
      wpAny (model prog w) A (newList []) (fun acc s₃ => wpAny (model prog w) A (newFunctionEnv scope env.globals cl [] env.qual none .none (some env)) (fun cenv s₄ =>
        codeAny (model prog w) A (.compStart (.ListComp elt [⟨.Name x px, iter, [], 0⟩] scope pos) 0 (.ref s₁.heap.objs.size) acc { cenv with scope := relabel scope env }) (compPost (model prog w) A E none Q acc cenv.locals) s₄) E s₃) E { s₁ with heap := s₁.heap.push o } := by
    intro cls o St W hst hIo
    have up : ∀ b o', s₁.heap.get? b = some o' → (s₁.heap.push o).get? b = some o' := fun b o' e => Heap.get?_push_of_some _ e
    have W' : Walks prog w A s₁.heap.objs.size [s₁.heap.objs.size] [s₁.heap.objs.size] l.length (fun i v => ∃ c u, l[i]? = some c ∧ v = .str (⟨[c].toArray⟩ : Str) u) St := by
      rw [hsz] at W
      exact { sub := W.sub, frame := W.frame, done := W.done, self := W.self, item := fun i s Q E hi st hQ => W.item i s Q E hi st fun v h' tk hP => hQ v h' tk (by
        obtain ⟨c, u, hc, rfl⟩ := hP
        exact ⟨c, u, by simpa using hc, rfl⟩) }
    refine LCg.block_U (RR := fun acc C => compPost (model prog w) A E none Q acc C) (S := fun _ => True) (news := news) W' (by rw [sizeLine_eq]; omega) hIo
      (fun i h h' o' nw st e e' _ _ _ => W.frame i h h' st fun b hb o'' e'' => by
        rw [List.mem_singleton.mp hb] at e'' ⊢
        rw [e] at e''; cases e''; exact e')
      hcell hkind hx hst (fun b hb => by rw [List.mem_singleton.mp hb]; show _ < (s₁.heap.push o).objs.size; rw [Heap.size_push]; exact Nat.lt_succ_self _)
      (F.keeps up) (N.grown up) (Nat.ne_of_lt F.ns.lt) (next_is_new F) (fun p hp => Nat.ne_of_lt (Heap.lt_size (N p hp).1)) trivial (R _ ⟨_, rfl⟩) ?_
    intro D C h tk m' ys news' F' N' o1 hn hC₀ hD₀ hCL hDL hCD offC fin
    refine ⟨m', hn, fun h'' hs'' => fin D h'' tk (F'.change hs'' hCL hC₀) (fun p hp => ?_) o1⟩
    refine ⟨hs''.extBut _ _ ?_ (N' p hp).1, (N' p hp).2⟩
    rcases List.mem_cons.mp hp with rfl | hp
    · exact Ne.symm hCD
    · exact offC p hp
  cases ha : (T l).cps.all (· < 128)
  · exact wpAny_pyIter_wide ha (go "" _ _ (Walks.strWide hh _ (T l) t) ⟨_, Heap.get?_push_size _ rfl, rfl, rfl⟩ (fun i h st => ⟨_, st.choose_spec.1⟩))
  · exact wpAny_pyIter_ascii ha (go "" _ _ (Walks.strAscii hh _ (T l) t) ⟨_, Heap.get?_push_size _ rfl, rfl, rfl⟩ (fun i h st => ⟨_, st.choose_spec.1⟩))
theorem ord_rest {elt : PySem.Expr} {x : Str} {scope : Scope} {cl : List (Str × Addr)} {S : List (Addr × Obj) → Prop} {Fin : List Value → List (Addr × Obj) → Prop} {news : List (Addr × Obj)} {l : List Nat}
    (turn : ∀ c t I oI C oC D m₂ ys h tk (E' : Value → Shared → Prop), c ∈ l → LCg.NsObj oC m₂ → m₂ x = some (.str (⟨[c].toArray⟩ : Str) t) → Fr h₀ L h m → News h₀ L h ((I, oI) :: (C, oC) :: (D, LCg.lst ys) :: news) → LCg.Off3 I C D news → ((@Ne Nat I C) ∧ (@Ne Nat I D) ∧ (@Ne Nat C D)) → KPfMark →
      wpAny (model prog w) A (eval elt (compEnvC scope cl C env)) (LCg.CompEnd h₀ L m { s with heap := h, toks := tk } I oI C oC D (LCg.lst ys) S (fun y news' => KCfEl news (c : Int) y news')) E' { s with heap := h, toks := tk })
    (fin : ∀ ys, IntsAre ys (l.map fun c : Nat => (c : Int)) → Fin ys news) : LCg.CompRest prog w A h₀ L m env elt x scope cl s S (fun i v => ∃ c u, l[i]? = some c ∧ v = .str (⟨[c].toArray⟩ : Str) u) Fin l.length 0 [] news := by
  have key : ∀ (j i : Nat) (ys : List Value), i + j = l.length → IntsAre ys ((l.take i).map fun c : Nat => (c : Int)) → LCg.CompRest prog w A h₀ L m env elt x scope cl s S (fun i v => ∃ c u, l[i]? = some c ∧ v = .str (⟨[c].toArray⟩ : Str) u) Fin j i ys news := by
    intro j
    induction j with
    | zero =>
      intro i ys hi hy
      have e : i = l.length := by omega
      subst e
      rw [List.take_length] at hy
      exact LCg.CompRest.zero (fin ys hy)
    | succ j ih =>
      intro i ys hi hy
      refine LCg.CompRest.succ ?_
      intro v I oI C oC D m₂ h tk E' hv hC hx F N off ne
      obtain ⟨c, u, hc, rfl⟩ := hv
      refine wpAny_mono (turn c u I oI C oC D m₂ ys h tk E' (List.mem_of_getElem? hc) hC hx F N off ne True.intro) (fun y s₂ hq => ?_) fun _ _ e => e
      obtain ⟨h', tk', nw, e, F', N', off', hS, rfl, t', rfl⟩ := hq
      refine ⟨h', tk', _, e, F', N', off', hS, ih (i + 1) _ (by omega) ?_⟩
      rw [List.take_add_one, hc]
      simpa using IntsAre.append hy (.cons (c : Int) t' .nil)
  exact key l.length 0 [] (by omega) (by simp only [List.take_zero, List.map_nil]; exact .nil)
theorem bytes_at {l : Addr} {vs : List Value} {ns : List Nat} {news : List (Addr × Obj)} {Q : Value → Shared → Prop} (F : Fr h₀ L s.heap m) (N : News h₀ L s.heap news) (hm : (l, LCg.lst vs) ∈ news) (hi : IntsAre vs (ns.map fun c : Nat => (c : Int))) (hr : ∀ c ∈ ns, c < 256) (hz : ns.length < 10000) (hh : A.handled = none)
    (hQ : ∀ h' t k, Fr h₀ L h' m → News h₀ L h' news → Q (.bytes (Byt ns) t) { s with heap := h', toks := k }) : wpAny (model prog w) A (call (.type "bytes") [.ref l]) Q E s := by
  have hl : s.heap.IsList l vs.toArray := ⟨_, (N _ hm).1, rfl, _, rfl⟩
  refine call_bytes_ints hl hi (fun n hn => ?_) (by have := hi.length; rw [List.length_map] at this; rw [sizeLine_eq]; omega) hh fun h' t k hk => ?_
  · obtain ⟨c, hc, rfl⟩ := List.mem_map.mp hn
    have := hr c hc
    omega
  · rw [byt_of]
    exact hQ h' t k (F.keeps hk) (N.grown hk)
end
theorem take_256 {r : List Nat} (h : ∀ x ∈ r, x < 256) {i j : Nat} : ∀ c ∈ (r.drop i).take j, c < 256 := fun c hc => h c (List.mem_of_mem_drop (List.mem_of_mem_take hc))
section
variable {prog : Program} {w : World} {A : Around} {E : Value → Shared → Prop} {s : Shared} {t u : Tok} {Q : Value → Shared → Prop}
theorem len_T {l : List Nat} (hl : l.length < 10000) (h : ∀ t' k, Q (.int (l.length : Int) t') { s with toks := k }) : wpAny (model prog w) A (call (.builtin "len") [.str (T l) t]) Q E s :=
  len_str (by rw [T_len]; omega) (by rw [T_len]; exact h _ _)
theorem byt_len (l : List Nat) : (KBw.bInts (Byt l)).length = l.length := by
  rw [KBw.ints_length]; simp [Byt]
theorem byt_ints {l : List Nat} (h : ∀ c ∈ l, c < 256) : KBw.bInts (Byt l) = l.map fun c : Nat => (c : Int) := by
  have := byt_nat h
  unfold KBw.bInts
  conv => rhs; rw [← this, List.map_map]
  rfl
theorem len_B {l : List Nat} (hl : l.length < 10000) (h : ∀ t' k, Q (.int (l.length : Int) t') { s with toks := k }) : wpAny (model prog w) A (call (.builtin "len") [.bytes (Byt l) t]) Q E s :=
  KBw.len_K rfl (by rw [byt_len]; omega) (by rw [byt_len]; exact h _ _)
theorem truthy_B {l : List Nat} {Q : Bool → Shared → Prop} (hl : l.length < 10000) (h : ∀ k, Q (!l.isEmpty) { s with toks := k }) : wpAny (model prog w) A (truthy (.bytes (Byt l) t)) Q E s := by
  refine KBw.truthy_K rfl (by rw [byt_len]; omega) ?_
  rw [byt_len]
  have : decide (0 < l.length) = !l.isEmpty := by cases l <;> simp
  rw [this]
  exact h _
theorem item_B {c : Nat} {l : List Nat} {ui : Tok} {value slice : PySem.Expr} (hc : c < 256) (hl : l.length < 10000) (h : ∀ t' k, Q (.int (c : Int) t') { s with toks := k })
    (hs : subscripted slice false (.bytes (Byt (c :: l)) t) (.int 0 ui) = operate [.bytes (Byt (c :: l)) t, .int 0 ui] (getItem (.bytes (Byt (c :: l)) t) (.int 0 ui)) := by with_unfolding_all rfl)
    (ht : ∀ r, letTemporaryGo value (.bytes (Byt (c :: l)) t) r = pure () := by intro _; with_unfolding_all rfl) : wpAny (model prog w) A (subscriptTail value slice (.bytes (Byt (c :: l)) t) (.int 0 ui)) Q E s := by
  refine KBw.item_K rfl (by rw [byt_len]; simp; omega) (by decide) (by rw [byt_len]; simp) (fun t' k _ _ => ?_) hs ht
  have : (KBw.bInts (Byt (c :: l))).getD (0 : Int).toNat 0 = (c : Int) := by
    show (((c.toUInt8).toNat : Nat) : Int) = _
    simp [Nat.toUInt8, UInt8.toNat_ofNat]; omega
  rw [this]
  exact h t' k
end
end Mine

end
section
open Mine
namespace Mine
open PySem.Builtin
section
variable {M : Model} {A : Around} {E : Value → Shared → Prop} {s : Shared} {env : Env}
theorem wpAny_assign_At {o : Expr} {attr : Str} {ap : Pos} {v : Value} {Q : Unit → Shared → Prop} (h : wpAny M A (eval o env) (fun ov s₂ => wpAny M A (setAttr ov attr v) Q E s₂) E s) : wpAny M A (assign (.Attribute o attr ap) env v) Q E s := fun Γ p hΓ => by
  simp only [assign_Attribute, Sem.wp_bind', Sem.wp_holding, Sem.wp_cmd_standAt, Sem.wp_release, Sem.wp_pure']
  exact Sem.wp_mono M Γ _ (fun ov _ s₂ h₂ => h₂ Γ _ hΓ) (fun _ _ _ h' => h') _ _ (h Γ p hΓ)
end
section
variable {M : Model} {A : Around} {E : Value → Shared → Prop} {s' : Shared} {base g g₂ h : Heap} {env : Env} {outer : List Env} {L e t : Addr} {m : Str → Option Value} {Q : Unit → Shared → Prop} {news : List (Addr × Obj)}
theorem Below.pushX (K : Below A base outer g) (F : Fr g L h m) (hf : env.frame = some L) (hk : env.scope.kind = .function) : Below (A.deeper env) base (env :: outer) h := by
  have hnew : base.get? L = none := by
    cases hq : base.get? L with
    | none => rfl
    | some o => exact absurd (Nat.lt_of_lt_of_le (Heap.lt_size (K.stays L o hq)) F.above) (Nat.lt_irrefl _)
  refine ⟨Around.frames_deeper K.stack, fun b o e => F.keep b o (K.stays b o e), ?_⟩
  exact .cons (by rw [hk]; decide) hf F.ns hnew (K.frames.of_keeps fun b o e _ => ⟨o, F.keep b o e, rfl⟩)
theorem memX {b : Addr} (hf : env.frame = some L) (hm : b ∈ (env :: outer).filterMap (·.frame)) : b = L ∨ b ∈ outer.filterMap (·.frame) := by
  obtain ⟨env', he, hf'⟩ := List.mem_filterMap.mp hm
  rcases List.mem_cons.mp he with e | he
  · subst e; rw [hf] at hf'; exact .inl (Option.some.inj hf').symm
  · exact .inr (List.mem_filterMap.mpr ⟨env', he, hf'⟩)
theorem leaveX_raise {cls : Value} {vs : List Value} (K : Below A base outer g) (hx : Heap.MadeExcOf h s'.heap e cls vs) (F : Fr g L h m) (N : News g L h news) (hfr : env.frame = some L) (hk : env.scope.kind = .function)
    (hQ : ∀ h' t, RaisedS base g outer e cls t vs news h' → RaisedK base outer e cls t vs news h' → g.UpToSlots h' → Q () { s' with heap := h' }) :
    wpAny M (A.deeper env) (leaving env (.ref e)) Q E s' := by
  have K' := Below.pushX K F hfr hk
  have hin : ∀ env' ∈ (env :: outer), ∀ b, env'.frame = some b → b ∈ (env :: outer).filterMap (·.frame) := fun env' he b hb => List.mem_filterMap.mpr ⟨env', he, hb⟩
  have st : base.StaysIn (hideAll h ((env :: outer).filterMap (·.frame))) := fun b o q => hideAll_get _ (K'.stays b o q) fun hm => by
    rw [(K'.frames.mem hm).1] at q; cases q
  have sg : ∀ b o, g.get? b = some o → b ∉ outer.filterMap (·.frame) → (hideAll h ((env :: outer).filterMap (·.frame))).get? b = some o := fun b o q nm => hideAll_get _ (F.keep b o q) fun hm => by
    rcases memX hfr hm with z | z
    · rw [z, kts_self F] at q
      cases q
    · exact nm z
  have hl : ∀ q ∈ news, (hideAll h ((env :: outer).filterMap (·.frame))).get? q.1 = some q.2 ∧ g.get? q.1 = none ∧ base.get? q.1 = none := fun q hq => by
    refine ⟨hideAll_get _ (N q hq).1 fun hm => ?_, (N q hq).2.2, fresh_of_stays K.stays (N q hq).2.2⟩
    obtain ⟨env', he, hf⟩ := List.mem_filterMap.mp hm
    rcases List.mem_cons.mp he with e | he
    · subst e; rw [hfr] at hf; exact (N q hq).2.1 (Option.some.inj hf).symm
    · obtain ⟨o, ho, _⟩ := (K.frames.mem (List.mem_filterMap.mpr ⟨env', he, hf⟩)).2
      rw [(N q hq).2.2] at ho; cases ho
  exact wpAny_leaves_madeW K'.stack hfr (fun b o q => of_hideAll _ q) (funFrames_hide K'.frames hin) hx fun h' t x1 x2 x3 x4 =>
    have R : RaisedS base g outer e cls t vs news h' := ⟨⟨_, st, sg, hl, x1, x3⟩, x2⟩
    hQ h' t R R.toK (((Heap.UpToSlots.of_keeps F.keep).trans (Heap.UpToSlots.of_keeps hx.keeps)).trans x4)
theorem leaveX_on {cls : Value} {vs : List Value} (K : Below A base outer g) (F : Fr g L g₂ m) (R : RaisedS base g₂ (env :: outer) e cls t vs news s'.heap) (hsm : g₂.UpToSlots s'.heap) (hfr : env.frame = some L)
    (hQ : ∀ h', RaisedS base g outer e cls t vs news h' → RaisedK base outer e cls t vs news h' → g.UpToSlots h' → Q () { s' with heap := h' }) :
    wpAny M (A.deeper env) (leaving env (.ref e)) Q E s' := by
  obtain ⟨⟨B, hB, hBG, hl, hfl, hnew⟩, htup⟩ := R
  exact wpAny_leaves_onW (Around.frames_deeper K.stack) hfr hfl fun h' x1 x2 =>
    have R : RaisedS base g outer e cls t vs news h' := ⟨⟨B, hB, fun b o q nm => hBG b o (F.keep b o q) (fun hm => by
      rcases memX hfr hm with z | z
      · rw [z, kts_self F] at q
        cases q
      · exact nm z), fun q hq => ⟨(hl q hq).1, kts_none F.keep (hl q hq).2.1, (hl q hq).2.2⟩, x1, hnew⟩, htup.of_slots x2⟩
    hQ h' R R.toK ((Heap.UpToSlots.of_keeps F.keep).trans (hsm.trans x2))
end
section
variable {prog : Program} {w : World} {A : Around} {E : Value → Shared → Prop} {s : Shared} {K : Frag} {x C : Addr} {ox : Obj} {od : Obj} {name : Str} {v a g : Value}
theorem findObj_shadow (hh : hasDictIn K C = true) (ha : findIn K (.ref C) name = some (some a)) (hg : specialIn K a "__get__" = some (some g)) (ht : takesIn K a = some false) (hl : lookIn name od = some (some v)) : findObj K C (some od) name = some (.value v) := by
  obtain ⟨cd, hc, hd⟩ := any_some hh
  unfold findObj
  rw [hc, Option.bind_some, ha, Option.bind_some]
  have ho : PySem.W.ownOf cd (some od) name = some (some v) := by unfold PySem.W.ownOf; rw [if_pos hd]; exact hl
  simp [hg, ht, ho]
theorem method_shadow {f : Addr} {pl : Sem Bool} {Q : Value × List Value → Shared → Prop} (X : K.In s.heap) (I : InstAt s.heap x ox C (some od)) (hga : findIn K (.ref C) "__getattribute__" = some (some (.builtin "object.__getattribute__"))) (hk : findIn K (.ref C) "__getattr__" = some none)
    (hf : findIn K (.ref C) name = some (some (.ref f))) (ht : typeIn K (.ref f) = some (.type "function")) (hs : shadowIn (some od) name = some true)
    (h : wpAny (model prog w) A (getAttr (.ref x) name) (fun v => Q (v, [])) E s) : wpAny (model prog w) A (getMethod (.ref x) name pl) Q E s := by
  have hcan := PySem.F.canon_object_ga
  have u : wpAny (model prog w) A (do return (← getAttr (.ref x) name, ([] : List Value))) Q E s := wpAny_bind (wpAny_mono h (fun _ _ z => wpAny_pure z) fun _ _ z => z)
  unfold getMethod specialOf
  refine wpAny_bind (wpAny_bind (I.type.here ((looks_findIn X hga).here ?_)))
  dsimp only
  rw [hcan, if_neg (by decide)]
  refine wpAny_bind (wpAny_bind (I.type.here ((looks_findIn X hk).here ?_)))
  refine wpAny_bind (wpAny_bind (I.type.here ((looks_findIn X hf).here (wpAny_bind ((looks_typeIn X ht).here ?_)))))
  rw [if_neg (by decide +kernel)]
  refine wpAny_bind (wpAny_loadPart I.at_ ?_)
  have hd := I.dict
  cases e : ox.dict with
  | none => rw [e] at hd; exact hd.elim
  | some dx =>
    rw [e] at hd
    obtain ⟨r, a, b⟩ := Option.map_eq_some_iff.mp hs
    refine wpAny_bind (wpAny_bind (wpAny_loadPart hd ?_))
    rw [nsLook_of a]
    refine wpAny_pure ?_
    rw [b]
    exact u
end
noncomputable def freeOk (K : Frag) (C : Addr) (name : Str) : Bool := plainGet K C name && hasDictIn K C && (findIn K (.ref C) name == some none)
noncomputable def shadOk (K : Frag) (C : Addr) (name : Str) (f : Addr) : Bool := plainGet K C name && hasDictIn K C && (findIn K (.ref C) name == some (some (.ref f))) && (typeIn K (.ref f) == some (.type "function")) && (match specialIn K (.ref f) "__get__" with | some (some _) => true | _ => false) && (takesIn K (.ref f) == some false)
section
variable {α : Type} {x : Fx} {f : Fn} {m : Loc} {n : Led}
theorem Tr.mown {a C d : Addr} {es : List DictEntry} {k : Nat} {name : Str} {v : Value} {sl : Array (Option Value)} {pl : Sem Bool} (h1 : (a, (⟨.ref C, some d, .plain, sl⟩ : Obj)) ∈ n) (h2 : (d, dictOf es k) ∈ n)
    (hc : (∀ P, freeOk (Mine.KK P) C name = true) ∨ ∃ g, ∀ P, shadOk (Mine.KK P) C name g = true) (hl : getL name es = some (some v)) (hv : handedIn v = true) {R : Value × List Value → Loc → Led → Prop} {X : List Value → Led → Prop} (h : R (v, []) m n) : Tr x f m n (getMethod (.ref a) name pl) R X := Tr.mk fun s Q E ok st q _ _ => by
  obtain ⟨⟨mm, F, km⟩, N⟩ := st
  have I := InstAt.of_news N h1 h2
  rcases hc with hc | ⟨g, hc⟩
  · have hc := hc x.w.params
    unfold freeOk at hc
    simp only [Bool.and_eq_true, beq_iff_eq] at hc
    exact kmu_own F ok.X I hc.1.1 hc.2 (get_own F ok.X I hc.1.1 hc.1.2 hc.2 rfl hl hv (q (v, []) m n s.heap _ h ⟨⟨mm, F, km⟩, N⟩))
  · have hc := hc x.w.params
    unfold shadOk at hc
    simp only [Bool.and_eq_true, beq_iff_eq] at hc
    obtain ⟨⟨⟨⟨⟨c1, c2⟩, c3⟩, c4⟩, c5⟩, c6⟩ := hc
    have hlk : lookIn name (dictOf es k) = some (some v) := by rw [lookIn_dict, hl]
    split at c5
    · next gg e5 =>
      refine method_shadow (ok.X.keeps F.keep) I (plainGet_of c1).1 (plainGet_of c1).2 c3 c4 ?_ ?_
      · show (lookIn name (dictOf es k)).map _ = _
        rw [hlk]; rfl
      · exact get_value (ok.X.keeps F.keep) I (plainGet_of c1).1 (findObj_shadow c2 c3 e5 c6 hlk) hv (q (v, []) m n s.heap _ h ⟨⟨mm, F, km⟩, N⟩)
    · cases c5
noncomputable def FnIn (g : Addr) (n : Led) : Prop := ∃ oc od fd sl, (g, (⟨oc, od, .func fd, sl⟩ : Obj)) ∈ n
theorem Ev.methOwn {o : Expr} {name : Str} {ap pos : Pos} {a C d g : Addr} {es : List DictEntry} {k : Nat} {sl : Array (Option Value)} {e : Expr} {rest : List Expr} {R : Value → Loc → Led → Prop} {X : List Value → Led → Prop} {pl : Sem Bool}
    (ho : Ep x f m n o (· = .ref a)) (h1 : (a, (⟨.ref C, some d, .plain, sl⟩ : Obj)) ∈ n) (h2 : (d, dictOf es k) ∈ n) (hc : (∀ P, freeOk (Mine.KK P) C name = true) ∨ ∃ g, ∀ P, shadOk (Mine.KK P) C name g = true) (hl : getL name es = some (some (.ref g))) (hg : FnIn g n)
    (ha : Er x f m n (e :: rest) (fun vs m₁ n₁ => FnIn g n₁ ∧ Tr x f m₁ n₁ (call (.ref g) vs) R X) X)
    (he : eval (.Call (.Attribute o name ap) (e :: rest) [] pos) (x.env f) = (do
      let ov ← eval o (x.env f)
      standAt ap.atName
      let (fv, first) ← holding [ov] (getMethod ov name pl)
      callWith pos fv first (backTo pos (starEach (e :: rest) (x.env f))) []) := by rfl)
    (hs : starEach (e :: rest) (x.env f) = (false, eval e (x.env f)) :: starEach rest (x.env f) := by rfl) (hs2 : ((backTo pos (starEach rest (x.env f))).any fun x => x.1) = false := by rfl) : Ev x f m n (.Call (.Attribute o name ap) (e :: rest) [] pos) R X :=
  Tr.mk fun s Q E ok st q ee po => MethodCall_ (ho.use ok st (fun v h' t1 hv0 st1 => by
    subst hv0
    refine (Tr.mown h1 h2 hc hl rfl (R := fun p m' n' => p = (.ref g, []) ∧ m' = m ∧ n' = n) (X := NoX) ⟨rfl, rfl, rfl⟩).use ok st1 (fun p h2 t2 hv0 st2 => ?_) po
    subst hv0
    obtain ⟨oc, od, fd, sl', hm⟩ := hg
    refine callWith_F (FnAt.of st2.2 hm) ((ha pos).run _ _ E ok st2 (fun vs m₂ n₂ h3 t3 ⟨hf, hc⟩ st3 => ?_) ee po) hs hs2
    obtain ⟨oc', od', fd', sl'', hm'⟩ := hf
    exact ⟨FnAt.of st3.2 hm', hc.run _ Q E ok st3 q ee po⟩) po) he
theorem Ep.nameF {y : Str} {pos : Pos} {c : Addr} {o : Obj} {v : Value} (hc : x.cl.lookup y = some c) (hm : (c, o) ∈ n) (ho : o.data = .cell (some v)) (hk : (x.env f).kindOf y = some .free := by rfl) (hd : (y == ("__debug__" : Str)) = false := by decide) (hn : (y == ("__classdict__" : Str)) = false := by decide) : Ep x f m n (.Name y pos) (· = v) :=
  Tr.mk fun s Q E ok st q _ _ => nameX_F st.2 hc hm ho (q v m n s.heap s.toks ⟨rfl, rfl, rfl⟩ st) ok.k hk hd hn
theorem Con.lam {d u : Nat} {w : World} {news : Led} {pre : Prop} {vs : List Value} {R : Value → Led → Prop} {RE : List Value → Led → Prop} {g0 c' : Addr} {name qual : Str} {params : Arguments} {body : Expr} {scope : Scope} {cl : List (Str × Addr)} {pm ct : Value} {oc : Obj} {ws : Array Value} {tq : Tok} {binds : List (Str × Value)}
    (hm : (g0, kla_obj name qual params body scope cl pm c' ct) ∈ news) (hc : (c', oc) ∈ news) (hoc : oc.data = .fields ws) (hws : ws[1]? = some (.str qual tq))
    (hbind : bindArgs (kla_fn name qual params body scope cl pm (.ref c') ct) ⟨vs, []⟩ = pure binds) (hloc : ∀ y ∈ binds, scope.names.lookup y.1 = some .local) (hdu : 0 < d ∧ 2 < u)
    (h : pre → ∀ x : Fx, x.w = w → x.c = d - 1 → x.u = u - 3 → x.cl = cl → Ev x ⟨qual, scope, g0, .ref c'⟩ binds.reverse news body (fun v _ n' => R v n') RE)
    (hco : scope.isCoroutine = false) (hgen : scope.isGenerator = false) (hk : scope.kind = .function) (hcell : ∀ x ∈ scope.names, x.2 ≠ .cell) : Con d u w g0 news pre vs R RE := by
  intro p loose mean mg mb dp un gd cn cs a ccd cl' outer A₀ base h₀ L m s Q E B F X N T hck hpre hdp hun ret rai
  refine wpAny_call (kla_code (env := envX cn cs L a ccd cl') (outer := outer) B F X N T rfl rfl hck hm (codeRec_news N hc hoc hws) ?_ hbind hloc ?_ hco hgen hk hcell)
  · show dp < recursionLimit
    omega
  intro G LL h1 FG F1 N1 B1 X1 T1
  refine (h hpre ⟨w, p, loose, mean, mg, mb, dp + 1, un + 3, d - 1, u - 3, gd, cl, envX cn cs L a ccd cl' :: outer, _, base, G, LL⟩ rfl rfl rfl rfl).run _ _ _ ⟨B1, X1, T1, hk, (by show dp + 1 + (d - 1) < recursionLimit; omega), (by show un + 3 + (u - 3) < cLine; omega)⟩ ⟨⟨_, F1, fun _ _ e => e⟩, N1⟩ ?_ ?_ ?_
  · rintro v m' n' h' tk' r ⟨⟨mm, F', _⟩, N'⟩
    exact ⟨LL, mm, n', F', N', fun F₂ N₂ => ret v h' tk' n' r F₂ N₂⟩
  · rintro e h' tk' es n' r z
    rcases z with ⟨g1, mm, hx, F', N'⟩ | ⟨t, g1, mm, F', RS, u⟩
    · exact leaveX_raise (env := envX qual scope LL g0 (.ref c') cl) B1 hx F' N' rfl hk (fun h₂ t R₁ R₂ U => rai e t G h₂ tk' es n' r FG R₁ R₂ U)
    · exact leaveX_on (env := envX qual scope LL g0 (.ref c') cl) B1 F' RS u rfl (fun h₂ R₁ R₂ U => rai e t G h₂ tk' es n' r FG R₁ R₂ U)
  · exact PassesOwn.leaving
theorem Ep.lxm {P : LP} {c : LV} {y name : Str} {yp ap : Pos} {v : Value} (hy : look m y = some (.ref P.x)) (h1 : (P.x, instObj 743 P.ld) ∈ n) (h2 : (P.ld, lexP P c) ∈ n) (hA : getL name (lexes P c) = some (some v)) (hO : ∀ Q, ownOk (Mine.KK Q) 743 name = true) (hv : handedIn v = true := by rfl)
    (hx : (x.env f).kindOf y = some .local := by rfl) (hd : (y == ("__debug__" : Str)) = false := by decide) : Ep x f m n (.Attribute (.Name y yp) name ap) (· = v) :=
  Ep.at rfl (Ep.name hy hx hd) (Tr.own h1 h2 hO hA hv ⟨rfl, rfl, rfl⟩)
theorem Tr.sxl {P : LP} {c : LV} {name : Str} {v : Value} {es' : List DictEntry} {rest : Led} {R : Unit → Loc → Led → Prop} {X : List Value → Led → Prop} (h1 : @Ne Nat P.x P.ld) (h2 : ∀ q ∈ rest, q.1 ≠ P.ld) (hz : es'.length ≤ 1000) (hA : ∃ w, getL name (lexes P c) = some w) (hO : ∀ Q, setIn (Mine.KK Q) 743 name = true)
    (e : ∀ h k, (putL name h k v (lexes P c), putN name (lexes P c) 21) = (es', 21)) (h : R () m ((P.x, instObj 743 P.ld) :: (P.ld, dictOf es' 21) :: rest)) : Tr x f m ((P.x, instObj 743 P.ld) :: (P.ld, lexP P c) :: rest) (setAttr (.ref P.x) name v) R X := Tr.mk fun s Q E ok st q _ _ => by
  obtain ⟨⟨mm, F, km⟩, N⟩ := st
  obtain ⟨g1, g2, g3, g4⟩ := setIn_of (hO x.w.params)
  obtain ⟨w, hw⟩ := hA
  exact set_dict F ok.X N (InstAt.of_news N (.head _) (.tail _ (.head _))) rfl g1 g2 g4 g3 (by rw [hw]; rfl) (e _ _) (.tail h1 (.head h2)) hz fun h' F' N' => q () m _ h' _ h ⟨⟨mm, F', km⟩, N'⟩
theorem Tr.ainA {y name : Str} {yp ap : Pos} {a : Addr} {v : Value} {ts : List (Value → Sem Unit)} {vs : List Value} {R : Unit → Loc → Led → Prop} {X : List Value → Led → Prop} (hy : Ep x f m n (.Name y yp) (· = .ref a)) (h : Tr x f m n (setAttr (.ref a) name v) (fun _ m' n' => Tr x f m' n' (assignInOrder ts vs) R X) X) : Tr x f m n (assignInOrder (assign (.Attribute (.Name y yp) name ap) (x.env f) :: ts) (v :: vs)) R X :=
  Tr.mk fun s Q E ok st q ee po => assignInOrder_cons (wpAny_assign_At (hy.use ok st (fun v0 h2 t2 hv0 st2 => by
    subst hv0
    exact h.run _ _ E ok st2 (fun _ m' n' h' tk' z st3 => z.run _ Q E ok st3 q ee po) ee po) po))
theorem put_infile {P : LP} {c : LV} (v : Value) (h : Int) (k : Value) : (putL (Str.ofString "infile") h k v (lexes P c), putN (Str.ofString "infile") (lexes P c) 21) = (lexes { P with nf := v } c, 21) := by kernel_rfl
theorem put_instream {P : LP} {c : LV} (a : Addr) (h : Int) (k : Value) : (putL (Str.ofString "instream") h k (.ref a) (lexes P c), putN (Str.ofString "instream") (lexes P c) 21) = (lexes { P with sio := a } c, 21) := by kernel_rfl
theorem lt_infile : ∀ Q, setIn (Mine.KK Q) 743 (Str.ofString "infile") = true := by intro Q; kernel_rfl
theorem lt_instream : ∀ Q, setIn (Mine.KK Q) 743 (Str.ofString "instream") = true := by intro Q; kernel_rfl
theorem lo_infile : ∀ Q, ownOk (Mine.KK Q) 743 (Str.ofString "infile") = true := by intro Q; kernel_rfl
theorem lo_source : ∀ Q, ownOk (Mine.KK Q) 743 (Str.ofString "source") = true := by intro Q; kernel_rfl
theorem lo_filestack : ∀ Q, ownOk (Mine.KK Q) 743 (Str.ofString "filestack") = true := by intro Q; kernel_rfl
theorem lo_eof : ∀ Q, ownOk (Mine.KK Q) 743 (Str.ofString "eof") = true := by intro Q; kernel_rfl
theorem lf_read : ∀ Q, freeOk (Mine.KK Q) 743 (Str.ofString "read") = true := by intro Q; kernel_rfl
theorem ls_hook : ∃ g, ∀ Q, shadOk (Mine.KK Q) 743 (Str.ofString "sourcehook") g = true := ⟨718, by intro Q; kernel_rfl⟩
theorem Ev.methB0 {o : Expr} {name : Str} {ap pos : Pos} {ov : Value} {id : String} {first : List Value} {R : Value → Loc → Led → Prop} {X : List Value → Led → Prop} {pl : Sem Bool}
    (ho : Ep x f m n o (· = ov)) (hm : Tr x f m n (getMethod ov name pl) (fun p m' n' => p = (.builtin id, first) ∧ m' = m ∧ n' = n) NoX) (h : Tr x f m n (call (.builtin id) first) R X)
    (he : eval (.Call (.Attribute o name ap) [] [] pos) (x.env f) = (do
      let ov ← eval o (x.env f)
      standAt ap.atName
      let (fv, first) ← holding [ov] (getMethod ov name pl)
      callWith pos fv first (backTo pos (starEach [] (x.env f))) []) := by rfl) : Ev x f m n (.Call (.Attribute o name ap) [] [] pos) R X :=
  Tr.mk fun s Q E ok st q ee po => MethodCall_ (ho.use ok st (fun v h' t1 hv0 st1 => by
    subst hv0
    refine hm.use ok st1 (fun p h2 t2 hv0 st2 => ?_) po
    subst hv0
    exact callWith_method0 (h.run _ Q E ok st2 q ee po)) po) he
theorem Tp.ofV {e : Expr} {v : Value} {b : Bool} (h : Ep x f m n e (· = v)) (hv : ∀ (s : Shared) (Q : Bool → Shared → Prop) (E : Value → Shared → Prop), News x.G x.L s.heap n → (∀ k, Q b { s with toks := k }) → wpAny x.M (x.A f) (truthy v) Q E s) (hp : isTrue e (x.env f) (eval e (x.env f)) = (do
      let v ← eval e (x.env f)
      standAt e.pos
      holding [v] (truthy v)) := by rfl) : Tp x f m n e b := Tr.mk fun s Q E ok st q ee po => isTrue_plain (h.use ok st (fun u h1 t1 e1 st1 => by
    subst e1
    exact hv _ _ E st1.2 fun k => q _ _ _ _ _ ⟨rfl, rfl, rfl⟩ st1) po) hp
theorem Tp.dq {e : Expr} {D : Addr} {c : Int} {vs : List Value} (h : Ep x f m n e (· = .ref D)) (hm : (D, dqO c vs) ∈ n) (hl : vs.length < 1000) (hp : isTrue e (x.env f) (eval e (x.env f)) = (do
      let v ← eval e (x.env f)
      standAt e.pos
      holding [v] (truthy v)) := by rfl) : Tp x f m n e (!vs.isEmpty) := Tp.ofV h (fun s Q E N q => dq_truthy_N N hm (by omega) q) hp
theorem Tv.int0 {t : Tok} : Tv (· = .int 0 t) false := fun _ _ _ s _ _ h q => by subst h; exact truthy_int (q s.toks)
theorem Ex.asrt {test : Expr} {msg : Option Expr} {pos : Pos} {r : List Stmt} {R : Flow → Loc → Led → Prop} {X : List Value → Led → Prop} (ht : Tp x f m n test true) (h : Ex x f m n r R X) : Ex x f m n (.Assert test msg pos :: r) R X :=
  Ex.go <| Tr.mk fun s Q E ok st q ee po => wpAny_Assert_holds (ht.use ok st (fun b h1 t1 hb st1 => by
    subst hb
    exact ⟨rfl, q .next m n _ _ ⟨rfl, h⟩ st1⟩) po)
end
end Mine

end
section
open Mine
namespace Mine
section
variable {x : Fx} {f : Fn} {m : Loc} {n : Led} {R : Flow → Loc → Led → Prop} {X : List Value → Led → Prop}
noncomputable def FPost (x : Fx) (f : Fn) {σ : Type} (ps : σ → Loc) (led : σ → Led) (P : Nat → σ → Prop) (i : Nat) (own : Led) (r : List Stmt) (R : Flow → Loc → Led → Prop) (X : List Value → Led → Prop) : Flow → Loc → Led → Prop
  | .ret v, m', n' => R (.ret v) m' n'
  | .brk, m', n' => Ex x f m' n' r R X
  | _, m', n' => ∃ c', P (i + 1) c' ∧ (∀ p ∈ ps c', look m' p.1 = some p.2) ∧ (∀ q ∈ led c', q ∈ n') ∧ (∀ q ∈ own, q ∈ n') ∧ OwnOff own ((led c').map (·.1))
theorem Ex.forL {σ : Type} {y : Str} {yp pos : Pos} {iter : Expr} {body r : List Stmt} {l : Addr} {vs : List Value} {nn : Nat} (ps : σ → Loc) (led : σ → Led) (P : Nat → σ → Prop) (c₀ : σ) (hi : Ep x f m n iter (· = .ref l))
    (hl : ∀ i c, P i c → (l, listOf vs.toArray nn) ∈ led c) (hm : ∀ p ∈ ps c₀, look m p.1 = some p.2) (hn : ∀ q ∈ led c₀, q ∈ n) (hp : P 0 c₀)
    (turn : ∀ i v c own, vs[i]? = some v → OwnOff own ((led c).map (·.1)) → P i c → Ex x f ((y, v) :: ps c) (led c ++ own) body (FPost x f ps led P i own r R X) X)
    (done : ∀ c, P vs.length c → Ex x f (ps c) (led c) r R X) (hx : (x.env f).kindOf y = some .local := by rfl) (hs : ∀ v, foldedSetIterable iter (x.env f) v = pure v := by intro _; rfl) :
    Ex x f m n (.For (.Name y yp) iter body [] pos :: r) R X := by
  refine Ex.st (R₁ := fun fl m₁ n₁ => match fl with | .next => Ex x f m₁ n₁ r R X | fl => R fl m₁ n₁) (Tr.mk fun s Q E ok st q ee po => ?_) (fun _ _ h => h) (fun fl _ _ hne h => by cases fl <;> first | exact absurd rfl hne | exact h)
  have st0 := st
  obtain ⟨⟨mm, F, km⟩, N⟩ := st
  refine For_invVF (h₀ := x.G) F hx (by have := ok.k; show ((f.cs.kind == .class) || ((f.cs.kind == .module) && _)) = false; rw [this]; rfl) (hi.run s _ E ok st0 ?_ (fun _ _ _ _ _ z => z.elim) po) hs po
  rintro v m₀ n₀ h₀ t₀ ⟨hv, e1, e2⟩ ⟨⟨mm₀, F₀, km₀⟩, N₀⟩
  subst hv e1 e2
  refine kdl_iter (news := led c₀) (fun i mm nx => ∃ c : σ, nx = led c ∧ (∀ p ∈ ps c, mm p.1 = some p.2) ∧ P i c) rfl (hl 0 c₀ hp) F₀ (fun q hq => N₀ q (hn q hq)) ⟨c₀, rfl, fun p hp => km₀ _ _ (hm p hp), hp⟩ ?_ ?_
  · rintro i v m₁ nx h tk own hv hoff _ ⟨c, rfl, hk, hP⟩ F₁ N₁
    refine (turn i v c own hv hoff hP).run _ _ E ok ⟨⟨_, F₁, fun z u e => ?_⟩, N₁⟩ ?_ (fun e h' tk' es n' hx hz => ee e h' tk' es n' hx hz) po
    · rw [look_cons] at e
      dsimp only at e ⊢
      split at e
      · next hz => rw [if_pos hz]; exact e
      · next hz => rw [if_neg hz]; exact look_of hk z u e
    · intro fl m₂ n₂ h₂ t₂ hr st₂
      cases fl with
      | ret v => exact q _ m₂ n₂ h₂ t₂ hr st₂
      | brk => exact q _ m₂ n₂ h₂ t₂ hr st₂
      | next =>
        obtain ⟨c', h3, h5, h6, h7, h8⟩ := hr
        obtain ⟨⟨mm₂, F₂, k₂⟩, N₂⟩ := st₂
        exact InvEndG.intro F₂ N₂ ⟨hl _ _ h3, c', rfl, fun p hp => k₂ _ _ (h5 p hp), h3⟩ h8 h6 h7
      | cont =>
        obtain ⟨c', h3, h5, h6, h7, h8⟩ := hr
        obtain ⟨⟨mm₂, F₂, k₂⟩, N₂⟩ := st₂
        exact InvEndG.intro F₂ N₂ ⟨hl _ _ h3, c', rfl, fun p hp => k₂ _ _ (h5 p hp), h3⟩ h8 h6 h7
  · rintro m₁ nx h tk ⟨c, rfl, hk, hP⟩ F₁ N₁
    exact q .next _ _ h tk (done c hP) ⟨⟨m₁, F₁, look_of hk⟩, N₁⟩
theorem Ev.app {y : Str} {yp ap pos : Pos} {D : Addr} {its : List Value} {k : Nat} {e : Expr} {R : Value → Loc → Led → Prop} {pl : Sem Bool} (hy : look m y = some (.ref D))
    (hm : (D, listOf its.toArray k) ∈ n) (ha : Er x f m n [e] (fun vs m₁ n₁ => ∃ v rest, vs = [v] ∧ its.length ≤ 1000 ∧ (∀ q ∈ (D, listOf its.toArray k) :: rest, q ∈ n₁) ∧ (∀ p ∈ rest, p.1 ≠ D) ∧ R .none m₁ ((D, listOf (its ++ [v]).toArray (k + 1)) :: rest)) X)
    (hx : (x.env f).kindOf y = some .local := by rfl) (hd : (y == ("__debug__" : Str)) = false := by decide)
    (he : eval (.Call (.Attribute (.Name y yp) (Str.ofString "append") ap) [e] [] pos) (x.env f) = (do
      let ov ← eval (.Name y yp) (x.env f)
      standAt ap.atName
      let (fv, first) ← holding [ov] (getMethod ov (Str.ofString "append") pl)
      callWith pos fv first (backTo pos (starEach [e] (x.env f))) []) := by rfl)
    (hs : starEach [e] (x.env f) = (false, eval e (x.env f)) :: starEach [] (x.env f) := by rfl) : Ev x f m n (.Call (.Attribute (.Name y yp) (Str.ofString "append") ap) [e] [] pos) R X :=
  Tr.mk fun s Q E ok st q ee po => MethodCall_ ((Ep.name hy hx hd).use ok st (fun v h1 t1 hv st1 => by
    subst hv
    refine listMethod_K st1.2 hm PySem.F.slot_list_append PySem.F.type_list_append ?_
    refine callWith_method1 ((ha pos).run _ _ E ok st1 ?_ ee po) hs rfl
    rintro vs m₂ n₂ h2 t2 ⟨v, rest, rfl, hlen, hsub, hne, hR⟩ ⟨⟨mm, F, km⟩, N⟩
    refine append_K F (fun q hq => N q (hsub q hq)) (Upd.head hne) (fun h' F' N' => ?_) (by rw [sizeLine_eq, List.size_toArray]; omega)
    rw [List.push_toArray] at N'
    exact q _ _ _ h' _ hR ⟨⟨mm, F', km⟩, N'⟩) po) he
theorem Tr.ain0 {vs : List Value} {R : Unit → Loc → Led → Prop} (h : R () m n) : Tr x f m n (assignInOrder [] vs) R X := Tr.mk fun s Q E ok st q ee po => assignInOrder_nil (q _ _ _ s.heap s.toks h st)
theorem Tr.ain {y : Str} {p : Pos} {v : Value} {ts : List (Value → Sem Unit)} {vs : List Value} {R : Unit → Loc → Led → Prop} (hx : (x.env f).kindOf y = some .local) (h : Tr x f ((y, v) :: m) n (assignInOrder ts vs) R X) : Tr x f m n (assignInOrder (assign (.Name y p) (x.env f) :: ts) (v :: vs)) R X :=
  Tr.mk fun s Q E ok st q ee po => assignInOrder_cons (PyProof.Rows.assign_Name ((Tr.store hx (R := fun _ m₂ n₂ => m₂ = (y, v) :: m ∧ n₂ = n) (X := X) ⟨rfl, rfl⟩).run _ _ E ok st (fun _ _ _ h2 t2 ⟨e1, e2⟩ st2 => h.run _ Q E ok (e1 ▸ e2 ▸ st2) q ee po) ee po))
theorem Ex.unp {elts : List Expr} {tp pos : Pos} {k : Nat} {e : Expr} {r : List Stmt} (h : Ev x f m n e (fun v m₁ n₁ => ∃ D vs o, v = .ref D ∧ (D, ⟨.type "tuple", none, .seq (List.toArray vs), o⟩) ∈ n₁ ∧ (assignEach elts (x.env f)).length = vs.length ∧ Tr x f m₁ n₁ (assignInOrder (List.map (fun x => x.2) (assignEach elts (x.env f))) vs) (fun _ m₂ n₂ => Ex x f m₂ n₂ r R X) X) X)
    (hs : swapsWithSole [.Tuple elts k tp] e pos.line (x.env f) = pure false := by rfl) (hs2 : swappedStores [.Tuple elts k tp] e (x.env f) = pure none := by rfl) (hf : List.findIdx? (fun x => x.1) (assignEach elts (x.env f)) = none := by rfl) : Ex x f m n (.Assign [.Tuple elts k tp] e pos :: r) R X :=
  Ex.go <| Tr.mk fun s Q E ok st q ee po => Assign_Tuple (h.run s _ E ok st (fun v m₁ n₁ h1 t1 ⟨D, vs, o, hv, hm, hl, hE⟩ ⟨⟨mm, F, km⟩, N⟩ => by
    subst hv
    refine unpackN_ F N (N.isTup hm) rfl (by rw [hl, List.size_toArray]) hf fun h' F' N' => ?_
    exact hE.run _ _ E ok ⟨⟨mm, F', km⟩, N'⟩ (fun _ m₂ n₂ h2 t2 z st2 => q _ m₂ n₂ h2 t2 ⟨rfl, z⟩ st2) ee po) ee po) hs hs2
theorem Tp.tup {y : Str} {yp : Pos} {d : Addr} {vs : List Value} (hy : look m y = some (.ref d)) (hm : (d, (⟨.type "tuple", none, .seq vs.toArray, #[]⟩ : Obj)) ∈ n) (hl : vs.length ≤ 1000) (hx : (x.env f).kindOf y = some .local := by rfl) (hd : (y == ("__debug__" : Str)) = false := by decide) : Tp x f m n (.Name y yp) (!vs.isEmpty) :=
  Tr.mk fun s Q E ok st q ee po => isTrue_plain ((Ep.name hy hx hd).use ok st (fun v h1 t1 hv st1 => by
    subst hv
    exact ktl_truthyK st1.2 hm hl (q _ _ _ _ _ ⟨rfl, rfl, rfl⟩ st1)) po) rfl
end
theorem Co.neC {y z : Str} {b : Bool} (hb : (y.cps.toList != z.cps.toList) = b) : Cop .NotEq (IsS y) (IsS z) b := by
  rintro w A E s Q _ _ ⟨t, rfl⟩ ⟨t', rfl⟩ q
  refine P.ne_str ?_
  subst hb
  exact q s.toks
noncomputable def fB : Stmt → List Stmt
  | .For _ _ b _ _ => b
  | _ => []
end Mine

end
section
open Mine
namespace Mine
section
variable {α : Type} {x : Fx} {f : Fn} {m : Loc} {n : Led}
theorem Tr.lessL {n' : Led} {t : Sem α} {R : α → Loc → Led → Prop} {X : List Value → Led → Prop} (hn : ∀ q ∈ n', q ∈ n) (h : Tr x f m n' t R X) : Tr x f m n t R X := Tr.mk fun s Q E ok st => h.run s Q E ok ⟨st.1, fun q hq => st.2 q (hn q hq)⟩
theorem Ev.methBr {o : Expr} {name : Str} {ap pos : Pos} {ov : Value} {id : String} {first : List Value} {e : Expr} {rest : List Expr} {R : Value → Loc → Led → Prop} {X : List Value → Led → Prop} {pl : Sem Bool}
    (ho : Ep x f m n o (· = ov)) (hm : Tr x f m n (getMethod ov name pl) (fun p m' n' => p = (.builtin id, first) ∧ m' = m ∧ n' = n) NoX)
    (ha : Er x f m n (e :: rest) (fun vs m₁ n₁ => Tr x f m₁ n₁ (call (.builtin id) (first ++ vs)) R X) X)
    (he : eval (.Call (.Attribute o name ap) (e :: rest) [] pos) (x.env f) = (do
      let ov ← eval o (x.env f)
      standAt ap.atName
      let (fv, first) ← holding [ov] (getMethod ov name pl)
      callWith pos fv first (backTo pos (starEach (e :: rest) (x.env f))) []) := by rfl)
    (hs : starEach (e :: rest) (x.env f) = (false, eval e (x.env f)) :: starEach rest (x.env f) := by rfl) (hs2 : ((backTo pos (starEach rest (x.env f))).any fun x => x.1) = false := by rfl) : Ev x f m n (.Call (.Attribute o name ap) (e :: rest) [] pos) R X :=
  Tr.mk fun s Q E ok st q ee po => MethodCall_ (ho.use ok st (fun v h' t1 hv0 st1 => by
    subst hv0
    refine hm.use ok st1 (fun p h2 t2 hv0 st2 => ?_) po
    subst hv0
    exact callWith_method1 ((ha pos).run _ _ E ok st2 (fun vs m₁ n₁ h3 t3 hc st3 => hc.run _ Q E ok st3 q ee po) ee po) hs hs2) po) he
end
theorem cl_spec {w : World} {P : LP} {pos : Int} {t3 : Tok} {news : Led} (h1 : @Ne Nat P.sio P.sd) (h2 : ∀ q ∈ news, q.1 ≠ P.sd) : Con 5 40 w 453 ((P.sio, instObj 608 P.sd) :: (P.sd, sioP P pos t3) :: news) True [.ref P.sio] (fun v n' => v = .none ∧ n' = news) NoX := by
  refine' Con.of (binds := [(Str.ofString "self", .ref P.sio)]) ?a ?b ?c ?d ?e ?h ?i ?j ?k ?l
  case a => k_is
  case b => k_is
  case c => exact fun s X => BindsTo.of_eq rfl
  case d => exact locs rfl
  case e => decide
  case i => exact rfl
  case j => exact rfl
  case k => exact rfl
  case l => decide
  intro _ y hw hc hu hcl
  show Ex y (fnO o453.1 453) _ _ (fb o453.1) _ _
  refine Ex.seta Ep.none (Ep.name rfl) fun v hv => ?_
  subst hv
  refine Tr.mk fun s Q E ok st q _ _ => ?_
  obtain ⟨⟨mm, F, km⟩, N⟩ := st
  obtain ⟨g1, g2, g3, g4⟩ := setIn_of (show setIn (Mine.KK y.w.params) 608 (Str.ofString "_StringIO__buf") = true by kernel_rfl)
  exact set_dict (es' := putL (Str.ofString "_StringIO__buf") (PyData.keyHash y.w.params (Str.ofString "_StringIO__buf")) (.str (Str.ofString "_StringIO__buf") (s.toks + 1)) .none (siosE P pos t3)) (n' := 3) F ok.X N (InstAt.of_news N (.head _) (.tail _ (.head _))) rfl g1 g2 g4 g3 (by kernel_rfl) (by kernel_rfl) (.tail h1 (.head h2)) (by exact Nat.le_of_ble_eq_true (by kernel_rfl)) fun h' F' N' => q () _ _ h' _ (Ex.nil ⟨rfl, rfl⟩) ⟨⟨mm, F', km⟩, fun q hq => N' q (.tail _ (.tail _ hq))⟩
noncomputable def popS (S : PS) (e : Lo) (los : List Lo) (u : Tok) : PS := { s := e.s, nv := e.nv, st := .ws, tst := u, ln := e.ln, tl := e.tl, tt := S.tt, dn := S.dn, fn := S.fn + 1, los := los }
theorem Dis.pop {X : LX} {S : PS} {tl : Led} {e : Lo} {los : List Lo} {u : Tok} (D : Dis X S tl) (hl : S.los = e :: los) : Dis X (popS S e los u) tl := by
  have h := D.nd
  have h2 := D.ne
  unfold adr at h h2
  rw [hl] at h h2
  unfold loA at h h2
  refine ⟨?_, fun q hq => ?_⟩
  · show (X.x :: X.ld :: e.s.so :: e.s.sd :: X.pb :: X.fs :: loA los).Nodup
    simp only [List.nodup_cons, List.mem_cons, not_or] at h ⊢
    grind
  · have := h2 q hq
    show q.1 ∉ X.x :: X.ld :: e.s.so :: e.s.sd :: X.pb :: X.fs :: loA los
    simp only [List.mem_cons, not_or] at this ⊢
    grind
theorem Dis.neq {X : LX} {S : PS} {tl : Led} (D : Dis X S tl) {a : Addr} (ha : a ∈ adr X S) : ∀ q ∈ tl, q.1 ≠ a := fun q hq e => D.ne q hq (e ▸ ha)
theorem loN_ne {l : List Lo} {tl : Led} {a : Addr} (h : a ∉ loA l) (h2 : ∀ q ∈ tl, q.1 ≠ a) : ∀ q ∈ loN l ++ tl, q.1 ≠ a := fun q hq e => (List.mem_append.mp hq).elim (fun h' => h (e ▸ loN_adr h')) fun h' => h2 q h' e
theorem pop_spec {w : World} {X : LX} {S : PS} {tl : Led} {e : Lo} {los : List Lo} (D : Dis X S tl) (hl : S.los = e :: los) (hn : los.length < 1000) : Con 12 100 w 697 (plN X S tl) True [.ref X.x] (fun v n' => v = .none ∧ ∃ u, n' = plN X (popS S e los u) tl) NoX := by
  refine' Con.of (binds := [(Str.ofString "self", .ref X.x)]) ?a ?b ?c ?d ?e ?h ?i ?j ?k ?l
  case a => k_is
  case b => k_is
  case c => exact fun s X => BindsTo.of_eq rfl
  case d => exact locs rfl
  case e => decide
  case i => exact rfl
  case j => exact rfl
  case k => exact rfl
  case l => decide
  intro _ y hw hc hu hcl
  obtain ⟨s0, nv, st, tst, ln, tl', tt, dn, fn, los0⟩ := S
  dsimp only at hl
  subst hl
  have h := D.nd
  have hx := D.neq (a := X.ld) (.tail _ (.head _))
  have hsd := D.neq (a := s0.sd) (.tail _ (.tail _ (.tail _ (.head _))))
  have hfs := D.neq (a := X.fs) (.tail _ (.tail _ (.tail _ (.tail _ (.tail _ (.head _))))))
  unfold adr loA at h
  simp only [List.nodup_cons, List.mem_cons, not_or] at h
  obtain ⟨⟨a1, a2, a3, a4, a5, a6, a7, a8, a9⟩, ⟨b1, b2, b3, b4, b5, b6, b7, b8⟩, ⟨c1, c2, c3, c4, c5, c6, c7⟩, ⟨d1, d2, d3, d4, d5, d6⟩, ⟨e1, e2, e3, e4, e5⟩, ⟨f1, f2, f3, f4⟩, ⟨g1, g2, g3⟩, ⟨i1, i2⟩, i3, i4⟩ := h
  show Ex y (fnO o697.1 697) _ (rtN (lpOf X ⟨s0, nv, st, tst, ln, tl', tt, dn, fn, e :: los⟩) (lvS ⟨s0, nv, st, tst, ln, tl', tt, dn, fn, e :: los⟩) s0.pos s0.t3 dn [] ((X.fs, dqO fn (.ref e.D :: los.map fun e => .ref e.D)) :: (e.D, tupV [e.nv, .ref e.s.so, .int e.ln e.tl]) :: (e.s.so, instObj 608 e.s.sd) :: (e.s.sd, tsO e.s) :: (loN los ++ tl))) (fb o697.1) _ _
  refine Ex.exp (Ev.meth0 (Ep.lx rfl la_instream lo_instream) (.tail _ (.tail _ (.head _))) (.tail _ (.tail _ (.tail _ (.head _)))) (fa := 453) (by intro Q; kernel_rfl) (by kernel_rfl) ?_)
  refine Tr.con (cl_spec (P := lpOf X ⟨s0, nv, st, tst, ln, tl', tt, dn, fn, e :: los⟩) (pos := s0.pos) (t3 := s0.t3) (news := (X.x, instObj 743 X.ld) :: (X.ld, lexP (lpOf X ⟨s0, nv, st, tst, ln, tl', tt, dn, fn, e :: los⟩) (lvS ⟨s0, nv, st, tst, ln, tl', tt, dn, fn, e :: los⟩)) :: (X.pb, dqO dn []) :: (X.fs, dqO fn (.ref e.D :: los.map fun e => .ref e.D)) :: (e.D, tupV [e.nv, .ref e.s.so, .int e.ln e.tl]) :: (e.s.so, instObj 608 e.s.sd) :: (e.s.sd, tsO e.s) :: (loN los ++ tl)) c1 ?ne) trivial (List.forall_mem_cons.mpr ⟨.tail _ (.tail _ (.head _)), List.forall_mem_cons.mpr ⟨.tail _ (.tail _ (.tail _ (.head _))), List.forall_mem_cons.mpr ⟨.head _, List.forall_mem_cons.mpr ⟨.tail _ (.head _), List.forall_mem_cons.mpr ⟨.tail _ (.tail _ (.tail _ (.tail _ (.head _)))), List.forall_mem_cons.mpr ⟨.tail _ (.tail _ (.tail _ (.tail _ (.tail _ (.head _))))), List.forall_mem_cons.mpr ⟨.tail _ (.tail _ (.tail _ (.tail _ (.tail _ (.tail _ (.head _)))))), List.forall_mem_cons.mpr ⟨.tail _ (.tail _ (.tail _ (.tail _ (.tail _ (.tail _ (.tail _ (.head _))))))), List.forall_mem_cons.mpr ⟨.tail _ (.tail _ (.tail _ (.tail _ (.tail _ (.tail _ (.tail _ (.tail _ (.head _)))))))), fun _ h => .tail _ (.tail _ (.tail _ (.tail _ (.tail _ (.tail _ (.tail _ (.tail _ (.tail _ h))))))))⟩⟩⟩⟩⟩⟩⟩⟩⟩) (by omega) (by omega) (fun v n' hv => ⟨_, fun _ h => h, ?_⟩) (fun _ _ z => z.elim)
  case ne => exact List.forall_mem_cons.mpr ⟨a3, List.forall_mem_cons.mpr ⟨b2, List.forall_mem_cons.mpr ⟨fun z => d1 z.symm, List.forall_mem_cons.mpr ⟨fun z => d2 z.symm, List.forall_mem_cons.mpr ⟨fun z => d3 z.symm, List.forall_mem_cons.mpr ⟨fun z => d4 z.symm, List.forall_mem_cons.mpr ⟨fun z => d5 z.symm, loN_ne d6 hsd⟩⟩⟩⟩⟩⟩⟩
  obtain ⟨hv1, hv2⟩ := hv
  subst hv1 hv2
  refine Ex.less (n' := (X.fs, dqO fn (.ref e.D :: los.map fun e => .ref e.D)) :: (X.x, instObj 743 X.ld) :: (X.ld, lexP (lpOf X ⟨s0, nv, st, tst, ln, tl', tt, dn, fn, e :: los⟩) (lvS ⟨s0, nv, st, tst, ln, tl', tt, dn, fn, e :: los⟩)) :: (X.pb, dqO dn []) :: (e.D, tupV [e.nv, .ref e.s.so, .int e.ln e.tl]) :: (e.s.so, instObj 608 e.s.sd) :: (e.s.sd, tsO e.s) :: (loN los ++ tl)) (List.forall_mem_cons.mpr ⟨.tail _ (.tail _ (.tail _ (.head _))), List.forall_mem_cons.mpr ⟨.head _, List.forall_mem_cons.mpr ⟨.tail _ (.head _), List.forall_mem_cons.mpr ⟨.tail _ (.tail _ (.head _)), List.forall_mem_cons.mpr ⟨.tail _ (.tail _ (.tail _ (.tail _ (.head _)))), List.forall_mem_cons.mpr ⟨.tail _ (.tail _ (.tail _ (.tail _ (.tail _ (.head _))))), List.forall_mem_cons.mpr ⟨.tail _ (.tail _ (.tail _ (.tail _ (.tail _ (.tail _ (.head _)))))), fun _ h => .tail _ (.tail _ (.tail _ (.tail _ (.tail _ (.tail _ (.tail _ h))))))⟩⟩⟩⟩⟩⟩⟩) ?_
  refine Ex.unp (Ev.methB0 (ov := .ref X.fs) (id := "collections.deque.popleft") (first := [.ref X.fs]) (Ep.lxm (P := lpOf X ⟨s0, nv, st, tst, ln, tl', tt, dn, fn, e :: los⟩) (c := lvS ⟨s0, nv, st, tst, ln, tl', tt, dn, fn, e :: los⟩) rfl (.tail _ (.head _)) (.tail _ (.tail _ (.head _))) la_filestack lo_filestack) (Tr.mk fun s Q E ok st q _ _ => dq_method st.2 (.head _) slot_dq_popleft type_dq_popleft (q _ _ _ s.heap s.toks ⟨rfl, rfl, rfl⟩ st)) (Tr.mk fun s Q E ok st q _ _ => ?_))
  obtain ⟨⟨mm, F, km⟩, N⟩ := st
  refine dq_popleft F N (.head ?ne2) (by simpa using hn) (fun h' F' N' => q _ _ _ h' _ ⟨e.D, [e.nv, .ref e.s.so, .int e.ln e.tl], _, rfl, .tail _ (.tail _ (.tail _ (.tail _ (.head _)))), rfl, ?_⟩ ⟨⟨mm, F', km⟩, N'⟩)
  case ne2 => exact List.forall_mem_cons.mpr ⟨a5, List.forall_mem_cons.mpr ⟨b4, List.forall_mem_cons.mpr ⟨e1, List.forall_mem_cons.mpr ⟨fun z => f1 z.symm, List.forall_mem_cons.mpr ⟨fun z => f2 z.symm, List.forall_mem_cons.mpr ⟨fun z => f3 z.symm, loN_ne f4 hfs⟩⟩⟩⟩⟩⟩
  refine Tr.lessL (n' := (X.x, instObj 743 X.ld) :: (X.ld, lexP (lpOf X ⟨s0, nv, st, tst, ln, tl', tt, dn, fn, e :: los⟩) (lvS ⟨s0, nv, st, tst, ln, tl', tt, dn, fn, e :: los⟩)) :: (X.pb, dqO dn []) :: (X.fs, dqO (fn + 1) (los.map fun e => .ref e.D)) :: (e.s.so, instObj 608 e.s.sd) :: (e.s.sd, tsO e.s) :: (loN los ++ tl)) (List.forall_mem_cons.mpr ⟨.tail _ (.head _), List.forall_mem_cons.mpr ⟨.tail _ (.tail _ (.head _)), List.forall_mem_cons.mpr ⟨.tail _ (.tail _ (.tail _ (.head _))), List.forall_mem_cons.mpr ⟨.head _, List.forall_mem_cons.mpr ⟨.tail _ (.tail _ (.tail _ (.tail _ (.tail _ (.head _))))), List.forall_mem_cons.mpr ⟨.tail _ (.tail _ (.tail _ (.tail _ (.tail _ (.tail _ (.head _)))))), fun _ h => .tail _ (.tail _ (.tail _ (.tail _ (.tail _ (.tail _ (.tail _ h))))))⟩⟩⟩⟩⟩⟩) ?_
  have hne : ∀ q ∈ (X.pb, dqO dn []) :: (X.fs, dqO (fn + 1) (los.map fun e => .ref e.D)) :: (e.s.so, instObj 608 e.s.sd) :: (e.s.sd, tsO e.s) :: (loN los ++ tl), q.1 ≠ X.ld := List.forall_mem_cons.mpr ⟨fun z => b3 z.symm, List.forall_mem_cons.mpr ⟨fun z => b4 z.symm, List.forall_mem_cons.mpr ⟨fun z => b6 z.symm, List.forall_mem_cons.mpr ⟨fun z => b7 z.symm, loN_ne b8 hx⟩⟩⟩⟩
  refine Tr.ainA (Ep.name rfl) (Tr.sxl (P := lpOf X ⟨s0, nv, st, tst, ln, tl', tt, dn, fn, e :: los⟩) a1 hne (Nat.le_of_ble_eq_true (by kernel_rfl)) ⟨_, la_infile⟩ lt_infile (put_infile _) ?_)
  refine Tr.ainA (Ep.name rfl) (Tr.sxl (P := lpOf X ⟨s0, e.nv, st, tst, ln, tl', tt, dn, fn, e :: los⟩) a1 hne (Nat.le_of_ble_eq_true (by kernel_rfl)) ⟨_, la_instream⟩ lt_instream (put_instream _) ?_)
  refine Tr.ainA (Ep.name rfl) (Tr.sxl (P := lpOf X ⟨e.s, e.nv, st, tst, ln, tl', tt, dn, fn, los⟩) a1 hne (Nat.le_of_ble_eq_true (by kernel_rfl)) ⟨_, la_lineno⟩ lt_lineno (put_lineno _ _) ?_)
  refine Tr.ain0 ?_
  refine Ex.ifF (Tp.val (Ep.lxm (P := lpOf X ⟨e.s, e.nv, st, tst, ln, tl', tt, dn, fn, los⟩) (c := lvS ⟨e.s, e.nv, st, tst, e.ln, e.tl, tt, dn, fn, los⟩) rfl (.head _) (.tail _ (.head _)) la_debug lo_debug) Tv.int0) ?_
  refine Ex.seta (Ep.strT s_sp) (Ep.name rfl) ?_
  rintro v ⟨u, rfl⟩
  refine Tr.sxl (P := lpOf X ⟨e.s, e.nv, st, tst, ln, tl', tt, dn, fn, los⟩) (c := lvS ⟨e.s, e.nv, st, tst, e.ln, e.tl, tt, dn, fn, los⟩) a1 hne (Nat.le_of_ble_eq_true (by kernel_rfl)) ⟨_, la_state⟩ lt_state (put_state _) ?_
  refine Ex.less (n' := plN X (popS ⟨s0, nv, st, tst, ln, tl', tt, dn, fn, e :: los⟩ e los u) tl) ?_ (Ex.nil ⟨rfl, u, rfl⟩)
  show ∀ q ∈ rtN (lpOf X ⟨e.s, e.nv, .ws, u, e.ln, e.tl, tt, dn, fn, los⟩) (lvS ⟨e.s, e.nv, .ws, u, e.ln, e.tl, tt, dn, fn, los⟩) e.s.pos e.s.t3 dn [] ((X.fs, dqO (fn + 1) (los.map fun e => .ref e.D)) :: (loN los ++ tl)), _
  exact (List.forall_mem_cons.mpr ⟨.head _, List.forall_mem_cons.mpr ⟨.tail _ (.head _), List.forall_mem_cons.mpr ⟨.tail _ (.tail _ (.tail _ (.tail _ (.head _)))), List.forall_mem_cons.mpr ⟨.tail _ (.tail _ (.tail _ (.tail _ (.tail _ (.head _))))), List.forall_mem_cons.mpr ⟨.tail _ (.tail _ (.head _)), List.forall_mem_cons.mpr ⟨.tail _ (.tail _ (.tail _ (.head _))), fun _ h => .tail _ (.tail _ (.tail _ (.tail _ (.tail _ (.tail _ h)))))⟩⟩⟩⟩⟩⟩)
end Mine

end
section
open Mine
namespace Mine
noncomputable def pushS (S : PS) (so sd : Addr) (hs : Nat → Int) (ts : Nat → Tok) (r : List Nat) (t1 t2 t3 : Tok) (D : Addr) (nv : Value) (u : Tok) : PS := { s := ⟨so, sd, hs, ts, r, t1, t2, t3, 0⟩, nv := nv, st := S.st, tst := S.tst, ln := 1, tl := u, tt := S.tt, dn := S.dn, fn := S.fn + 1, los := ⟨S.s, D, S.nv, S.ln, S.tl⟩ :: S.los }
theorem Dis.push {X : LX} {S : PS} {tl : Led} (D0 : Dis X S tl) {so sd D : Addr} {hs : Nat → Int} {ts : Nat → Tok} {r : List Nat} {t1 t2 t3 u : Tok} {nv : Value} (h1 : ∀ a ∈ adr X S, @LT.lt Nat _ a sd) (h2 : ∀ q ∈ tl, @LT.lt Nat _ q.1 sd) (h3 : @LT.lt Nat _ sd so) (h4 : @LT.lt Nat _ so D) : Dis X (pushS S so sd hs ts r t1 t2 t3 D nv u) tl := by
  have h := D0.nd
  have h5 := D0.ne
  have n1 : sd ∉ adr X S := fun z => Nat.lt_irrefl _ (h1 _ z)
  have n2 : so ∉ adr X S := fun z => Nat.lt_asymm h3 (h1 _ z)
  have n3 : D ∉ adr X S := fun z => Nat.lt_asymm (Nat.lt_trans h3 h4) (h1 _ z)
  have n4 : ¬ sd = so := fun z => Nat.ne_of_lt h3 z
  have n5 : ¬ so = D := fun z => Nat.ne_of_lt h4 z
  have n6 : ¬ sd = D := fun z => Nat.ne_of_lt (Nat.lt_trans h3 h4) z
  unfold adr at h h5 n1 n2 n3
  refine ⟨?_, fun q hq => ?_⟩
  · show (X.x :: X.ld :: so :: sd :: X.pb :: X.fs :: D :: S.s.so :: S.s.sd :: loA S.los).Nodup
    simp only [List.nodup_cons, List.mem_cons, not_or] at h n1 n2 n3 ⊢
    grind
  · have := h5 q hq
    have hq1 := h2 q hq
    have m1 : ¬ q.1 = sd := fun z => Nat.ne_of_lt hq1 z
    have m2 : ¬ q.1 = so := fun z => Nat.ne_of_lt (Nat.lt_trans hq1 h3) z
    have m3 : ¬ q.1 = D := fun z => Nat.ne_of_lt (Nat.lt_trans (Nat.lt_trans hq1 h3) h4) z
    show q.1 ∉ X.x :: X.ld :: so :: sd :: X.pb :: X.fs :: D :: S.s.so :: S.s.sd :: loA S.los
    simp only [List.mem_cons, not_or] at this ⊢
    grind
theorem loA_led {l : List Lo} {a : Addr} (h : a ∈ loA l) : ∃ q ∈ loN l, q.1 = a := by
  induction l with
  | nil => cases h
  | cons e l ih =>
    unfold loA at h
    unfold loN
    rcases List.mem_cons.mp h with z | h
    · exact ⟨_, .head _, z.symm⟩
    rcases List.mem_cons.mp h with z | h
    · exact ⟨_, .tail _ (.head _), z.symm⟩
    rcases List.mem_cons.mp h with z | h
    · exact ⟨_, .tail _ (.tail _ (.head _)), z.symm⟩
    · obtain ⟨q, h1, h2⟩ := ih h
      exact ⟨q, .tail _ (.tail _ (.tail _ h1)), h2⟩
theorem adr_led {X : LX} {S : PS} {tl : Led} {P : Addr → Prop} (h : ∀ q ∈ plN X S tl, P q.1) : ∀ a ∈ adr X S, P a := by
  intro a ha
  unfold adr at ha
  rcases List.mem_cons.mp ha with z | ha
  · exact z ▸ h _ (.head _)
  rcases List.mem_cons.mp ha with z | ha
  · exact z ▸ h _ (.tail _ (.head _))
  rcases List.mem_cons.mp ha with z | ha
  · exact z ▸ h _ (.tail _ (.tail _ (.head _)))
  rcases List.mem_cons.mp ha with z | ha
  · exact z ▸ h _ (.tail _ (.tail _ (.tail _ (.head _))))
  rcases List.mem_cons.mp ha with z | ha
  · exact z ▸ h _ (.tail _ (.tail _ (.tail _ (.tail _ (.head _)))))
  rcases List.mem_cons.mp ha with z | ha
  · exact z ▸ h _ (.tail _ (.tail _ (.tail _ (.tail _ (.tail _ (.head _))))))
  · obtain ⟨q, h1, h2⟩ := loA_led ha
    exact h2 ▸ h q (.tail _ (.tail _ (.tail _ (.tail _ (.tail _ (.tail _ (List.mem_append_left _ h1)))))))
theorem plN_tl {X : LX} {S : PS} {tl : Led} : ∀ q ∈ tl, q ∈ plN X S tl := fun _ h => .tail _ (.tail _ (.tail _ (.tail _ (.tail _ (.tail _ (List.mem_append_right _ h))))))
theorem push_spec {w : World} {X : LX} {S : PS} {tl : Led} {r : List Nat} {tr : Tok} {nm : Value} (D : Dis X S tl) (hn : S.los.length < 1000) (hr : r.length < 9000) (hnv : handedIn S.nv = true) :
    Con 30 200 w 690 (plN X S tl) True [.ref X.x, .str (T r) tr, nm] (fun v n' => v = .none ∧ ∃ so sd hs ts t1 t2 t3 D' u, Dis X (pushS S so sd hs ts r t1 t2 t3 D' nm u) tl ∧ n' = plN X (pushS S so sd hs ts r t1 t2 t3 D' nm u) tl) NoX := by
  refine' Con.of (binds := [(Str.ofString "self", .ref X.x), (Str.ofString "newstream", .str (T r) tr), (Str.ofString "newfile", nm)]) ?a ?b ?c ?d ?e ?h ?i ?j ?k ?l
  case a => k_is
  case b => k_is
  case c => exact fun s X => binds_K X rfl (by k_is) rfl rfl rfl
  case d => exact locs rfl
  case e => decide
  case i => exact rfl
  case j => exact rfl
  case k => exact rfl
  case l => decide
  intro _ y hw hc hu hcl
  obtain ⟨s0, nv, sa, tst, ln, tl', tt, dn, fn, los⟩ := S
  have h := D.nd
  have hx := D.neq (a := X.ld) (.tail _ (.head _))
  have hfs := D.neq (a := X.fs) (.tail _ (.tail _ (.tail _ (.tail _ (.tail _ (.head _))))))
  unfold adr at h
  simp only [List.nodup_cons, List.mem_cons, not_or] at h
  obtain ⟨⟨a1, a2, a3, a4, a5, a6⟩, ⟨b1, b2, b3, b4, b5⟩, ⟨c1, c2, c3, c4⟩, ⟨d1, d2, d3⟩, ⟨e1, e2⟩, f1, f2⟩ := h
  show Ex y (fnO o690.1 690) _ (plN X ⟨s0, nv, sa, tst, ln, tl', tt, dn, fn, los⟩ tl) (fb o690.1) _ _
  refine Ex.ifT (Tp.val (V := (· = .bool true)) (Ev.callB (by intro Q; kernel_rfl) boot_isinstance (by decide) (Er.E (Ep.name rfl) (Er.E (Ep.blt (by intro Q; kernel_rfl) boot_str (by decide)) (Er.nil (Tr.fi (V := (· = .bool true)) (fun w A E s Q _ q => IsiPair.str_str (q _ s.toks rfl)) fun _ h => ⟨h, rfl, rfl⟩))))) Tv.bool) ?_
  refine Ex.asK (Ev.dcall (fa := 608) (by intro Q; kernel_rfl) (by intro Q; kernel_rfl) (Er.E (Ep.name rfl) (Er.nil ?_)))
  refine Tr.con (sn_spec _ r tr) hr (fun q hq => hq) (by rw [hc]; decide) (by rw [hu]; decide) (fun v n' hR => ⟨n', fun _ h => h, ?_⟩) (fun _ _ z => z.elim)
  obtain ⟨so, sd, hs, ts, t1, t2, t3, rfl, hl2, h3, rfl⟩ := hR
  have hA := adr_led (P := fun a => @LT.lt Nat _ a sd) hl2
  have hT : ∀ q ∈ tl, @LT.lt Nat _ q.1 sd := fun q hq => hl2 q (plN_tl q hq)
  refine Ex.exp (Ev.methBr (ov := .ref X.fs) (id := "collections.deque.appendleft") (first := [.ref X.fs]) (Ep.lxm (P := lpOf X ⟨s0, nv, sa, tst, ln, tl', tt, dn, fn, los⟩) (c := lvS ⟨s0, nv, sa, tst, ln, tl', tt, dn, fn, los⟩) rfl (.tail _ (.tail _ (.head _))) (.tail _ (.tail _ (.tail _ (.head _)))) la_filestack lo_filestack) (Tr.mk fun s Q E ok st q _ _ => dq_method (xs := los.map fun e => .ref e.D) st.2 (.tail _ (.tail _ (.tail _ (.tail _ (.tail _ (.tail _ (.tail _ (.head _)))))))) slot_dq_appendleft type_dq_appendleft (q _ _ _ s.heap s.toks ⟨rfl, rfl, rfl⟩ st)) ?_)
  refine Er.cons (Ev.tup (Er.E (Ep.lxm (v := nv) (P := lpOf X ⟨s0, nv, sa, tst, ln, tl', tt, dn, fn, los⟩) (c := lvS ⟨s0, nv, sa, tst, ln, tl', tt, dn, fn, los⟩) rfl (.tail _ (.tail _ (.head _))) (.tail _ (.tail _ (.tail _ (.head _)))) la_infile lo_infile hnv)
    (Er.E (Ep.lxm (P := lpOf X ⟨s0, nv, sa, tst, ln, tl', tt, dn, fn, los⟩) (c := lvS ⟨s0, nv, sa, tst, ln, tl', tt, dn, fn, los⟩) rfl (.tail _ (.tail _ (.head _))) (.tail _ (.tail _ (.tail _ (.head _)))) la_instream lo_instream)
    (Er.E (Ep.lxm (v := .int ln tl') (P := lpOf X ⟨s0, nv, sa, tst, ln, tl', tt, dn, fn, los⟩) (c := lvS ⟨s0, nv, sa, tst, ln, tl', tt, dn, fn, los⟩) rfl (.tail _ (.tail _ (.head _))) (.tail _ (.tail _ (.tail _ (.head _)))) la_lineno lo_lineno)
    (Er.nil ⟨Nat.le_of_ble_eq_true rfl, fun D' hD => Er.nil (Tr.mk fun s Q E ok st q _ _ => ?_)⟩)))))
  have hDs := hD _ (.head _)
  have hDD : ∀ q ∈ plN X ⟨s0, nv, sa, tst, ln, tl', tt, dn, fn, los⟩ tl, @LT.lt Nat _ q.1 D' := fun q hq => hD q (.tail _ (.tail _ hq))
  obtain ⟨⟨mm, F, km⟩, N⟩ := st
  have N2 : News y.G y.L s.heap ((X.fs, dqO fn (los.map fun e => .ref e.D)) :: (X.x, instObj 743 X.ld) :: (X.ld, lexP (lpOf X ⟨s0, nv, sa, tst, ln, tl', tt, dn, fn, los⟩) (lvS ⟨s0, nv, sa, tst, ln, tl', tt, dn, fn, los⟩)) :: (X.pb, dqO dn []) :: (so, instObj 608 sd) :: (sd, sioD hs ts (T r) 0 t1 t2 t3) :: (D', tupV [nv, .ref s0.so, .int ln tl']) :: (s0.so, instObj 608 s0.sd) :: (s0.sd, tsO s0) :: (loN los ++ tl)) := fun q hq => N q ((List.forall_mem_cons.mpr ⟨.tail _ (.tail _ (.tail _ (.tail _ (.tail _ (.tail _ (.tail _ (.tail _ (.head _)))))))), List.forall_mem_cons.mpr ⟨.tail _ (.tail _ (.tail _ (.head _))), List.forall_mem_cons.mpr ⟨.tail _ (.tail _ (.tail _ (.tail _ (.head _)))), List.forall_mem_cons.mpr ⟨.tail _ (.tail _ (.tail _ (.tail _ (.tail _ (.tail _ (.tail _ (.head _))))))), List.forall_mem_cons.mpr ⟨.tail _ (.head _), List.forall_mem_cons.mpr ⟨.tail _ (.tail _ (.head _)), List.forall_mem_cons.mpr ⟨.head _, List.forall_mem_cons.mpr ⟨.tail _ (.tail _ (.tail _ (.tail _ (.tail _ (.head _))))), List.forall_mem_cons.mpr ⟨.tail _ (.tail _ (.tail _ (.tail _ (.tail _ (.tail _ (.head _)))))), fun _ h => .tail _ (.tail _ (.tail _ (.tail _ (.tail _ (.tail _ (.tail _ (.tail _ (.tail _ h))))))))⟩⟩⟩⟩⟩⟩⟩⟩⟩) q hq)
  have hgt : ∀ a ∈ adr X ⟨s0, nv, sa, tst, ln, tl', tt, dn, fn, los⟩, @Ne Nat sd a ∧ @Ne Nat so a ∧ @Ne Nat D' a := fun a ha => ⟨fun z => Nat.lt_irrefl _ (z ▸ hA a ha), fun z => Nat.lt_asymm h3 (z ▸ hA a ha), fun z => Nat.lt_asymm (Nat.lt_trans h3 hDs) (z ▸ hA a ha)⟩
  have gx := hgt X.ld (.tail _ (.head _))
  have gf := hgt X.fs (.tail _ (.tail _ (.tail _ (.tail _ (.tail _ (.head _))))))
  refine dq_appendleft F N2 (.head ?ne2) (by simpa using hn) (fun h' F' N' => q _ _ _ h' _ (Ex.less (n' := (X.x, instObj 743 X.ld) :: (X.ld, lexP (lpOf X ⟨s0, nv, sa, tst, ln, tl', tt, dn, fn, los⟩) (lvS ⟨s0, nv, sa, tst, ln, tl', tt, dn, fn, los⟩)) :: (X.pb, dqO dn []) :: (X.fs, dqO (fn + 1) (.ref D' :: los.map fun e => .ref e.D)) :: (so, instObj 608 sd) :: (sd, sioD hs ts (T r) 0 t1 t2 t3) :: (D', tupV [nv, .ref s0.so, .int ln tl']) :: (s0.so, instObj 608 s0.sd) :: (s0.sd, tsO s0) :: (loN los ++ tl)) (List.forall_mem_cons.mpr ⟨.tail _ (.head _), List.forall_mem_cons.mpr ⟨.tail _ (.tail _ (.head _)), List.forall_mem_cons.mpr ⟨.tail _ (.tail _ (.tail _ (.head _))), List.forall_mem_cons.mpr ⟨.head _, List.forall_mem_cons.mpr ⟨.tail _ (.tail _ (.tail _ (.tail _ (.head _)))), List.forall_mem_cons.mpr ⟨.tail _ (.tail _ (.tail _ (.tail _ (.tail _ (.head _))))), List.forall_mem_cons.mpr ⟨.tail _ (.tail _ (.tail _ (.tail _ (.tail _ (.tail _ (.head _)))))), List.forall_mem_cons.mpr ⟨.tail _ (.tail _ (.tail _ (.tail _ (.tail _ (.tail _ (.tail _ (.head _))))))), List.forall_mem_cons.mpr ⟨.tail _ (.tail _ (.tail _ (.tail _ (.tail _ (.tail _ (.tail _ (.tail _ (.head _)))))))), fun _ h => .tail _ (.tail _ (.tail _ (.tail _ (.tail _ (.tail _ (.tail _ (.tail _ (.tail _ h))))))))⟩⟩⟩⟩⟩⟩⟩⟩⟩) ?_) ⟨⟨mm, F', km⟩, N'⟩)
  case ne2 => exact List.forall_mem_cons.mpr ⟨a5, List.forall_mem_cons.mpr ⟨b4, List.forall_mem_cons.mpr ⟨e1, List.forall_mem_cons.mpr ⟨gf.2.1, List.forall_mem_cons.mpr ⟨gf.1, List.forall_mem_cons.mpr ⟨gf.2.2, List.forall_mem_cons.mpr ⟨c3, List.forall_mem_cons.mpr ⟨d2, loN_ne f1 hfs⟩⟩⟩⟩⟩⟩⟩⟩
  have hne : ∀ q ∈ (X.pb, dqO dn []) :: (X.fs, dqO (fn + 1) (.ref D' :: los.map fun e => .ref e.D)) :: (so, instObj 608 sd) :: (sd, sioD hs ts (T r) 0 t1 t2 t3) :: (D', tupV [nv, .ref s0.so, .int ln tl']) :: (s0.so, instObj 608 s0.sd) :: (s0.sd, tsO s0) :: (loN los ++ tl), q.1 ≠ X.ld := List.forall_mem_cons.mpr ⟨fun z => b3 z.symm, List.forall_mem_cons.mpr ⟨fun z => b4 z.symm, List.forall_mem_cons.mpr ⟨gx.2.1, List.forall_mem_cons.mpr ⟨gx.1, List.forall_mem_cons.mpr ⟨gx.2.2, List.forall_mem_cons.mpr ⟨fun z => b1 z.symm, List.forall_mem_cons.mpr ⟨fun z => b2 z.symm, loN_ne b5 hx⟩⟩⟩⟩⟩⟩⟩
  refine Ex.seta (V := (· = nm)) (Ep.name rfl) (Ep.name rfl) (fun v hv => ?_)
  rw [hv]
  refine Tr.sxl (P := lpOf X ⟨s0, nv, sa, tst, ln, tl', tt, dn, fn, los⟩) a1 hne (Nat.le_of_ble_eq_true (by kernel_rfl)) ⟨_, la_infile⟩ lt_infile (put_infile _) ?_
  refine Ex.seta (V := (· = .ref so)) (Ep.name rfl) (Ep.name rfl) (fun v hv => ?_)
  rw [hv]
  refine Tr.sxl (P := lpOf X ⟨s0, nm, sa, tst, ln, tl', tt, dn, fn, los⟩) a1 hne (Nat.le_of_ble_eq_true (by kernel_rfl)) ⟨_, la_instream⟩ lt_instream (put_instream _) ?_
  refine Ex.seta Ep.int (Ep.name rfl) ?_
  rintro v ⟨u, rfl⟩
  refine Tr.sxl (P := lpOf X ⟨⟨so, sd, hs, ts, r, t1, t2, t3, 0⟩, nm, sa, tst, ln, tl', tt, dn, fn, los⟩) a1 hne (Nat.le_of_ble_eq_true (by kernel_rfl)) ⟨_, la_lineno⟩ lt_lineno (put_lineno _ _) ?_
  refine Ex.ifF (Tp.val (Ep.lxm (P := lpOf X ⟨⟨so, sd, hs, ts, r, t1, t2, t3, 0⟩, nm, sa, tst, ln, tl', tt, dn, fn, los⟩) (c := lvS ⟨⟨so, sd, hs, ts, r, t1, t2, t3, 0⟩, nm, sa, tst, 1, u, tt, dn, fn, los⟩) rfl (.head _) (.tail _ (.head _)) la_debug lo_debug) Tv.int0) ?_
  refine Ex.less (n' := plN X (pushS ⟨s0, nv, sa, tst, ln, tl', tt, dn, fn, los⟩ so sd hs ts r t1 t2 t3 D' nm u) tl) ?_ (Ex.nil ⟨rfl, so, sd, hs, ts, t1, t2, t3, D', u, Dis.push D hA hT h3 hDs, rfl⟩)
  show ∀ q ∈ rtN (lpOf X ⟨⟨so, sd, hs, ts, r, t1, t2, t3, 0⟩, nm, sa, tst, 1, u, tt, dn, fn, los⟩) (lvS ⟨⟨so, sd, hs, ts, r, t1, t2, t3, 0⟩, nm, sa, tst, 1, u, tt, dn, fn, los⟩) 0 t3 dn [] ((X.fs, dqO (fn + 1) (.ref D' :: los.map fun e => .ref e.D)) :: (D', tupV [nv, .ref s0.so, .int ln tl']) :: (s0.so, instObj 608 s0.sd) :: (s0.sd, tsO s0) :: (loN los ++ tl)), _
  exact (List.forall_mem_cons.mpr ⟨.head _, List.forall_mem_cons.mpr ⟨.tail _ (.head _), List.forall_mem_cons.mpr ⟨.tail _ (.tail _ (.tail _ (.tail _ (.head _)))), List.forall_mem_cons.mpr ⟨.tail _ (.tail _ (.tail _ (.tail _ (.tail _ (.head _))))), List.forall_mem_cons.mpr ⟨.tail _ (.tail _ (.head _)), List.forall_mem_cons.mpr ⟨.tail _ (.tail _ (.tail _ (.head _))), List.forall_mem_cons.mpr ⟨.tail _ (.tail _ (.tail _ (.tail _ (.tail _ (.tail _ (.head _)))))), List.forall_mem_cons.mpr ⟨.tail _ (.tail _ (.tail _ (.tail _ (.tail _ (.tail _ (.tail _ (.head _))))))), List.forall_mem_cons.mpr ⟨.tail _ (.tail _ (.tail _ (.tail _ (.tail _ (.tail _ (.tail _ (.tail _ (.head _)))))))), fun _ h => .tail _ (.tail _ (.tail _ (.tail _ (.tail _ (.tail _ (.tail _ (.tail _ (.tail _ h))))))))⟩⟩⟩⟩⟩⟩⟩⟩⟩)
end Mine

end
section
open Mine
namespace Mine
noncomputable def dec (w : Wd) : Nat := w.foldl (fun a c => 10 * a + (c - 48)) 0
theorem good_dec : ∀ q ∈ goodW, q.1 = wX ∨ (PySem.intText? (T q.1) = some (dec q.1 : Int) ∧ dec q.1 % 256 = q.2) := by decide +kernel
theorem good_oct : ∀ q ∈ goodW, octW q.1 = q.2 ∧ q.2 < 256 ∧ q.1.length ≤ 3 ∧ q.1 ≠ wUse := by decide +kernel
theorem OkW.oct {w : Wd} (h : OkW w) : octW w < 256 := by
  obtain ⟨q, hq, rfl⟩ := h
  obtain ⟨h1, h2, _⟩ := good_oct q hq
  rw [h1]; exact h2
theorem OkW.len {w : Wd} (h : OkW w) : w.length ≤ 3 := by
  obtain ⟨q, hq, rfl⟩ := h
  exact (good_oct q hq).2.2.1
theorem c_x : (Str.ofString "x").cps.toList = wX := by decide +kernel
theorem c_use : (Str.ofString "use").cps.toList = wUse := by decide +kernel
section
variable {x : Fx} {f : Fn} {m : Loc} {n : Led}
theorem g_int : ∀ Q, nsIn (Mine.KK Q) mainGlobals (Str.ofString "int") = some none := by intro Q; kernel_rfl
theorem b_int : bootBuiltins (Str.ofString "int") = some (.type "int") := by boot_by_name
theorem g_bytes : ∀ Q, nsIn (Mine.KK Q) mainGlobals (Str.ofString "bytes") = some none := by intro Q; kernel_rfl
theorem b_bytes : bootBuiltins (Str.ofString "bytes") = some (.type "bytes") := by boot_by_name
theorem Bo.modN {a : Nat} {b : Nat} (hb : b ≠ 0) : ∀ u v, IsI a u → IsI b v → Fi (binaryOp .Mod u v) (IsI ((a % b : Nat) : Int)) := by
  rintro _ _ ⟨t, rfl⟩ ⟨t', rfl⟩ w A E s Q _ q
  refine mod_int (by omega) ?_
  rw [show ((a : Int).fmod (b : Int)) = ((a % b : Nat) : Int) by rw [Int.fmod_eq_emod_of_nonneg _ (by omega)]; rfl]
  exact q _ _ ⟨_, rfl⟩
theorem Ep.lenL {p pos : Pos} {e : Expr} {D : Addr} {vs : List Value} {k : Nat} (h : Ep x f m n e (· = .ref D)) (hm : (D, listOf vs.toArray k) ∈ n) (hl : vs.length < 2 ^ 62)
    (he : eval (.Call (.Name (Str.ofString "len") p) [e] [] pos) (x.env f) = (do callWith pos (← eval (.Name (Str.ofString "len") p) (x.env f)) [] (backTo pos (starEach [e] (x.env f))) (backToKw pos (keywordEach [] (x.env f)))) := by rfl)
    (hs : starEach [e] (x.env f) = (false, eval e (x.env f)) :: starEach [] (x.env f) := by rfl) (hx : (x.env f).kindOf (Str.ofString "len") = some .globalImplicit := by rfl) : Ep x f m n (.Call (.Name (Str.ofString "len") p) [e] [] pos) (IsI (vs.length : Nat)) :=
  Ev.callB g_len b_len (by decide) (Er.E h (Er.nil (Tr.mk fun s Q E ok st q _ _ => len_list (items := vs.toArray) ⟨_, (st.2 _ hm).1, rfl, _, rfl⟩ (by rw [List.size_toArray]; omega) (q (.int (vs.toArray.size : Nat) (s.toks + 1)) m n s.heap _ ⟨⟨_, by rw [List.size_toArray]⟩, rfl, rfl⟩ st))) hs) he hs rfl hx
theorem Ev.bytesL {p pos : Pos} {e : Expr} {D : Addr} {vs : List Value} {ns : List Nat} {k : Nat} {R : Value → Loc → Led → Prop} {X : List Value → Led → Prop} (h : Ep x f m n e (· = .ref D)) (hm : (D, listOf vs.toArray k) ∈ n) (hi : IntsAre vs (ns.map fun c : Nat => (c : Int))) (hr : ∀ c ∈ ns, c < 256) (hz : ns.length < 10000)
    (hR : ∀ t, R (.bytes (Byt ns) t) m n)
    (he : eval (.Call (.Name (Str.ofString "bytes") p) [e] [] pos) (x.env f) = (do callWith pos (← eval (.Name (Str.ofString "bytes") p) (x.env f)) [] (backTo pos (starEach [e] (x.env f))) (backToKw pos (keywordEach [] (x.env f)))) := by rfl)
    (hs : starEach [e] (x.env f) = (false, eval e (x.env f)) :: starEach [] (x.env f) := by rfl) (hx : (x.env f).kindOf (Str.ofString "bytes") = some .globalImplicit := by rfl) : Ev x f m n (.Call (.Name (Str.ofString "bytes") p) [e] [] pos) R X :=
  Ev.callT g_bytes b_bytes (by decide) (Er.E h (Er.nil (Tr.mk fun s Q E ok st q _ _ => by
    refine call_bytes_ints (vs := vs) ⟨_, (st.2 _ hm).1, rfl, _, rfl⟩ hi (fun n hn => ?_) (by have := hi.length; rw [List.length_map] at this; rw [sizeLine_eq]; omega) rfl fun h' t k hk => ?_
    · obtain ⟨c, hc, rfl⟩ := List.mem_map.mp hn
      have := hr c hc
      omega
    · rw [byt_of]
      obtain ⟨⟨mm, F, km⟩, N⟩ := st
      exact q _ m n h' k (hR t) ⟨⟨mm, F.keeps hk, km⟩, N.grown hk⟩)) hs) he hs rfl hx
end
theorem oc_spec {w : World} {news : Led} {wd : Wd} {t : Tok} (h : OkW wd) : Con 5 40 w 768 news True [.str (T wd) t] (fun v n' => IsI (octW wd) v ∧ n' = news) NoX := by
  refine' Con.of (binds := [(Str.ofString "word", .str (T wd) t)]) ?a ?b ?c ?d ?e ?h ?i ?j ?k ?l
  case a => k_is
  case b => k_is
  case c => exact fun s X => BindsTo.of_eq rfl
  case d => exact locs rfl
  case e => decide
  case i => exact rfl
  case j => exact rfl
  case k => exact rfl
  case l => decide
  intro _ y hw hc hu hcl
  show Ex y (fnO o768.1 768) _ _ (fb o768.1) _ _
  have hlen := h.len
  obtain ⟨q, hq, rfl⟩ := h
  obtain ⟨ho, hb, _⟩ := good_oct q hq
  rw [ho]
  refine Ex.ret (Ep.go (V := IsI (q.2 : Nat)) (Ep.ife (c := q.1 == wX) (V := IsI (q.2 : Nat)) (Tp.cmp (Ep.nameS (z := T q.1) rfl) Ep.str (Co.eqC (by rw [c_x]))) (fun hx => ?_) (fun hx => ?_)) fun v hv => ⟨hv, rfl⟩)
  · have e : q.2 = 205 := by
      rw [← ho, beq_iff_eq.mp hx]; rfl
    rw [e]
    exact Ep.int
  · have hx' := beq_eq_false_iff_ne.mp hx
    rcases good_dec q hq with e | ⟨e1, e2⟩
    · exact absurd e hx'
    rw [← e2]
    refine Ep.bin (Vl := IsI (dec q.1 : Nat)) (Ev.callT g_int b_int (by decide) (Er.S (Ep.nameS rfl) fun t' => Er.nil (Tr.mk fun s Q E ok st qq _ _ => KIN.call_text e1 (by rw [T_len]; omega) (qq _ _ _ s.heap _ ⟨⟨_, rfl⟩, rfl, rfl⟩ st)))) Ep.int (Bo.modN (by decide))
end Mine

end
section
open Mine
namespace Mine
noncomputable def lamOfS : Stmt → Option (Arguments × Expr × Scope)
  | .Assign _ (.Lambda p b s _) _ => some (p, b, s)
  | _ => none
inductive LamA (x : Addr) (tl : Led) (v : Value) (st : Stmt) : Prop
  | mk (g c' cc : Addr) (P : Arguments) (b : Expr) (sc : Scope) (qual : Str) (pm ct : Value) (oc o2 : Obj) (ws : Array Value) (tq : Tok) : v = .ref g → lamOfS st = some (P, b, sc) → (g, kla_obj "<lambda>" qual P b sc [(Str.ofString "lexer", cc)] pm c' ct) ∈ tl → (c', oc) ∈ tl → oc.data = .fields ws → ws[1]? = some (.str qual tq) → (cc, o2) ∈ tl → o2.data = .cell (some (.ref x)) → LamA x tl v st
structure LamL (X : LX) (tl : Led) : Prop where
  su : IsS (T wUse) X.su
  rd : LamA X.x tl X.rd (nth (fb o787.1) 2)
  hk : LamA X.x tl X.hk (nth (fb o787.1) 3)
theorem LamA.mono {x : Addr} {tl tl' : Led} {v : Value} {st : Stmt} (h : LamA x tl v st) (hs : ∀ q ∈ tl, q ∈ tl') : LamA x tl' v st := by
  obtain ⟨g, c', cc, P, b, sc, qual, pm, ct, oc, o2, ws, tq, h1, h2, h3, h4, h5, h6, h7, h8⟩ := h
  exact ⟨g, c', cc, P, b, sc, qual, pm, ct, oc, o2, ws, tq, h1, h2, hs _ h3, hs _ h4, h5, h6, hs _ h7, h8⟩
theorem LamL.mono {X : LX} {tl tl' : Led} (h : LamL X tl) (hs : ∀ q ∈ tl, q ∈ tl') : LamL X tl' := ⟨h.su, h.rd.mono hs, h.hk.mono hs⟩
noncomputable def refT : It → Str
  | (_, []) => Str.ofString "not enough data in stream to read uint1"
  | (nm, c :: os) => exT (Str.ofString (if nm = some wX then "bytes" else "string")) c os.length
noncomputable def ResV : Res → Value → Prop
  | .word w, v => IsS (T w) v
  | .none, v => v = .none
  | .bad _, _ => False
noncomputable def GetPost (X : LX) (tl : Led) (p : List Tx) (v : Value) (n' : Led) : Prop := ∃ S' r p', GetR p r p' ∧ ResV r v ∧ ((∃ w, r = .word w) → S'.st = .ws) ∧ Abs S' p' ∧ Dis X S' tl ∧ (∀ q ∈ plN X S' tl, q ∈ n')
noncomputable def GetExc (X : LX) (tl : Led) (p : List Tx) (es : List Value) (n' : Led) : Prop := ∃ S' i p' tm, GetR p (.bad i) p' ∧ Abs S' p' ∧ Dis X S' tl ∧ es = [.str (refT i) tm] ∧ (∀ q ∈ plN X S' tl, q ∈ n')
noncomputable def dOf (p : List Tx) : Nat := 40 + phi p
noncomputable def uOf (p : List Tx) : Nat := 400 + 11 * phi p
noncomputable def GetOK (w : World) (k : Nat) : Prop := ∀ (X : LX) (S : PS) (tl : Led) (p : List Tx), Abs S p → Good p → phi p < k → Dis X S tl → LamL X tl → Con (dOf p) (uOf p) w 704 (plN X S tl) True [.ref X.x] (GetPost X tl p) (GetExc X tl p)
noncomputable def GathR (p : List Tx) (k : Nat) (os : List Wd) (p' : List Tx) : Prop := (Reads p os p' ∧ os.length = k) ∨ (os.length < k ∧ ∃ p0, Reads p os p0 ∧ GetR p0 .none p')
noncomputable def GathPost (X : LX) (S : PS) (tl : Led) (p : List Tx) (k : Nat) (v : Value) (n' : Led) : Prop := ∃ S' os p' tv, GathR p k os p' ∧ ((S.st = .ws ∨ 0 < k) → os.length = k → S'.st = .ws) ∧ v = .bytes (Byt (os.map octW)) tv ∧ Abs S' p' ∧ Dis X S' tl ∧ (∀ q ∈ plN X S' tl, q ∈ n')
noncomputable def GathExc (X : LX) (tl : Led) (p : List Tx) (k : Nat) (es : List Value) (n' : Led) : Prop := ∃ S' os p0 i p' tm, Reads p os p0 ∧ os.length < k ∧ GetR p0 (.bad i) p' ∧ Abs S' p' ∧ Dis X S' tl ∧ es = [.str (refT i) tm] ∧ (∀ q ∈ plN X S' tl, q ∈ n')
section
variable {X : LX} {S : PS} {tl : Led} {o : Addr × Obj}
theorem plN_ne {a : Addr} (h : a ∉ adr X S) (h2 : ∀ q ∈ tl, q.1 ≠ a) : ∀ q ∈ plN X S tl, q.1 ≠ a := by
  unfold adr at h
  simp only [List.mem_cons, not_or] at h
  obtain ⟨h1, h3, h4, h5, h6, h7, h8⟩ := h
  show ∀ q ∈ rtN _ _ _ _ _ _ (_ :: (loN S.los ++ tl)), _
  exact List.forall_mem_cons.mpr ⟨fun z => h1 z.symm, List.forall_mem_cons.mpr ⟨fun z => h3 z.symm, List.forall_mem_cons.mpr ⟨fun z => h4 z.symm, List.forall_mem_cons.mpr ⟨fun z => h5 z.symm, List.forall_mem_cons.mpr ⟨fun z => h6 z.symm, List.forall_mem_cons.mpr ⟨fun z => h7 z.symm, loN_ne h8 h2⟩⟩⟩⟩⟩⟩
theorem plN_sub {tl' : Led} (hs : ∀ q ∈ tl, q ∈ tl') : ∀ q ∈ plN X S tl, q ∈ plN X S tl' := by
  show ∀ q ∈ rtN _ _ _ _ _ _ (_ :: (loN S.los ++ tl)), q ∈ rtN _ _ _ _ _ _ (_ :: (loN S.los ++ tl'))
  exact List.forall_mem_cons.mpr ⟨.head _, List.forall_mem_cons.mpr ⟨.tail _ (.head _), List.forall_mem_cons.mpr ⟨.tail _ (.tail _ (.head _)), List.forall_mem_cons.mpr ⟨.tail _ (.tail _ (.tail _ (.head _))), List.forall_mem_cons.mpr ⟨.tail _ (.tail _ (.tail _ (.tail _ (.head _)))), List.forall_mem_cons.mpr ⟨.tail _ (.tail _ (.tail _ (.tail _ (.tail _ (.head _))))), fun q hq => .tail _ (.tail _ (.tail _ (.tail _ (.tail _ (.tail _ ((List.mem_append.mp hq).elim (fun h => List.mem_append_left _ h) fun h => List.mem_append_right _ (hs q h)))))))⟩⟩⟩⟩⟩⟩
theorem plN_in : ∀ q ∈ plN X S (o :: tl), q ∈ o :: plN X S tl := by
  show ∀ q ∈ rtN _ _ _ _ _ _ (_ :: (loN S.los ++ o :: tl)), q ∈ o :: rtN _ _ _ _ _ _ (_ :: (loN S.los ++ tl))
  exact List.forall_mem_cons.mpr ⟨.tail _ (.head _), List.forall_mem_cons.mpr ⟨.tail _ (.tail _ (.head _)), List.forall_mem_cons.mpr ⟨.tail _ (.tail _ (.tail _ (.head _))), List.forall_mem_cons.mpr ⟨.tail _ (.tail _ (.tail _ (.tail _ (.head _)))), List.forall_mem_cons.mpr ⟨.tail _ (.tail _ (.tail _ (.tail _ (.tail _ (.head _))))), List.forall_mem_cons.mpr ⟨.tail _ (.tail _ (.tail _ (.tail _ (.tail _ (.tail _ (.head _)))))), fun q hq => (List.mem_append.mp hq).elim (fun h => .tail _ (.tail _ (.tail _ (.tail _ (.tail _ (.tail _ (.tail _ (List.mem_append_left _ h)))))))) fun h => (List.mem_cons.mp h).elim (fun e => e ▸ .head _) fun h => .tail _ (.tail _ (.tail _ (.tail _ (.tail _ (.tail _ (.tail _ (List.mem_append_right _ h)))))))⟩⟩⟩⟩⟩⟩
theorem plN_out : ∀ q ∈ o :: plN X S tl, q ∈ plN X S (o :: tl) := List.forall_mem_cons.mpr ⟨plN_tl _ (.head _), plN_sub fun _ h => .tail _ h⟩
theorem Dis.cons (D : Dis X S tl) (h : o.1 ∉ adr X S) : Dis X S (o :: tl) := ⟨D.nd, List.forall_mem_cons.mpr ⟨h, D.ne⟩⟩
theorem Dis.tail (D : Dis X S (o :: tl)) : Dis X S tl := ⟨D.nd, fun q hq => D.ne q (.tail _ hq)⟩
theorem fresh_adr {D : Addr} (h : ∀ q ∈ plN X S tl, @LT.lt Nat _ q.1 D) : D ∉ adr X S := fun z => Nat.lt_irrefl D (adr_led (P := fun a => @LT.lt Nat _ a D) h D z)
end
structure GaS where
  os : List Wd
  S : PS
  p : List Tx
  vs : List Value
  nn : Nat
theorem lm_get : ∀ Q, methIn (Mine.KK Q) 743 (Str.ofString "get_token") 704 = true := by intro Q; kernel_rfl
theorem ll_get {P : LP} {c : LV} : getL (Str.ofString "get_token") (lexes P c) = some none := by kernel_rfl
theorem g_oct : ∀ Q, nsIn (Mine.KK Q) mainGlobals (Str.ofString "_law_octet") = some (some (.ref 768)) := by intro Q; kernel_rfl
theorem k_oct : ∀ Q, keepIn (Mine.KK Q) (.ref 768) = true := by intro Q; kernel_rfl
theorem gath_spec {w : World} {K : Nat} (G : GetOK w K) {X : LX} {S : PS} {tl : Led} {p : List Tx} {k : Nat} {tk : Tok} (A : Abs S p) (Gd : Good p) (hK : phi p < K) (D : Dis X S tl) (L : LamL X tl) (hk : k < 300) :
    Con (dOf p + 1) (uOf p + 10) w 775 (plN X S tl) True [.ref X.x, .int (k : Nat) tk] (GathPost X S tl p k) (GathExc X tl p k) := by
  refine' Con.of (binds := [(Str.ofString "lexer", .ref X.x), (Str.ofString "count", .int (k : Nat) tk)]) ?a ?b ?c ?d ?e ?h ?i ?j ?k ?l
  case a => k_is
  case b => k_is
  case c => exact fun s X => BindsTo.of_eq rfl
  case d => exact locs rfl
  case e => exact ⟨by omega, by omega⟩
  case i => exact rfl
  case j => exact rfl
  case k => exact rfl
  case l => decide
  intro _ y hw hc hu hcl
  subst hw
  have hc : y.c = dOf p := hc
  have hu : y.u = uOf p + 7 := hu
  show Ex y (fnO o775.1 775) _ _ (fb o775.1) _ _
  refine Ex.asK (Ev.lst (Er.nil ⟨Nat.zero_le _, fun Ol hO => ?_⟩))
  have hO1 := fresh_adr hO
  have hO2 : ∀ q ∈ tl, q.1 ≠ Ol := fun q hq => Nat.ne_of_lt (hO q (plN_tl q hq))
  refine Ex.whl (σ := GaS) (fun c => [(Str.ofString "lexer", .ref X.x), (Str.ofString "count", .int (k : Nat) tk), (Str.ofString "octets", .ref Ol)]) (fun c => plN X c.S ((Ol, listOf c.vs.toArray c.nn) :: tl))
    (fun c => Reads p c.os c.p ∧ ((S.st = .ws ∨ 0 < c.os.length) → c.S.st = .ws) ∧ c.os.length ≤ k ∧ Abs c.S c.p ∧ Dis X c.S ((Ol, listOf c.vs.toArray c.nn) :: tl) ∧ IntsAre c.vs ((c.os.map octW).map fun c : Nat => (c : Int))) (fun c => k - c.os.length) ⟨[], S, p, [], 0⟩
    (List.forall_mem_cons.mpr ⟨rfl, List.forall_mem_cons.mpr ⟨rfl, List.forall_mem_cons.mpr ⟨rfl, List.forall_mem_nil _⟩⟩⟩) plN_in ⟨.nil, fun h => h.elim id fun h => absurd h (Nat.lt_irrefl _), Nat.zero_le _, A, D.cons hO1, .nil⟩ ?_
  rintro ⟨os, S1, p1, vs, nn⟩ ⟨hR, hst, hl, A1, D1, hI⟩
  dsimp only at hR hst hl A1 D1 hI ⊢
  have hlen : vs.length = os.length := by have := hI.length; rw [List.length_map, List.length_map] at this; exact this
  have hm : (Ol, listOf vs.toArray nn) ∈ plN X S1 ((Ol, listOf vs.toArray nn) :: tl) := plN_tl _ (.head _)
  obtain ⟨Gd1, hos⟩ := hR.gd Gd
  have h256 : ∀ c ∈ os.map octW, c < 256 := fun c hc => by
    obtain ⟨v, hv, rfl⟩ := List.mem_map.mp hc
    exact (hos v hv).oct
  have fin : ∀ (m : Loc) (S2 : PS) (p2 : List Tx), look m (Str.ofString "octets") = some (.ref Ol) → GathR p k os p2 → ((S.st = .ws ∨ 0 < k) → os.length = k → S2.st = .ws) → Abs S2 p2 → Dis X S2 tl → Ex y (fnO o775.1 775) m (plN X S2 ((Ol, listOf vs.toArray nn) :: tl)) ((fb o775.1).drop 2) (fun fl _ n' => GathPost X S tl p k (retv fl) n') (GathExc X tl p k) := fun m S2 p2 hm1 hg hs2 A2 D2 =>
    Ex.ret (Ev.bytesL (Ep.name hm1) (plN_tl _ (.head _)) hI h256 (by rw [List.length_map]; omega) fun t => ⟨S2, os, p2, t, hg, hs2, rfl, A2, D2, plN_sub fun _ h => .tail _ h⟩)
  refine (Tp.cmp (Ep.lenL (Ep.name rfl) hm (by omega)) (Ep.nameI rfl) Co.ltI).go ?_
  rw [hlen]
  by_cases hlt : os.length < k
  case neg =>
    rw [if_neg (by simpa using hlt)]
    exact fin _ S1 p1 rfl (.inl ⟨hR, by omega⟩) (fun h1 h2 => hst (h1.imp id fun h => by omega)) A1 D1.tail
  rw [if_pos (by simpa using hlt)]
  have hph := hR.ph
  refine Ex.asK (Ev.meth0 (fa := 704) (Ep.name rfl) (.head _) (.tail _ (.head _)) lm_get ll_get ?_)
  refine Tr.con (G X S1 ((Ol, listOf vs.toArray nn) :: tl) p1 A1 Gd1 (by omega) D1 (L.mono fun _ h => .tail _ h)) trivial (fun _ h => h) (by rw [hc]; unfold dOf; omega) (by rw [hu]; unfold uOf; omega) (fun v n' hv => ?_) (fun es n' hx => ?_)
  · obtain ⟨S2, r, p2, hg, hv, hw2, A2, D2, hs⟩ := hv
    refine ⟨_, hs, ?_⟩
    cases r with
    | bad i => exact hv.elim
    | none =>
      subst hv
      refine Ex.ifT (Tp.cmp (Ep.name rfl) Ep.none Cop.isNN) ?_
      exact Ex.brk (fin _ S2 p2 rfl (.inr ⟨hlt, p1, hR, hg⟩) (fun _ h2 => absurd h2 (Nat.ne_of_lt hlt)) A2 D2.tail)
    | word wd =>
      obtain ⟨t, rfl⟩ := hv
      obtain ⟨Gd2, hwd⟩ := hg.gd Gd1
      refine Ex.ifF (Tp.cmp (Ep.name rfl) Ep.none Cop.isSN) ?_
      refine Ex.exp (Ev.app (D := Ol) rfl (plN_tl _ (.head _)) (Er.cons (Ev.dcall g_oct k_oct (Er.S (Ep.nameS rfl) fun t' => Er.nil (Tr.con (oc_spec (news := plN X S2 ((Ol, listOf vs.toArray nn) :: tl)) hwd) trivial (fun _ h => h) (by rw [hc]; unfold dOf; omega) (by rw [hu]; unfold uOf; omega) (fun v n' hv => ⟨n', fun _ h => h, ?_⟩) (fun _ _ z => z.elim))))))
      obtain ⟨⟨u, rfl⟩, rfl⟩ := hv
      refine Er.nil ⟨.int (octW wd) u, plN X S2 tl, rfl, by omega, plN_out, plN_ne (D2.ne _ (.head _)) hO2, ?_⟩
      have hOa : Ol ∉ adr X S2 := D2.ne _ (.head _)
      refine Ex.nil ⟨⟨os ++ [wd], S2, p2, vs ++ [.int (octW wd) u], nn + 1⟩, ⟨.snoc hR hg, fun _ => hw2 ⟨_, rfl⟩, by rw [List.length_append, List.length_singleton]; omega, A2, D2.tail.cons hOa, ?_⟩, by show k - (os ++ [wd]).length < k - os.length; rw [List.length_append, List.length_singleton]; omega, ?_, plN_in⟩
      · rw [List.map_append, List.map_append]
        exact IntsAre.append hI (.cons (octW wd : Int) u .nil)
      · exact List.forall_mem_cons.mpr ⟨rfl, List.forall_mem_cons.mpr ⟨rfl, List.forall_mem_cons.mpr ⟨rfl, List.forall_mem_nil _⟩⟩⟩
  · obtain ⟨S2, i, p2, tm, hg, A2, D2, rfl, hs⟩ := hx
    exact ⟨n', fun _ h => h, S2, os, p1, i, p2, tm, hR, hlt, hg, A2, D2.tail, rfl, fun q hq => hs q (plN_sub (fun _ h => .tail _ h) q hq)⟩
end Mine

end
section
open Mine
namespace Mine
section
variable {x : Fx} {f : Fn} {m : Loc} {n : Led}
theorem Ev.binT {l r : Expr} {op : Operator} {pos : Pos} {Vl : Value → Prop} {R : Value → Loc → Led → Prop} {X : List Value → Led → Prop} (hl : Ep x f m n l Vl) (hr : ∀ u, Vl u → Ev x f m n r (fun v m₁ n₁ => Tr x f m₁ n₁ (binaryOp op u v) R X) X) : Ev x f m n (.BinOp l op r pos) R X :=
  Tr.mk fun s Q E ok st q ee po => wpAny_BinOp (hl.use ok st (fun a h1 t1 ha st1 => (hr a ha).run _ _ E ok st1 (fun v m₁ n₁ h2 t2 hv st2 => hv.run _ Q E ok st2 q ee po) ee po) po)
theorem Ex.raiseE {y : Str} {yp pos cp : Pos} {e : Expr} {r : List Stmt} {R : Flow → Loc → Led → Prop} {X : List Value → Led → Prop} (hf : Ep x f m n (.Name y yp) (· = .type "ValueError")) (he : Ev x f m n e (fun v _ n₁ => X [v] n₁) X)
    (hs : starEach [e] (x.env f) = (false, eval e (x.env f)) :: starEach [] (x.env f) := by rfl)
    (hc : eval (.Call (.Name y yp) [e] [] cp) (x.env f) = (do callWith cp (← eval (.Name y yp) (x.env f)) [] (backTo cp (starEach [e] (x.env f))) (backToKw cp (keywordEach [] (x.env f)))) := by rfl) :
    Ex x f m n (.Raise (some (.Call (.Name y yp) [e] [] cp)) none pos :: r) R X :=
  Ex.go <| Tr.mk fun s Q E ok st q ee po => Raise_new rfl (Call_ (hf.use ok st (fun v0 h1 t1 hv0 st1 => by
    subst hv0
    refine PyProof.Rows.callWith_type1 (args_cons (he.run _ _ E ok st1 (fun v m₁ n₁ h2 t2 hx st2 => args_nil (raise_VE ?_)) ee po) hs) hs rfl
    intro h' e hx'
    obtain ⟨⟨mm, F, km⟩, N⟩ := st2
    exact ee e h' _ _ _ hx (.inl ⟨_, mm, Heap.MadeExc.of hx', F, N⟩)) po) hc)
theorem Tv.byt {l : List Nat} {t : Tok} (hl : l.length < 10000) : Tv (· = .bytes (Byt l) t) (!l.isEmpty) := fun _ _ _ _ _ _ h q => by subst h; exact truthy_B hl q
theorem Fi.lenB {l : List Nat} {t : Tok} (hl : l.length < 10000) : ∀ v, v = .bytes (Byt l) t → Fi (call (.builtin "len") [v]) (IsI (l.length : Nat)) := by rintro _ rfl w A E s Q _ q; exact len_B hl fun t' k => q _ k ⟨t', rfl⟩
theorem Ep.lenB {p pos : Pos} {e : Expr} {l : List Nat} {t : Tok} (h : Ep x f m n e (· = .bytes (Byt l) t)) (hl : l.length < 10000)
    (he : eval (.Call (.Name (Str.ofString "len") p) [e] [] pos) (x.env f) = (do callWith pos (← eval (.Name (Str.ofString "len") p) (x.env f)) [] (backTo pos (starEach [e] (x.env f))) (backToKw pos (keywordEach [] (x.env f)))) := by rfl)
    (hs : starEach [e] (x.env f) = (false, eval e (x.env f)) :: starEach [] (x.env f) := by rfl) (hx : (x.env f).kindOf (Str.ofString "len") = some .globalImplicit := by rfl) : Ep x f m n (.Call (.Name (Str.ofString "len") p) [e] [] pos) (IsI (l.length : Nat)) :=
  Ep.call1 g_len b_len (by decide) h (Fi.lenB hl) he hs hx
end
theorem Reads.one {p p' : List Tx} {os : List Wd} (h : Reads p os p') (hl : os.length = 1) : ∃ c, os = [c] ∧ GetR p (.word c) p' := by
  cases h with
  | nil => cases hl
  | @snoc ws p0 w _ h g =>
    rw [List.length_append, List.length_singleton] at hl
    have : ws = [] := List.length_eq_zero_iff.mp (by omega)
    subst this
    generalize he : ([] : List Wd) = e at h
    cases h with
    | nil => exact ⟨w, rfl, g⟩
    | snoc _ _ => exact absurd he (by simp)
theorem Reads.zero {p p' : List Tx} {os : List Wd} (h : Reads p os p') (hl : os.length < 1) : os = [] ∧ p' = p := by
  cases h with
  | nil => exact ⟨rfl, rfl⟩
  | snoc _ _ => rw [List.length_append, List.length_singleton] at hl; omega
theorem g_gath : ∀ Q, nsIn (Mine.KK Q) mainGlobals (Str.ofString "_law_gathered") = some (some (.ref 775)) := by intro Q; kernel_rfl
theorem k_gath : ∀ Q, keepIn (Mine.KK Q) (.ref 775) = true := by intro Q; kernel_rfl
theorem rl2_spec {w : World} {K : Nat} (G : GetOK w K) {X : LX} {S : PS} {tl : Led} {p : List Tx} {k : Nat} {tk : Tok} {g : Addr} (hg : X.rd = .ref g) (A : Abs S p) (Gd : Good p) (hK : phi p < K) (D : Dis X S tl) (L : LamL X tl) (hk : k < 300) :
    Con (dOf p + 2) (uOf p + 20) w g (plN X S tl) True [.int (k : Nat) tk] (GathPost X S tl p k) (GathExc X tl p k) := by
  obtain ⟨g', c', cc, P, b, sc, qual, pm, ct, oc, o2, ws, tq, h1, h2, h3, h4, h5, h6, h7, h8⟩ := L.rd
  rw [hg] at h1
  cases h1
  have key := Option.some.inj ((rfl : lamOfS (nth (fb o787.1) 2) = some _).symm.trans h2)
  cases key
  refine Con.lam (binds := [(Str.ofString "count", .int (k : Nat) tk)]) (plN_tl _ h3) (plN_tl _ h4) h5 h6 rfl (locs rfl) ⟨by omega, by omega⟩ ?_ rfl rfl rfl (by decide)
  intro _ y hw hc hu hcl
  subst hw
  have hc : y.c = dOf p + 1 := hc
  have hu : y.u = uOf p + 17 := hu
  refine Ev.dcall g_gath k_gath (Er.E (Ep.nameF (c := cc) (by rw [hcl]; rfl) (plN_tl _ h7) h8) (Er.I (Ep.nameI rfl) fun t => Er.nil (Tr.con (gath_spec G A Gd hK D L hk) trivial (fun _ h => h) (by omega) (by omega) (fun v n' hv => ⟨n', fun _ h => h, hv⟩) (fun es n' hx => ⟨n', fun _ h => h, hx⟩))))
theorem LamL.fn {X : LX} {tl : Led} (L : LamL X tl) : ∃ g, X.rd = .ref g ∧ FnIn g tl := by
  obtain ⟨g', c', cc, P, b, sc, qual, pm, ct, oc, o2, ws, tq, h1, h2, h3, h4, h5, h6, h7, h8⟩ := L.rd
  exact ⟨g', h1, _, _, _, _, h3⟩
theorem FnIn.mono {g : Addr} {n n' : Led} (h : FnIn g n) (hs : ∀ q ∈ n, q ∈ n') : FnIn g n' := by
  obtain ⟨a, b, c, d, h⟩ := h
  exact ⟨a, b, c, d, hs _ h⟩
noncomputable def U1X (X : LX) (tl : Led) (p : List Tx) (es : List Value) (n' : Led) : Prop := ∃ S' msg p' tm, ((GetR p .none p' ∧ msg = Str.ofString "not enough data in stream to read uint1") ∨ ∃ i, GetR p (.bad i) p' ∧ msg = refT i) ∧ Abs S' p' ∧ Dis X S' tl ∧ es = [.str msg tm] ∧ (∀ q ∈ plN X S' tl, q ∈ n')
noncomputable def U1P (X : LX) (tl : Led) (p : List Tx) (v : Value) (n' : Led) : Prop := ∃ S' c p', GetR p (.word c) p' ∧ IsI (octW c) v ∧ S'.st = .ws ∧ Abs S' p' ∧ Dis X S' tl ∧ (∀ q ∈ plN X S' tl, q ∈ n')
theorem Ev.fread {w : World} {K : Nat} (G : GetOK w K) {X : LX} {S : PS} {tl : Led} {p : List Tx} {k : Nat} (A : Abs S p) (Gd : Good p) (hK : phi p < K) (D : Dis X S tl) (L : LamL X tl) (hk : k < 300)
    {x : Fx} {f : Fn} {m : Loc} {y : Str} {yp ap cp : Pos} {e : Expr} {R : Value → Loc → Led → Prop} {XX : List Value → Led → Prop} {pl : Sem Bool} (hw : x.w = w) (hc : dOf p + 2 ≤ x.c) (hu : uOf p + 20 ≤ x.u) (hy : look m y = some (.ref X.x)) (he1 : Ep x f m (plN X S tl) e (IsI (k : Nat)))
    (hR : ∀ S' os p' tv, GathR p k os p' → ((S.st = .ws ∨ 0 < k) → os.length = k → S'.st = .ws) → Abs S' p' → Dis X S' tl → R (.bytes (Byt (os.map octW)) tv) m (plN X S' tl)) (hX : ∀ S' os p0 i p' tm, Reads p os p0 → os.length < k → GetR p0 (.bad i) p' → Abs S' p' → Dis X S' tl → XX [.str (refT i) tm] (plN X S' tl))
    (hx : (x.env f).kindOf y = some .local := by rfl) (hd : (y == ("__debug__" : Str)) = false := by decide)
    (he : eval (.Call (.Attribute (.Name y yp) (Str.ofString "read") ap) [e] [] cp) (x.env f) = (do
      let ov ← eval (.Name y yp) (x.env f)
      standAt ap.atName
      let (fv, first) ← holding [ov] (getMethod ov (Str.ofString "read") pl)
      callWith cp fv first (backTo cp (starEach [e] (x.env f))) []) := by rfl)
    (hs : starEach [e] (x.env f) = (false, eval e (x.env f)) :: starEach [] (x.env f) := by rfl) : Ev x f m (plN X S tl) (.Call (.Attribute (.Name y yp) (Str.ofString "read") ap) [e] [] cp) R XX := by
  obtain ⟨g, hg, hf⟩ := L.fn
  subst hw
  refine Ev.methOwn (C := 743) (d := X.ld) (es := lexes (lpOf X S) (lvS S)) (k := 21) (Ep.name hy hx hd) (.head _) (.tail _ (.head _)) (.inl lf_read) (by rw [← hg]; exact la_read) (hf.mono plN_tl) (Er.I he1 (fun t => Er.nil ⟨hf.mono plN_tl, Tr.con (rl2_spec G hg A Gd hK D L hk) trivial (fun _ h => h) hc hu (fun v n' hv => ?_) (fun es n' hx => ?_)⟩) hs) he hs rfl
  · obtain ⟨S', os, p', tv, h1, h0, rfl, h2, h3, h4⟩ := hv
    exact ⟨_, h4, hR S' os p' tv h1 h0 h2 h3⟩
  · obtain ⟨S', os, p0, i, p', tm, h1, h2, h3, h4, h5, rfl, h6⟩ := hx
    exact ⟨_, h6, hX S' os p0 i p' tm h1 h2 h3 h4 h5⟩
theorem u1_spec {w : World} {K : Nat} (G : GetOK w K) {X : LX} {S : PS} {tl : Led} {p : List Tx} (A : Abs S p) (Gd : Good p) (hK : phi p < K) (D : Dis X S tl) (L : LamL X tl) :
    Con (dOf p + 3) (uOf p + 30) w 46 (plN X S tl) True [.ref X.x] (U1P X tl p) (U1X X tl p) := by
  refine' Con.of (binds := [(Str.ofString "f", .ref X.x)]) ?a ?b ?c ?d ?e ?h ?i ?j ?k ?l
  case a => k_is
  case b => k_is
  case c => exact fun s X => BindsTo.of_eq rfl
  case d => exact locs rfl
  case e => exact ⟨by omega, by omega⟩
  case i => exact rfl
  case j => exact rfl
  case k => exact rfl
  case l => decide
  intro _ y hw hc hu hcl
  have hc : y.c = dOf p + 2 := hc
  have hu : y.u = uOf p + 27 := hu
  show Ex y (fnO o46.1 46) _ _ (fb o46.1) _ _
  refine Ex.asK (Ev.fread (k := 1) G A Gd hK D L (by decide) hw (by omega) (by omega) rfl Ep.int (fun S' os p' tv hg h0 A' D' => ?_) (fun S' os p0 i p' tm h1 h2 h3 A' D' => ?_))
  · rcases hg with ⟨h1, h2⟩ | ⟨h1, p0, h2, h3⟩
    · obtain ⟨c, rfl, hg⟩ := h1.one h2
      have hok := ((hg.gd Gd).2 : OkW c).oct
      refine Ex.ifT (Tp.val (Ep.name rfl) (Tv.byt (by simp))) ?_
      refine Ex.ret (Ep.go (V := IsI (octW c)) (Ep.sub (Va := (· = .bytes (Byt [octW c]) tv)) (Vb := IsI 0) (Ep.name rfl) Ep.int (by
        rintro _ _ rfl ⟨u, rfl⟩ w A E s Q _ q
        exact item_B hok (by simp) fun t' k => q _ k ⟨t', rfl⟩)) fun v hv => ⟨S', c, p', hg, hv, h0 (.inr (by decide)) rfl, A', D', fun _ h => h⟩)
    · obtain ⟨rfl, rfl⟩ := h2.zero h1
      refine Ex.ifF (Tp.val (Ep.name rfl) (Tv.byt (l := []) (by simp))) ?_
      exact Ex.raiseVE (Ep.blt g_VE b_VE (by decide)) fun t2 => ⟨S', _, p', t2, .inl ⟨h3, rfl⟩, A', D', rfl, fun _ h => h⟩
  · obtain ⟨rfl, rfl⟩ := h1.zero h2
    exact ⟨S', _, p', tm, .inr ⟨i, h3, rfl⟩, A', D', rfl, fun _ h => h⟩
end Mine

end
section
open Mine
namespace Mine
noncomputable def ItBad (nm : Option Wd) (p : List Tx) (i : It) (p' : List Tx) : Prop := (GetR p .none p' ∧ i = (nm, [])) ∨ GetR p (.bad i) p' ∨ ∃ c p2 os p3, GetR p (.word c) p2 ∧ Reads p2 os p3 ∧ os.length < octW c ∧ ((GetR p3 .none p' ∧ i = (nm, octW c :: os.map octW)) ∨ GetR p3 (.bad i) p')
noncomputable def ItX (X : LX) (tl : Led) (nm : Option Wd) (p : List Tx) (es : List Value) (n' : Led) : Prop := ∃ S' i p' tm, ItBad nm p i p' ∧ Abs S' p' ∧ Dis X S' tl ∧ es = [.str (refT i) tm] ∧ (∀ q ∈ plN X S' tl, q ∈ n')
noncomputable def ItP (X : LX) (tl : Led) (p : List Tx) (V : List Nat → Value → Prop) (v : Value) (n' : Led) : Prop := ∃ S' c p2 os p3, GetR p (.word c) p2 ∧ Reads p2 os p3 ∧ os.length = octW c ∧ V (os.map octW) v ∧ S'.st = .ws ∧ Abs S' p3 ∧ Dis X S' tl ∧ (∀ q ∈ plN X S' tl, q ∈ n')
theorem g_u1 : ∀ Q, nsIn (Mine.KK Q) mainGlobals (Str.ofString "read_uint1") = some (some (.ref 46)) := by intro Q; kernel_rfl
theorem k_u1 : ∀ Q, keepIn (Mine.KK Q) (.ref 46) = true := by intro Q; kernel_rfl
theorem by1_spec {w : World} {K : Nat} (G : GetOK w K) {X : LX} {S : PS} {tl : Led} {p : List Tx} {nm : Option Wd} (hnm : nm = some wX) (A : Abs S p) (Gd : Good p) (hK : phi p < K) (D : Dis X S tl) (L : LamL X tl) :
    Con (dOf p + 4) (uOf p + 40) w 60 (plN X S tl) True [.ref X.x] (ItP X tl p (fun l v => ∃ t, v = .bytes (Byt l) t)) (ItX X tl nm p) := by
  refine' Con.of (binds := [(Str.ofString "f", .ref X.x)]) ?a ?b ?c ?d ?e ?h ?i ?j ?k ?l
  case a => k_is
  case b => k_is
  case c => exact fun s X => BindsTo.of_eq rfl
  case d => exact locs rfl
  case e => exact ⟨by omega, by omega⟩
  case i => exact rfl
  case j => exact rfl
  case k => exact rfl
  case l => decide
  intro _ y hw hc hu hcl
  have hc : y.c = dOf p + 3 := hc
  have hu : y.u = uOf p + 37 := hu
  subst hw
  have nmT : ∀ c (l : List Nat), refT (nm, c :: l) = exT (Str.ofString "bytes") c l.length := fun c l => by
    show exT (Str.ofString (if nm = some wX then "bytes" else "string")) c l.length = _
    rw [if_pos hnm]
  show Ex y (fnO o60.1 60) _ _ (fb o60.1) _ _
  refine Ex.asK (Ev.dcall g_u1 k_u1 (Er.E (Ep.name rfl) (Er.nil (Tr.con (u1_spec G A Gd hK D L) trivial (fun _ h => h) (by omega) (by omega) (fun v n' hv => ?_) (fun es n' hx => ?_)))))
  case refine_2 =>
    obtain ⟨S', msg, p', tm, h1, A', D', rfl, hs⟩ := hx
    rcases h1 with ⟨h1, rfl⟩ | ⟨i, h1, rfl⟩
    · exact ⟨n', fun _ h => h, S', (nm, []), p', tm, .inl ⟨h1, rfl⟩, A', D', rfl, hs⟩
    · exact ⟨n', fun _ h => h, S', i, p', tm, .inr (.inl h1), A', D', rfl, hs⟩
  obtain ⟨S1, c, p1, hg, ⟨tc, rfl⟩, hw1, A1, D1, hs⟩ := hv
  refine ⟨_, hs, ?_⟩
  obtain ⟨Gd1, hok⟩ := hg.gd Gd
  have hoc : octW c < 256 := (hok : OkW c).oct
  have hph := hg.ph
  dsimp only [cost] at hph
  refine Ex.asrt (Tp.cast (Tp.cmp (Ep.nameI rfl) Ep.int Co.geI) (decide_eq_true (Int.natCast_nonneg _))) ?_
  refine Ex.asK (Ev.fread (k := octW c) G A1 Gd1 (by omega) D1 L (by omega) rfl (by rw [hc]; unfold dOf; omega) (by rw [hu]; unfold uOf; omega) rfl (Ep.nameI rfl) (fun S' os p' tv hr h0 A' D' => ?_) (fun S' os p0 i p' tm h1 h2 h3 A' D' => ?_))
  case refine_2 => exact ⟨S', i, p', tm, .inr (.inr ⟨c, p1, os, p0, hg, h1, h2, .inr h3⟩), A', D', rfl, fun _ h => h⟩
  have hlen : os.length ≤ octW c := by
    rcases hr with ⟨_, h⟩ | ⟨h, _⟩ <;> omega
  have hml : (os.map octW).length = os.length := List.length_map ..
  refine Ex.iff (c := os.length == octW c) (Tp.cast (Tp.cmp (Ep.lenB (t := tv) (l := os.map octW) (Ep.name rfl) (by omega)) (Ep.nameI rfl) Co.eqI) ?_) (fun he => ?_) (fun he => ?_)
  · rw [hml, Bool.eq_iff_iff, beq_iff_eq, beq_iff_eq]; exact Int.ofNat_inj
  · have he := eq_of_beq he
    rcases hr with ⟨h1, h2⟩ | ⟨h1, _⟩
    · exact Ex.ret (Ep.go (Ep.name rfl) fun v hv => ⟨S', c, p1, os, p', hg, h1, he, ⟨tv, hv⟩, h0 (.inl hw1) he, A', D', fun _ h => h⟩)
    · omega
  · have he : os.length ≠ octW c := fun z => by rw [z, beq_self_eq_true] at he; cases he
    rcases hr with ⟨_, h2⟩ | ⟨h1, p0, h2, h3⟩
    · exact absurd h2 he
    refine Ex.raiseE (Ep.blt g_VE b_VE (by decide)) (Ev.binT Ep.str (by
      rintro u ⟨tu, rfl⟩
      refine Ev.tup (Er.I (Ep.nameI rfl) fun t1 => Er.I (Ep.lenB (t := tv) (l := os.map octW) (Ep.name rfl) (by omega)) fun t2 => Er.nil ⟨Nat.le_of_ble_eq_true rfl, fun Dt hD => Tr.mk fun s Q E ok st q _ _ => ?_⟩)
      refine mod_byt1 st.2 (.head _) (by omega) (by omega) fun t' k => q _ _ _ s.heap k ?_ st
      exact ⟨S', (nm, octW c :: os.map octW), p', t', .inr (.inr ⟨c, p1, os, p0, hg, h2, h1, .inl ⟨h3, rfl⟩⟩), A', D', by rw [nmT], fun q hq => .tail _ hq⟩))
theorem st1_spec {w : World} {K : Nat} (G : GetOK w K) {X : LX} {S : PS} {tl : Led} {p : List Tx} {nm : Option Wd} (hnm : ¬ nm = some wX) (A : Abs S p) (Gd : Good p) (hK : phi p < K) (D : Dis X S tl) (L : LamL X tl) :
    Con (dOf p + 4) (uOf p + 40) w 53 (plN X S tl) True [.ref X.x] (ItP X tl p (fun l v => IsS (T l) v)) (ItX X tl nm p) := by
  refine' Con.of (binds := [(Str.ofString "f", .ref X.x)]) ?a ?b ?c ?d ?e ?h ?i ?j ?k ?l
  case a => k_is
  case b => k_is
  case c => exact fun s X => BindsTo.of_eq rfl
  case d => exact locs rfl
  case e => exact ⟨by omega, by omega⟩
  case i => exact rfl
  case j => exact rfl
  case k => exact rfl
  case l => decide
  intro _ y hw hc hu hcl
  have hc : y.c = dOf p + 3 := hc
  have hu : y.u = uOf p + 37 := hu
  subst hw
  have nmT : ∀ c (l : List Nat), refT (nm, c :: l) = exT (Str.ofString "string") c l.length := fun c l => by
    show exT (Str.ofString (if nm = some wX then "bytes" else "string")) c l.length = _
    rw [if_neg hnm]
  show Ex y (fnO o53.1 53) _ _ (fb o53.1) _ _
  refine Ex.asK (Ev.dcall g_u1 k_u1 (Er.E (Ep.name rfl) (Er.nil (Tr.con (u1_spec G A Gd hK D L) trivial (fun _ h => h) (by omega) (by omega) (fun v n' hv => ?_) (fun es n' hx => ?_)))))
  case refine_2 =>
    obtain ⟨S', msg, p', tm, h1, A', D', rfl, hs⟩ := hx
    rcases h1 with ⟨h1, rfl⟩ | ⟨i, h1, rfl⟩
    · exact ⟨n', fun _ h => h, S', (nm, []), p', tm, .inl ⟨h1, rfl⟩, A', D', rfl, hs⟩
    · exact ⟨n', fun _ h => h, S', i, p', tm, .inr (.inl h1), A', D', rfl, hs⟩
  obtain ⟨S1, c, p1, hg, ⟨tc, rfl⟩, hw1, A1, D1, hs⟩ := hv
  refine ⟨_, hs, ?_⟩
  obtain ⟨Gd1, hok⟩ := hg.gd Gd
  have hoc : octW c < 256 := (hok : OkW c).oct
  have hph := hg.ph
  dsimp only [cost] at hph
  refine Ex.asrt (Tp.cast (Tp.cmp (Ep.nameI rfl) Ep.int Co.geI) (decide_eq_true (Int.natCast_nonneg _))) ?_
  refine Ex.asK (Ev.fread (k := octW c) G A1 Gd1 (by omega) D1 L (by omega) rfl (by rw [hc]; unfold dOf; omega) (by rw [hu]; unfold uOf; omega) rfl (Ep.nameI rfl) (fun S' os p' tv hr h0 A' D' => ?_) (fun S' os p0 i p' tm h1 h2 h3 A' D' => ?_))
  case refine_2 => exact ⟨S', i, p', tm, .inr (.inr ⟨c, p1, os, p0, hg, h1, h2, .inr h3⟩), A', D', rfl, fun _ h => h⟩
  have hlen : os.length ≤ octW c := by
    rcases hr with ⟨_, h⟩ | ⟨h, _⟩ <;> omega
  have hml : (os.map octW).length = os.length := List.length_map ..
  refine Ex.iff (c := os.length == octW c) (Tp.cast (Tp.cmp (Ep.lenB (t := tv) (l := os.map octW) (Ep.name rfl) (by omega)) (Ep.nameI rfl) Co.eqI) ?_) (fun he => ?_) (fun he => ?_)
  · rw [hml, Bool.eq_iff_iff, beq_iff_eq, beq_iff_eq]; exact Int.ofNat_inj
  · have he := eq_of_beq he
    rcases hr with ⟨h1, h2⟩ | ⟨h1, _⟩
    · have h256 : ∀ b ∈ os.map octW, b < 256 := fun b hb => by
        obtain ⟨v, hv, rfl⟩ := List.mem_map.mp hb
        exact ((h1.gd Gd1).2 v hv).oct
      refine Ex.ret (Ev.methBr (ov := .bytes (Byt (os.map octW)) tv) (id := "bytes.decode") (first := [.bytes (Byt (os.map octW)) tv]) (Ep.name rfl) (Tr.mk fun s Q E ok st q _ _ => KBd.method (q _ _ _ s.heap s.toks ⟨rfl, rfl, rfl⟩ st)) (Er.S Ep.str fun t1 => Er.nil (Tr.mk fun s Q E ok st q _ _ => decode_at h256 (by omega) fun t' k => q _ _ _ s.heap k ⟨S', c, p1, os, p', hg, h1, he, ⟨t', rfl⟩, h0 (.inl hw1) he, A', D', fun _ h => h⟩ st)))
    · omega
  · have he : os.length ≠ octW c := fun z => by rw [z, beq_self_eq_true] at he; cases he
    rcases hr with ⟨_, h2⟩ | ⟨h1, p0, h2, h3⟩
    · exact absurd h2 he
    refine Ex.raiseE (Ep.blt g_VE b_VE (by decide)) (Ev.binT Ep.str (by
      rintro u ⟨tu, rfl⟩
      refine Ev.tup (Er.I (Ep.nameI rfl) fun t1 => Er.I (Ep.lenB (t := tv) (l := os.map octW) (Ep.name rfl) (by omega)) fun t2 => Er.nil ⟨Nat.le_of_ble_eq_true rfl, fun Dt hD => Tr.mk fun s Q E ok st q _ _ => ?_⟩)
      refine mod_str1 st.2 (.head _) (by omega) (by omega) fun t' k => q _ _ _ s.heap k ?_ st
      exact ⟨S', (nm, octW c :: os.map octW), p', t', .inr (.inr ⟨c, p1, os, p0, hg, h2, h1, .inl ⟨h3, rfl⟩⟩), A', D', by rw [nmT], fun q hq => .tail _ hq⟩))
end Mine

end
section
open Mine
namespace Mine
open PySem.Builtin
noncomputable def Ec (x : Fx) (f : Fn) (n : Led) (scope : Scope) (cl : List (Str × Addr)) (y : Str) (v : Value) (e : Expr) (V : Value → Prop) : Prop :=
  ∀ (C : Addr) (m₃ : Str → Option Value) (s : Shared) (Q E : Value → Shared → Prop), s.heap.Ns C m₃ → m₃ y = some v → x.Ok f → Kn x [] n s.heap → (∀ u k, V u → Q u { s with toks := k }) → wpAny x.M (x.A f) (eval e (compEnvC scope cl C (x.env f))) Q E s
noncomputable def Et (x : Fx) (f : Fn) (n : Led) (scope : Scope) (cl : List (Str × Addr)) (y : Str) (v : Value) (e : Expr) (b : Bool) : Prop :=
  ∀ (C : Addr) (m₃ : Str → Option Value) (s : Shared) (Q : Bool → Shared → Prop) (E : Value → Shared → Prop), s.heap.Ns C m₃ → m₃ y = some v → x.Ok f → Kn x [] n s.heap → (∀ k, Q b { s with toks := k }) → wpAny x.M (x.A f) (isTrue e (compEnvC scope cl C (x.env f)) (eval e (compEnvC scope cl C (x.env f)))) Q E s
noncomputable def Els (x : Fx) (f : Fn) (n : Led) (scope : Scope) (cl : List (Str × Addr)) (y : Str) (v : Value) (ifs : List Expr) (b : Bool) : Prop :=
  ∀ (C : Addr) (m₃ : Str → Option Value) (s : Shared) (Q : Bool → Shared → Prop) (E : Value → Shared → Prop), s.heap.Ns C m₃ → m₃ y = some v → x.Ok f → Kn x [] n s.heap → (∀ k, Q b { s with toks := k }) →
    wpAny x.M (x.A f) (forIn ifs true fun c r => if r = true then do let ok ← isTrue c (compEnvC scope cl C (x.env f)) (eval c (compEnvC scope cl C (x.env f))); pure (ForInStep.yield ok) else pure (ForInStep.yield r)) Q E s
section
variable {x : Fx} {f : Fn} {n : Led} {scope : Scope} {cl : List (Str × Addr)} {y : Str} {v : Value}
theorem Ec.loc {pos : Pos} (hk : ∀ C, (compEnvC scope cl C (x.env f)).scope.kind = .function := by intro _; rfl) (hl : ∀ C, (compEnvC scope cl C (x.env f)).kindOf y = some .local := by intro _; rfl) (hd : (y == ("__debug__" : Str)) = false := by decide) : Ec x f n scope cl y v (.Name y pos) (· = v) :=
  fun C _ s _ _ hn hm _ _ q => ldVarK hn hm (q v s.toks rfl) (hk C) (hl C) hd
theorem Ec.cel {z : Str} {pos : Pos} {c : Addr} {o : Obj} {u : Value} (hc : cl.lookup z = some c) (hm : (c, o) ∈ n) (ho : o.data = .cell (some u)) (hk : ∀ C, (compEnvC scope cl C (x.env f)).scope.kind = .function := by intro _; rfl) (hl : ∀ C, (compEnvC scope cl C (x.env f)).kindOf z = some .cell := by intro _; rfl) (hd : (z == ("__debug__" : Str)) = false := by decide) : Ec x f n scope cl y v (.Name z pos) (· = u) :=
  fun C _ s _ _ _ _ _ st q => ldCellK hc ⟨o, st.2.get hm, ho⟩ (q u s.toks rfl) (hk C) (hl C) hd
theorem Ec.int {i : Int} {k : Nat} {pos : Pos} : Ec x f n scope cl y v (.Constant (.int i) k pos) (IsI i) := fun _ _ _ _ _ _ _ _ _ q => wpAny_Constant_int (q _ _ ⟨_, rfl⟩)
theorem Ec.bin {l r : Expr} {op : Operator} {pos : Pos} {Vl Vr V : Value → Prop} (hl : Ec x f n scope cl y v l Vl) (hr : Ec x f n scope cl y v r Vr) (ho : ∀ a b, Vl a → Vr b → Fi (binaryOp op a b) V) : Ec x f n scope cl y v (.BinOp l op r pos) V :=
  fun C m₃ s Q E hn hm ok st q => wpAny_BinOp (hl C m₃ s _ E hn hm ok st fun a k ha => hr C m₃ _ _ E hn hm ok st fun b k' hb => ho a b ha hb _ _ E _ Q rfl fun u k'' hu => q u k'' hu)
theorem Ec.sub {a b : Expr} {pos : Pos} {Va Vb V : Value → Prop} (ha : Ec x f n scope cl y v a Va) (hb : Ec x f n scope cl y v b Vb) (ho : ∀ u w, Va u → Vb w → ∀ (s : Shared) (Q E : Value → Shared → Prop), Kn x [] n s.heap → (∀ z k, V z → Q z { s with toks := k }) → wpAny x.M (x.A f) (subscriptTail a b u w) Q E s) : Ec x f n scope cl y v (.Subscript a b pos) V :=
  fun C m₃ s Q E hn hm ok st q => Subscript_ (ha C m₃ s _ E hn hm ok st fun u k hu => hb C m₃ _ _ E hn hm ok st fun w k' hw => ho u w hu hw _ Q E st fun z k'' hz => q z k'' hz)
theorem Ec.ord {p pos : Pos} {e : Expr} {c : Nat} (h : Ec x f n scope cl y v e (IsS (T [c]))) (hk : ∀ C, (compEnvC scope cl C (x.env f)).scope.kind = .function := by intro _; rfl) (hl : ∀ C, (compEnvC scope cl C (x.env f)).kindOf (Str.ofString "ord") = some .globalImplicit := by intro _; rfl)
    (he : ∀ C, eval (.Call (.Name (Str.ofString "ord") p) [e] [] pos) (compEnvC scope cl C (x.env f)) = (do callWith pos (← eval (.Name (Str.ofString "ord") p) (compEnvC scope cl C (x.env f))) [] (backTo pos (starEach [e] (compEnvC scope cl C (x.env f)))) (backToKw pos (keywordEach [] (compEnvC scope cl C (x.env f))))) := by intro _; rfl)
    (hs : ∀ C, starEach [e] (compEnvC scope cl C (x.env f)) = (false, eval e (compEnvC scope cl C (x.env f))) :: starEach [] (compEnvC scope cl C (x.env f)) := by intro _; rfl) : Ec x f n scope cl y v (.Call (.Name (Str.ofString "ord") p) [e] [] pos) (IsI c) :=
  fun C m₃ s Q E hn hm ok st q => Call_ (by
    obtain ⟨⟨mm, F, km⟩, N⟩ := id st
    have T := topRead_of ok.T
    refine PySem.Calls.Name_function_global (hk C) (hl C) (PySem.Calls.loadGlobal_builtin (env := compEnvC scope cl C (x.env f)) (T.g.keeps F.keep) (mg_none_of ok.X T.g (g_ord x.w.params)) (T.b.keeps F.keep) ((T.builtins _ (by decide)).trans b_ord) ?_) (by decide)
    exact PyProof.Rows.callWith_builtin1 (args_cons (h C m₃ s _ E hn hm ok st fun u k hu => args_nil (by
      obtain ⟨t, rfl⟩ := hu
      exact P.ord_of_char (q _ _ ⟨_, rfl⟩))) (hs C)) (hs C) rfl) (he C)
theorem Et.cmp {l r : Expr} {op : CmpOp} {pos : Pos} {Vl Vr : Value → Prop} {b : Bool} (hl : Ec x f n scope cl y v l Vl) (hr : Ec x f n scope cl y v r Vr) (ho : Cop op Vl Vr b) (hm : behindInMarks op r = false := by with_unfolding_all rfl) : Et x f n scope cl y v (.Compare l [op] [r] pos) b :=
  fun C m₃ s Q E hn hmm ok st q => wpAny_isTrue_Compare1 (hl C m₃ s _ E hn hmm ok st fun u k hu => hr C m₃ _ _ E hn hmm ok st fun w k' hw => ho _ _ _ _ _ _ _ hu hw fun k'' => wpAny_truthy_bool (q k'')) hm
theorem Els.nil : Els x f n scope cl y v [] true := fun _ _ s _ _ _ _ _ _ q => wpAny_pure (q s.toks)
theorem Els.one {e : Expr} {b : Bool} (h : Et x f n scope cl y v e b) : Els x f n scope cl y v [e] b := fun C m₃ s Q E hn hm ok st q => by
  rw [List.forIn_cons]
  simp only [if_true]
  exact wpAny_bind (wpAny_bind (h C m₃ s _ E hn hm ok st fun k => wpAny_pure (wpAny_pure (q k))))
end
inductive Src (n : Led) : Value → Nat → (Nat → Value → Prop) → Prop
  | byt {l t} : l.length < 10000 → (∀ c ∈ l, c < 256) → Src n (.bytes (Byt l) t) l.length (fun i v => ∃ c u, l[i]? = some c ∧ v = .int (c : Nat) u)
  | str {l t} : l.length < 10000 → Src n (.str (T l) t) l.length (fun i v => ∃ c u, l[i]? = some c ∧ v = .str (T [c]) u)
  | lst {D vs k} : (D, listOf (List.toArray vs) k) ∈ n → vs.length < 10000 → Src n (.ref D) vs.length (fun i v => vs[i]? = some v)
theorem walks_imp {prog : Program} {w : World} {A : Around} {I : Addr} {fp wr : List Addr} {k k' : Nat} {P P' : Nat → Value → Prop} {St : Nat → Heap → Prop} (W : Walks prog w A I fp wr k P St) (e : k = k') (hP : ∀ i v, P i v → P' i v) : Walks prog w A I fp wr k' P' St := by
  subst e
  exact { sub := W.sub, frame := W.frame, done := W.done, self := W.self, item := fun i s Q E hi st hQ => W.item i s Q E hi st fun v h' tk hp => hQ v h' tk (hP i v hp) }
theorem Src.len {n : Led} {v : Value} {k : Nat} {P : Nat → Value → Prop} (S : Src n v k P) : k < 10000 := by cases S <;> assumption
theorem src_iter {prog : Program} {w : World} {A : Around} {s : Shared} {h₀ : Heap} {L : Addr} {n : Led} {v : Value} {k : Nat} {P : Nat → Value → Prop} {Q E : Value → Shared → Prop} (hh : A.handled = none) (S : Src n v k P) (N : News h₀ L s.heap n)
    (hQ : ∀ o fp St, Walks prog w A s.heap.objs.size fp [s.heap.objs.size] k P St → St 0 (s.heap.push o) → (∀ b ∈ fp, b < (s.heap.push o).objs.size) → Q (.ref s.heap.objs.size) { s with heap := s.heap.push o }) : wpAny (model prog w) A (pyIter v) Q E s := by
  have lt1 : ∀ o : Obj, s.heap.objs.size < (s.heap.push o).objs.size := fun o => by rw [Heap.size_push]; exact Nat.lt_succ_self _
  cases S with
  | @byt l t hl h256 =>
    refine KBw.pyIter_bytes (hQ _ _ _ (walks_imp (KBw.walks hh s.heap.objs.size (Byt l) t) (by simp [Byt]) ?_) ⟨_, Heap.get?_push_size _ rfl, rfl, rfl⟩ fun b hb => ?_)
    · rintro i v ⟨c, u, hc, rfl⟩
      have hc' : (l.map Nat.toUInt8)[i]? = some c := by simpa [Byt] using hc
      rw [List.getElem?_map] at hc'
      obtain ⟨d, hd, e⟩ := Option.map_eq_some_iff.mp hc'
      refine ⟨d, u, hd, ?_⟩
      have hd256 := h256 d (List.mem_of_getElem? hd)
      rw [← e]
      have : d.toUInt8.toNat = d := by simp [Nat.toUInt8, UInt8.toNat_ofNat]; omega
      rw [this]
    · rw [List.mem_singleton.mp hb]; exact lt1 _
  | @str l t hl =>
    have hsz : (T l).cps.size = l.length := by simp
    have cv : ∀ i v, SignAt (T l) i v → ∃ c u, l[i]? = some c ∧ v = .str (T [c]) u := by
      rintro i v ⟨c, u, hc, rfl⟩
      exact ⟨c, u, by simpa using hc, rfl⟩
    cases ha : (T l).cps.all (· < 128)
    · exact wpAny_pyIter_wide ha (hQ _ _ _ (walks_imp (Walks.strWide hh _ (T l) t) hsz cv) ⟨_, Heap.get?_push_size _ rfl, rfl, rfl⟩ fun b hb => by rw [List.mem_singleton.mp hb]; exact lt1 _)
    · exact wpAny_pyIter_ascii ha (hQ _ _ _ (walks_imp (Walks.strAscii hh _ (T l) t) hsz cv) ⟨_, Heap.get?_push_size _ rfl, rfl, rfl⟩ fun b hb => by rw [List.mem_singleton.mp hb]; exact lt1 _)
  | @lst D vs kk hm hl =>
    have hL : s.heap.IsList D vs.toArray := ⟨_, (N _ hm).1, rfl, _, rfl⟩
    have hlt : D < s.heap.objs.size := Heap.lt_size (N _ hm).1
    refine wpAny_pyIter_list hL (hQ _ _ _ (walks_imp (Walks.list hh s.heap.objs.size D (Nat.ne_of_lt hlt) vs.toArray) (by simp) (fun i v h => by simpa using h)) ⟨⟨_, Heap.get?_push_size _ rfl, rfl, rfl⟩, hL.push _⟩ fun b hb => ?_)
    rcases List.mem_cons.mp hb with rfl | hb
    · exact lt1 _
    · rw [List.mem_singleton.mp hb]; exact Nat.lt_trans hlt (lt1 _)
section
variable {x : Fx} {f : Fn} {m : Loc} {n : Led}
theorem Ev.lcP {elt iter : Expr} {y : Str} {yp pos : Pos} {ifs : List Expr} {scope : Scope} {cl : List (Str × Addr)} {R : Value → Loc → Led → Prop} {X : List Value → Led → Prop} (p : Value → Bool) (F : Value → Value → Prop)
    (hiter : Ev x f m n iter (fun v m₁ n₁ => ∃ k P, Src n₁ v k P ∧ (∀ i u, P i u → Els x f n₁ scope cl y u ifs (p u) ∧ (p u = true → Ec x f n₁ scope cl y u elt (F u))) ∧
      ∀ (D : Addr) (vs ys : List Value) (nn : Nat), vs.length = k → (∀ (j : Nat) (u : Value), vs[j]? = some u → P j u) → Paired F (vs.filter p) ys → (∀ q ∈ n₁, q.1 ≠ D) → R (.ref D) m₁ ((D, listOf ys.toArray nn) :: n₁)) X)
    (hclos : closureFor scope (x.env f) = pure cl) (hcell : ∀ z ∈ scope.names, z.2 ≠ .cell := by decide) (hkind : scope.kind = .function := by rfl) (hnames : ∀ z ∈ scope.names, z.2 = .local → scope.names.lookup z.1 = some .local := by decide) (hx : scope.names.lookup y = some .local := by rfl)
    (hs : ∀ v, foldedSetIterable iter (x.env f) v = pure v := by intro _; rfl) : Ev x f m n (.ListComp elt [⟨.Name y yp, iter, ifs, 0⟩] scope pos) R X :=
  Tr.mk fun s Q E ok st q ee po => wpAny_ListComp_free p F hclos hcell hkind hnames hx (hiter.run s _ E ok st (fun v m₁ n₁ h' tk' ⟨k, P, hS, hel, hR⟩ st1 => by
    obtain ⟨⟨mm, Fr1, km⟩, N1⟩ := st1
    refine src_iter rfl hS N1 fun o fp St W h0 hfp => ⟨_, fp, [h'.objs.size], k, P, St, rfl, W, by rw [sizeLine_eq]; have := hS.len; omega, h0, hfp, ?_, ?_⟩
    · have up : ∀ (s₃ : Shared), (∀ b o', b ∉ [h'.objs.size] → (h'.push o).get? b = some o' → s₃.heap.get? b = some o') → Kn x [] n₁ s₃.heap := fun s₃ hk => by
        have hk' : ∀ b o', h'.get? b = some o' → s₃.heap.get? b = some o' := fun b o' e => hk b o' (by simpa using Nat.ne_of_lt (Heap.lt_size e)) (Heap.get?_push_of_some _ e)
        exact ⟨⟨mm, Fr1.keeps hk', fun _ _ e => nomatch e⟩, N1.grown hk'⟩
      exact { tests := fun C i u s₃ m₃ E' hC hP hn hm hk htk => (hel i u hP).1 C m₃ s₃ _ E' hn hm ok (up s₃ hk) fun k => ⟨rfl, _, k, rfl, fun _ _ e => e⟩
              elt := fun C i u s₃ m₃ E' hC hP hp hn hm hk htk => (hel i u hP).2 hp C m₃ s₃ _ E' hn hm ok (up s₃ hk) fun z k hz => ⟨hz, _, k, rfl, fun _ _ e => e⟩ }
    · intro D h'' tk ys vs hD hl hpl hlen hP hF hk
      have hk' : ∀ b o', h'.get? b = some o' → h''.get? b = some o' := fun b o' e => hk b o' (by simpa using Nat.ne_of_lt (Heap.lt_size e)) (Heap.get?_push_of_some _ e)
      have hD' : h'.get? D = none := by
        cases e : h'.get? D with
        | none => rfl
        | some o' => have := Heap.get?_push_of_some o e; rw [this] at hD; cases hD
      obtain ⟨nn, hpn⟩ := hpl
      refine q (.ref D) m₁ ((D, listOf ys.toList.toArray nn) :: n₁) h'' tk (hR D vs ys.toList nn hlen hP hF fun z hz e => ?_) ⟨⟨mm, Fr1.keeps hk', km⟩, List.forall_mem_cons.mpr ⟨⟨by rw [Array.toArray_toList]; exact hpn, fun e => ?_, ?_⟩, N1.grown hk'⟩⟩
      · have := (N1 z hz).1
        rw [e, hD'] at this; cases this
      · obtain ⟨o', es, ep, e1, _⟩ := Fr1.ns
        rw [← (show D = x.L from e), hD'] at e1; cases e1
      · cases e : x.G.get? D with
        | none => rfl
        | some o' => have := Fr1.keep _ _ e; rw [hD'] at this; cases this) ee po) hs
end
end Mine

end
section
open Mine
namespace Mine
open PySem.Builtin PySem.Builtin.Str
theorem glued_E (L : List (List Nat)) : glued (T []) (L.map T) = T L.flatten := by
  have key : ∀ (L : List (List Nat)) (acc : List Nat), (L.map T).foldl (fun (acc : Array Nat) p => acc ++ (T []).cps ++ p.cps) acc.toArray = (acc ++ L.flatten).toArray := by
    intro L
    induction L with
    | nil => intro acc; simp
    | cons x L ih =>
      intro acc
      have := ih (acc ++ x)
      simp only [List.map_cons, List.foldl_cons, List.flatten_cons] at this ⊢
      have e : acc.toArray ++ (T []).cps ++ (T x).cps = (acc ++ x).toArray := by simp
      rw [e, this]
      simp
  cases L with
  | nil => rfl
  | cons x L =>
    unfold glued
    have := key L x
    simp only [List.map_cons, List.drop_one, List.tail_cons, List.headD_cons]
    exact congrArg Str.mk this
theorem join_T {prog : Program} {w : World} {A : Around} {E : Value → Shared → Prop} {s : Shared} {t : Tok} {Q : Value → Shared → Prop} {D : Addr} {ys : List Value} {ls : List (List Nat)} (hl : s.heap.IsList D ys.toArray) (hi : StrsAre ys (ls.map T)) (hz : (ls.map List.length).sum ≤ 1000000)
    (h : ∀ t' k, Q (.str (T ls.flatten) t') { s with toks := k }) : wpAny (model prog w) A (call (.builtin "str.join") [.str (Str.ofString "") t, .ref D]) Q E s := by
  have e0 : Str.ofString "" = T [] := by decide +kernel
  refine join_list (ys := ls.map T) hl (by simpa using hi) ?_ fun t' k => ?_
  · have h3 : (ls.map T).map (·.length) = ls.map List.length := by
      rw [List.map_map]; congr 1
    rw [h3, e0, T_len]
    simp only [List.length_map, List.length_nil]
    omega
  · rw [e0]
    show Q (.str (glued (T []) _) t') _
    rw [glued_E]
    exact h _ _
inductive IntsT : List Value → List Nat → Prop
  | nil : IntsT [] []
  | cons {c t vs l} : IntsT vs l → IntsT (.int ((c : Nat) : Int) t :: vs) (c :: l)
theorem IntsT.of {l : List Nat} : ∀ {vs : List Value}, vs.length = l.length → (∀ (j : Nat) (v : Value), vs[j]? = some v → ∃ c t, l[j]? = some c ∧ v = .int ((c : Nat) : Int) t) → IntsT vs l := by
  induction l with
  | nil =>
    intro vs h _
    rw [List.length_eq_zero_iff.mp h]
    exact .nil
  | cons c l ih =>
    intro vs h hv
    cases vs with
    | nil => cases h
    | cons v vs =>
      obtain ⟨c', t, e1, e2⟩ := hv 0 v rfl
      cases e1
      subst e2
      exact .cons (ih (Nat.succ.inj h) fun j u hu => hv (j + 1) u hu)
theorem IntsT.get {vs : List Value} {l : List Nat} (h : IntsT vs l) : ∀ (j : Nat) (v : Value), vs[j]? = some v → ∃ c t, l[j]? = some c ∧ v = .int ((c : Nat) : Int) t := by
  induction h with
  | nil => intro j v e; simp at e
  | @cons c t vs l _ ih =>
    intro j v e
    cases j with
    | zero => cases e; exact ⟨c, t, rfl, rfl⟩
    | succ j => exact ih j v e
theorem IntsT.length {vs : List Value} {l : List Nat} (h : IntsT vs l) : vs.length = l.length := by
  induction h with
  | nil => rfl
  | cons _ ih => simp [ih]
theorem IntsT.strs {vs ys : List Value} {l : List Nat} {g : Nat → List Nat} (h : IntsT vs l) (P : Paired (fun v y => ∀ c t, v = .int ((c : Nat) : Int) t → ∃ t', y = .str (T (g c)) t') vs ys) : StrsAre ys ((l.map g).map T) := by
  induction h generalizing ys with
  | nil => cases P; exact .nil
  | @cons c t vs l _ ih =>
    cases P with
    | cons h1 h2 =>
      obtain ⟨t', rfl⟩ := h1 c t rfl
      exact .cons _ _ (ih h2)
theorem IntsT.ofP {vs ys : List Value} {l : List Nat} (hl : vs.length = l.length) (hv : ∀ (j : Nat) (v : Value), vs[j]? = some v → ∃ c t, l[j]? = some c ∧ v = .str (T [c]) t) (P : Paired (fun v y => ∀ c t, v = .str (T [c]) t → ∃ t', y = .int ((c : Nat) : Int) t') vs ys) : IntsT ys l := by
  induction P generalizing l with
  | nil =>
    rw [List.length_eq_zero_iff.mp hl.symm]
    exact .nil
  | cons h1 h2 ih =>
    cases l with
    | nil => cases hl
    | cons c l =>
      obtain ⟨c', t, e1, e2⟩ := hv 0 _ rfl
      cases e1
      obtain ⟨t', rfl⟩ := h1 c t e2
      exact .cons (ih (Nat.succ.inj hl) fun j u hu => hv (j + 1) u hu)
noncomputable def pieceT (o : Nat) : List Nat := [[48, 32], [49, 32], [50, 32], [51, 32], [117, 115, 101, 32], [39, 117, 115, 101, 39, 9], [120, 32], [], [35, 32, 117, 115, 101, 32, 49, 10]].getD (o % 9) []
noncomputable def layT (os : List Nat) : List Nat := (os.map pieceT).flatten
theorem Spell.word {a s w : List Nat} {ws : List Wd} (hw : w ≠ []) (h : ∀ line, ∃ line' q, Run (a ++ s) .ws [] line false .sp (.done s .ws w line' q [])) (hs : Spell s ws) : Spell (a ++ s) (w :: ws) := .cons hw h hs
theorem Spell.skip {a s : List Nat} {ws : List Wd} (h : aft a = [] ∧ (∀ s, aft (a ++ s) = s)) (hs : Spell s ws) : Spell (35 :: a ++ s) ws := by
  have e : ∀ {line O}, Run s .ws [] (line + 1) false .sp O → Run (35 :: a ++ s) .ws [] line false .sp O := fun {line O} h' => Run.wsC (s := a ++ s) (by rw [h.2 s]; exact h')
  cases hs with
  | nil hn => exact .nil fun line => (hn (line + 1)).imp fun _ h => e h
  | cons h1 h2 h3 => exact .cons h1 (fun line => (h2 (line + 1)).imp fun _ h => h.imp fun _ h => e h) h3
theorem Spell.end0 : Spell [] [] := .nil fun line => ⟨line, .ws0⟩
theorem run_word {s : List Nat} : ∀ {w tok : List Nat} {line : Int} {q : Bool} {es : ES} {O : Out}, (∀ c ∈ w, isC c = true) → Run s .wd (tok ++ w) line q es O → Run (w ++ s) .wd tok line q es O := by
  intro w
  induction w with
  | nil => intro tok line q es O _ h; rw [List.append_nil] at h; exact h
  | cons c w ih =>
    intro tok line q es O hw h
    exact .wdD (hw c (.head _)) (ih (fun d hd => hw d (.tail _ hd)) (by rw [List.append_assoc]; exact h))
theorem run_bare {s w : List Nat} {z : Nat} (hw : w ≠ []) (hc : ∀ c ∈ w, isC c = true) (hz : isW z = true) (line : Int) : ∃ line' q, Run (w ++ z :: s) .ws [] line false .sp (.done s .ws w line' q []) := by
  cases w with
  | nil => exact absurd rfl hw
  | cons c w => exact ⟨_, _, .wsD (hc c (.head _)) (run_word (fun d hd => hc d (.tail _ hd)) (.wdW rfl hz))⟩
theorem run_quoted {s : List Nat} : ∀ {w tok : List Nat} {line : Int} {es : ES} {O : Out} {q : Bool}, (∀ c ∈ w, c ≠ 39 ∧ c ≠ 10) → (∀ q', Run (39 :: s) .sq (tok ++ w) line q' es O) → Run (w ++ 39 :: s) .sq tok line q es O := by
  intro w
  induction w with
  | nil => intro tok line es O q _ h; have := h q; rw [List.append_nil] at this; exact this
  | cons c w ih =>
    intro tok line es O q hw h
    obtain ⟨h1, h2⟩ := hw c (.head _)
    exact .sqC (line' := line) (by unfold bump; rw [if_neg h2]) h1 (ih (fun d hd => hw d (.tail _ hd)) fun q' => by rw [List.append_assoc]; exact h q')
theorem run_quote {s w : List Nat} {z : Nat} (hc : ∀ c ∈ w, c ≠ 39 ∧ c ≠ 10) (hz : isW z = true) (line : Int) : ∃ line' q, Run (39 :: w ++ 39 :: z :: s) .ws [] line false .sp (.done s .ws w line' q []) :=
  ⟨_, _, .wsQ (run_quoted hc fun q' => .sqE (.wdW rfl hz))⟩
theorem run_hash {s w a : List Nat} (hw : w ≠ []) (hc : ∀ c ∈ w, isC c = true) (ha : ∀ s, aft (a ++ s) = s) (line : Int) : ∃ line' q, Run (w ++ 35 :: a ++ s) .ws [] line false .sp (.done s .ws w line' q []) := by
  cases w with
  | nil => exact absurd rfl hw
  | cons c w =>
    refine ⟨line + 1, false, ?_⟩
    rw [List.append_assoc]
    refine .wsD (hc c (.head _)) (run_word (fun d hd => hc d (.tail _ hd)) ?_)
    have := @Run.wdC (a ++ s) ([c] ++ w) line false .sp
    rw [ha s] at this
    exact this
theorem run_esc {s w : List Nat} {c z : Nat} (hc0 : c ≠ 10) (hc : ∀ d ∈ w, isC d = true) (hz : isW z = true) (line : Int) : ∃ line' q, Run (92 :: c :: w ++ z :: s) .ws [] line false .sp (.done s .ws (c :: w) line' q []) :=
  ⟨_, _, .wsE (.escC (line' := line) (by unfold bump; rw [if_neg hc0]) (fun h => nomatch h) (run_word (tok := [] ++ [c]) hc (.wdW rfl hz)))⟩
theorem piece_spell {s : List Nat} {ws : List Wd} (o : Nat) (hs : Spell s ws) : Spell (pieceT o ++ s) (piece o ++ ws) := by
  unfold pieceT piece
  have hlt := Nat.mod_lt o (show 9 > 0 by decide)
  generalize o % 9 = i at hlt
  have iC : ∀ w ∈ ([[48], [49], [50], [51], wUse, wX] : List Wd), w ≠ [] ∧ ∀ c ∈ w, isC c = true := by decide
  match i, hlt with
  | 0, _ => exact .word (a := [48] ++ [32]) (by decide) (fun line => run_bare (w := [48]) (by decide) (iC _ (by decide)).2 rfl line) hs
  | 1, _ => exact .word (a := [49] ++ [32]) (by decide) (fun line => run_bare (w := [49]) (by decide) (iC _ (by decide)).2 rfl line) hs
  | 2, _ => exact .word (a := [50] ++ [32]) (by decide) (fun line => run_bare (w := [50]) (by decide) (iC _ (by decide)).2 rfl line) hs
  | 3, _ => exact .word (a := [51] ++ [32]) (by decide) (fun line => run_bare (w := [51]) (by decide) (iC _ (by decide)).2 rfl line) hs
  | 4, _ => exact .word (a := wUse ++ [32]) (w := wUse) (by decide) (fun line => run_bare (w := wUse) (by decide) (iC _ (by decide)).2 rfl line) hs
  | 5, _ => exact .word (a := 39 :: wUse ++ [39, 9]) (w := wUse) (by decide) (fun line => run_quote (w := wUse) (by decide) rfl line) hs
  | 6, _ => exact .word (a := wX ++ [32]) (w := wX) (by decide) (fun line => run_bare (w := wX) (by decide) (iC _ (by decide)).2 rfl line) hs
  | 7, _ => exact hs
  | 8, _ => exact .skip (a := [32, 117, 115, 101, 32, 49, 10]) ⟨by decide, fun s => rfl⟩ hs
theorem lay_spell : ∀ os : List Nat, Spell (layT os) (laid os) := by
  intro os
  induction os with
  | nil => exact .end0
  | cons o os ih => exact piece_spell o ih
theorem pieceT_len (o : Nat) : (pieceT o).length ≤ 8 := by
  unfold pieceT
  have hlt := Nat.mod_lt o (show 9 > 0 by decide)
  generalize o % 9 = i at hlt
  match i, hlt with
  | 0, _ | 1, _ | 2, _ | 3, _ | 4, _ | 5, _ | 6, _ | 7, _ | 8, _ => decide
theorem layT_sum (os : List Nat) : ((os.map pieceT).map List.length).sum ≤ 8 * os.length := by
  induction os with
  | nil => exact Nat.le_refl _
  | cons o os ih =>
    have := pieceT_len o
    simp only [List.map_cons, List.sum_cons, List.length_cons]
    omega
theorem layT_len (os : List Nat) : (layT os).length ≤ 8 * os.length := by
  unfold layT
  rw [List.length_flatten]
  exact layT_sum os
end Mine

end
section
open Mine
namespace Mine
theorem bindL_all {kd : Str → Option NameKind} {binds : List (Str × Value)} (h : ∀ p ∈ binds, kd p.1 = some .local) : ∀ {m0 : Str → Option Value} {y : Str}, bindL kd binds m0 y = (match look binds.reverse y with | some v => some v | none => m0 y) := by
  induction binds with
  | nil => intro m0 y; rfl
  | cons p r ih =>
    intro m0 y
    obtain ⟨n, v⟩ := p
    unfold bindL
    rw [ih (fun q hq => h q (.tail _ hq)), if_pos (h (n, v) (.head _))]
    unfold look
    rw [List.reverse_cons, List.lookup_append]
    cases e : List.lookup y r.reverse with
    | some u => rfl
    | none =>
      show (if y = n then some v else m0 y) = _
      rw [show (none : Option Value).or (List.lookup y [(n, v)]) = List.lookup y [(n, v)] from rfl, List.lookup_cons]
      by_cases hy : y = n
      · subst hy; rw [if_pos rfl, beq_self_eq_true]
      · rw [if_neg hy, beq_eq_false_iff_ne.mpr hy]; rfl
theorem Con.ofC {dd uu : Nat} {w : World} {fa : Addr} {news : Led} {pre : Prop} {vs : List Value} {R : Value → Led → Prop} {RE : List Value → Led → Prop}
    {name qual : Str} {params : Arguments} {body : List Stmt} {scope : Scope} {dV kV doc pm cdv ct oc : Value} {an od : Option Addr} {osl : Array (Option Value)} {binds : List (Str × Value)}
    (ho : (Mine.KK w.params).lookup fa = some ⟨oc, od, .func (fnOf name qual params body scope dV kV doc pm an cdv ct), osl⟩) (hcd : codeIn (Mine.KK w.params) cdv qual = true)
    (hbind : ∀ s : Shared, (Mine.KK w.params).In s.heap → BindsTo s (fnOf name qual params body scope dV kV doc pm an cdv ct) ⟨vs, []⟩ binds) (hloc : ∀ y ∈ binds, scope.names.lookup y.1 = some .local)
    (hnd : ((cellsFrom 0 scope.names []).map (·.1)).Nodup) (hdu : 0 < dd ∧ 2 < uu)
    (h : pre → ∀ (x : Fx) (cells : Led), x.w = w → x.c = dd - 1 → x.u = uu - 3 → x.cl = cellsFrom (x.L + 1) scope.names [] → CellsAre (fun _ => none) x.cl cells → (∀ q ∈ news, @LT.lt Nat _ q.1 x.L) → Ex x ⟨qual, scope, fa, cdv⟩ binds.reverse (cells ++ news) body (fun fl _ n' => R (retv fl) n') RE)
    (hco : scope.isCoroutine = false) (hgen : scope.isGenerator = false) (hk : scope.kind = .function) : Con dd uu w fa news pre vs R RE := by
  intro p loose mean mg mb dp un gd cn cs a ccd cl outer A₀ base h₀ L m s Q E B F X N T hck hpre hdp hun ret rai
  have hall : (binds.all fun y => scope.names.lookup y.1 == some .local || scope.names.lookup y.1 == some .cell) = true := List.all_eq_true.mpr fun y hy => by rw [hloc y hy]; rfl
  refine wpAny_call (code_defC (env := envX cn cs L a ccd cl) (outer := outer) B F X N T rfl rfl hck ho hcd ?_ (hbind s (X.keeps F.keep)) hall hnd ?_ hco hgen hk)
  · show dp < recursionLimit
    omega
  intro G LL h1 tk cells FG F1 N1 Y1 B1 X1 T1 l1
  have hloc' : ∀ p ∈ binds, (envOfC qual scope LL fa cdv).kindOf p.1 = some .local := hloc
  have hC : bindC (envOfC qual scope LL fa cdv).kindOf binds (fun _ => none) = fun _ => none := by
    clear F1 Y1 hbind h
    have : ∀ (l : List (Str × Value)) (m0 : Str → Option Value), (∀ p ∈ l, (envOfC qual scope LL fa cdv).kindOf p.1 = some .local) → bindC (envOfC qual scope LL fa cdv).kindOf l m0 = m0 := by
      intro l
      induction l with
      | nil => intro m0 _; rfl
      | cons q r ih => intro m0 hq; obtain ⟨n, v⟩ := q; unfold bindC; rw [if_pos (hq (n, v) (.head _))]; exact ih m0 fun z hz => hq z (.tail _ hz)
    exact this binds _ hloc'
  rw [hC] at Y1
  refine (h hpre ⟨w, p, loose, mean, mg, mb, dp + 1, un + 3, dd - 1, uu - 3, gd, cellsFrom (LL + 1) scope.names [], envX cn cs L a ccd cl :: outer, _, base, G, LL⟩ cells rfl rfl rfl rfl Y1 l1).run _ _ _ ⟨B1, X1, T1, hk, (by show dp + 1 + (dd - 1) < recursionLimit; omega), (by show un + 3 + (uu - 3) < cLine; omega)⟩ ⟨⟨_, F1, fun y v e => ?_⟩, N1⟩ ?_ ?_ PassesOwn.leaving
  · rw [bindL_all hloc', e]
  · rintro fl m' n' h' tk' r ⟨⟨mm, F', _⟩, N'⟩
    exact ⟨LL, mm, n', F', N', fun F₂ N₂ => by
      have := ret (retv fl) h' tk' n' r F₂ N₂
      cases fl <;> exact this⟩
  · rintro e h' tk' es n' r z
    rcases z with ⟨g1, mm, hx, F', N'⟩ | ⟨t, g1, mm, F', RS, u⟩
    · exact leaveX_raise (env := envOfC qual scope LL fa cdv) B1 hx F' N' rfl hk (fun h₂ t R₁ R₂ U => rai e t G h₂ tk' es n' r FG R₁ R₂ U)
    · exact leaveX_on (env := envOfC qual scope LL fa cdv) B1 F' RS u rfl (fun h₂ R₁ R₂ U => rai e t G h₂ tk' es n' r FG R₁ R₂ U)
section
variable {x : Fx} {f : Fn} {m : Loc} {n : Led}
theorem Ev.ife {t b o : Expr} {pos : Pos} {c : Bool} {R : Value → Loc → Led → Prop} {X : List Value → Led → Prop} (ht : Tp x f m n t c) (h1 : c = true → Ev x f m n b R X) (h2 : c = false → Ev x f m n o R X) : Ev x f m n (.IfExp t b o pos) R X := Tr.mk fun s Q E ok st q ee po => IfExp_ (ht.use ok st (fun v h' t' hv0 st1 => by
    subst hv0
    cases v with
    | true => exact ite_tt ((h1 rfl).run _ Q E ok st1 q ee po)
    | false => exact ite_ff ((h2 rfl).run _ Q E ok st1 q ee po)) po)
theorem Ex.asC {y : Str} {p pos : Pos} {e : Expr} {r : List Stmt} {c : Addr} {R : Flow → Loc → Led → Prop} {X : List Value → Led → Prop} (hc : x.cl.lookup y = some c)
    (h : Ev x f m n e (fun v m₁ n₁ => ∃ o v₀ rest, (∀ q ∈ (c, o) :: rest, q ∈ n₁) ∧ (∀ q ∈ rest, q.1 ≠ c) ∧ o.data = .cell v₀ ∧ ∀ o', o'.data = .cell (some v) → Ex x f m₁ ((c, o') :: rest) r R X) X)
    (hs : swapsWith e (some (.Name y p)) pos.line (x.env f) = pure false := by rfl) (hx : (x.env f).kindOf y = some .cell := by rfl) : Ex x f m n (.Assign [.Name y p] e pos :: r) R X :=
  Ex.go <| Tr.mk fun s Q E ok st q ee po => wpAny_Assign_Name (h.run s _ E ok st (fun v m₁ n₁ h' tk' ⟨o, v₀, rest, hsub, hne, hd, hk⟩ st' => by
    obtain ⟨⟨mm, F, km⟩, N⟩ := st'
    exact storeX_C F (fun q hq => N q (hsub q hq)) hc (.head hne) hd (fun h'' o' F' N' ho' => q _ m₁ _ h'' _ ⟨rfl, hk o' ho'⟩ ⟨⟨mm, F', km⟩, N'⟩) ok.k hx) ee po) hs
theorem Cop.eqNS {z : Str} : Cop .Eq (· = .none) (IsS z) false := fun _ _ _ s _ _ _ h1 h2 q => by obtain ⟨t, h2⟩ := h2; subst h1 h2; exact EqNone.eq_none_str (q s.toks)
theorem Tp.nmEq {nm : Option Wd} {nv : Value} {e r : Expr} {pos : Pos} {w : Wd} {z : Str} (hn : NmV nm nv) (he : Ep x f m n e (· = nv)) (hr : Ep x f m n r (IsS z)) (hz : z.cps.toList = w) (hm : behindInMarks .Eq r = false := by with_unfolding_all rfl) : Tp x f m n (.Compare e [.Eq] [r] pos) (decide (nm = some w)) := by
  cases nm with
  | none =>
    have hn : nv = .none := hn
    subst hn
    exact Tp.cmp he hr Cop.eqNS hm
  | some u =>
    obtain ⟨t, hn⟩ : IsS (T u) nv := hn
    subst hn
    refine Tp.cast (Tp.cmp he hr (Cop.eqC rfl) hm) ?_
    rw [hz, Bool.eq_iff_iff, beq_iff_eq, decide_eq_true_iff]
    constructor
    · intro h; exact congrArg some h
    · intro h; exact Option.some.inj h
end
end Mine

end
section
open Mine
namespace Mine
noncomputable def nine : List (List Nat) := [[48, 32], [49, 32], [50, 32], [51, 32], [117, 115, 101, 32], [39, 117, 115, 101, 39, 9], [120, 32], [], [35, 32, 117, 115, 101, 32, 49, 10]]
theorem pieceT_nine (c : Nat) : nine[c % 9]? = some (pieceT c) := by
  unfold pieceT nine
  have hlt := Nat.mod_lt c (show 9 > 0 by decide)
  generalize c % 9 = i at hlt
  match i, hlt with
  | 0, _ | 1, _ | 2, _ | 3, _ | 4, _ | 5, _ | 6, _ | 7, _ | 8, _ => rfl
theorem tup_at {prog : Program} {w : World} {A : Around} {E : Value → Shared → Prop} {s : Shared} {h₀ : Heap} {L : Addr} {n : Led} {Q : Value → Shared → Prop} {value slice : PySem.Expr} {D : Addr} {vs : List Value} {j : Nat} {u : Tok} {v : Value} (N : News h₀ L s.heap n) (hm : (D, tupV vs) ∈ n) (hj : vs[j]? = some v) (hl : vs.length ≤ 1000) (h : Q v s)
    (hs : subscripted slice false (.ref D) (.int (j : Nat) u) = operate [.ref D, .int (j : Nat) u] (getItem (.ref D) (.int (j : Nat) u)) := by with_unfolding_all rfl) : wpAny (model prog w) A (subscriptTail value slice (.ref D) (.int (j : Nat) u)) Q E s := by
  have hlt : j < vs.length := (List.getElem?_eq_some_iff.mp hj).1
  exact item_tupleT (j := j) ⟨_, (N _ hm).1, rfl, _, rfl⟩ (by omega) (by omega) (StrLaws.seqIndex_nonneg (by omega) (by omega)) hj h hs
theorem Fi.join {z : Str} {pl : Sem Bool} {t : Tok} : Fi (getMethod (.str z t) (Str.ofString "join") pl) (· = (.builtin "str.join", [.str z t])) := fun w A E s Q _ q => GM.join (q _ s.toks rfl)
theorem g_by : ∀ Q, nsIn (Mine.KK Q) mainGlobals (Str.ofString "read_bytes1") = some (some (.ref 60)) := by intro Q; kernel_rfl
theorem k_by : ∀ Q, keepIn (Mine.KK Q) (.ref 60) = true := by intro Q; kernel_rfl
theorem g_st : ∀ Q, nsIn (Mine.KK Q) mainGlobals (Str.ofString "read_string1") = some (some (.ref 53)) := by intro Q; kernel_rfl
theorem k_st : ∀ Q, keepIn (Mine.KK Q) (.ref 53) = true := by intro Q; kernel_rfl
noncomputable def HookP (X : LX) (tl : Led) (p : List Tx) (nv : Value) (v : Value) (n' : Led) : Prop := ∃ S' c p2 os p3 Dt tt, GetR p (.word c) p2 ∧ Reads p2 os p3 ∧ os.length = octW c ∧ S'.st = .ws ∧ Abs S' p3 ∧ Dis X S' tl ∧ v = .ref Dt ∧ (Dt, tupV [nv, .str (T (layT (os.map octW))) tt]) ∈ n' ∧ (∀ q ∈ plN X S' tl, q ∈ n')
noncomputable def Tol (n : Led) (v : Value) (l : List Nat) : Prop := ∃ k P, Src n v k P ∧ k = l.length ∧ ∀ i u, P i u → ∃ b t, l[i]? = some b ∧ u = .int ((b : Nat) : Int) t
theorem Src.mono {n n' : Led} {v : Value} {k : Nat} {P : Nat → Value → Prop} (h : Src n v k P) (hs : ∀ q ∈ n, q ∈ n') : Src n' v k P := by
  cases h with
  | byt a b => exact .byt a b
  | str a => exact .str a
  | lst a b => exact .lst (hs _ a) b
theorem Paired.length {α β : Type} {F : α → β → Prop} {l : List α} {l' : List β} (h : Paired F l l') : l.length = l'.length := by
  induction h with
  | nil => rfl
  | cons _ _ ih => simp [ih]
theorem filt_true (vs : List Value) : vs.filter (fun _ => true) = vs := List.filter_eq_self.mpr fun _ _ => rfl
theorem Ec.mono {x : Fx} {f : Fn} {n : Led} {scope : Scope} {cl : List (Str × Addr)} {y : Str} {v : Value} {e : Expr} {V V' : Value → Prop} (h : Ec x f n scope cl y v e V) (k : ∀ u, V u → V' u) : Ec x f n scope cl y v e V' := fun C m₃ s Q E h1 h2 h3 h4 q => h C m₃ s Q E h1 h2 h3 h4 fun u kk hu => q u kk (k u hu)
theorem hook_spec {w : World} {K : Nat} (G : GetOK w K) {X : LX} {S : PS} {tl : Led} {p : List Tx} {nm : Option Wd} {nv : Value} (hnm : NmV nm nv) (A : Abs S p) (Gd : Good p) (hK : phi p < K) (D : Dis X S tl) (L : LamL X tl) :
    Con (dOf p + 5) (uOf p + 60) w 780 (plN X S tl) True [.ref X.x, nv] (HookP X tl p nv) (ItX X tl nm p) := by
  refine' Con.ofC (binds := [(Str.ofString "lexer", .ref X.x), (Str.ofString "name", nv)]) ?a ?b ?c ?d ?nd ?e ?h ?i ?j ?k
  case a => k_is
  case b => k_is
  case c => exact fun s X => BindsTo.of_eq rfl
  case d => exact locs rfl
  case nd => decide +kernel
  case e => exact ⟨by omega, by omega⟩
  case i => exact rfl
  case j => exact rfl
  case k => exact rfl
  intro _ y cells hw hc hu hcl hY hL
  subst hw
  have hc : y.c = dOf p + 4 := hc
  have hu : y.u = uOf p + 57 := hu
  have hcl : y.cl = [(Str.ofString "pieces", y.L + 1)] := hcl
  rw [hcl] at hY
  obtain ⟨o1, rfl, ho1⟩ := hY.one
  have hcc : y.L + 1 ∉ adr X S := fun z => by
    have := adr_led (P := fun a => @LT.lt Nat _ a y.L) hL _ z
    exact Nat.lt_irrefl _ (Nat.lt_of_succ_lt this)
  have hct : ∀ q ∈ tl, q.1 ≠ y.L + 1 := fun q hq => Nat.ne_of_lt (Nat.lt_succ_of_lt (hL q (plN_tl q hq)))
  show Ex y (fnO o780.1 780) _ _ (fb o780.1) _ _
  refine Ex.less (n' := plN X S ((y.L + 1, o1) :: tl)) plN_in ?_
  have D1 := D.cons (o := (y.L + 1, o1)) hcc
  have L1 := L.mono (tl' := (y.L + 1, o1) :: tl) fun _ h => .tail _ h
  have fin : ∀ (S' : PS) (c : Wd) (p2 : List Tx) (os : List Wd) (p3 : List Tx) (v : Value) (ex : Led), GetR p (.word c) p2 → Reads p2 os p3 → os.length = octW c → S'.st = .ws → Abs S' p3 → Dis X S' ((y.L + 1, o1) :: tl) → Tol ex v (os.map octW) → (∀ q ∈ ex, q.1 ≠ y.L + 1) →
      Ex y (fnO o780.1 780) ((Str.ofString "told", v) :: [(Str.ofString "name", nv), (Str.ofString "lexer", .ref X.x)]) (ex ++ plN X S' ((y.L + 1, o1) :: tl)) ((fb o780.1).drop 1) (fun fl _ n' => HookP X tl p nv (retv fl) n') (ItX X tl nm p) := by
    intro S' c p2 os p3 v ex h1 h2 h3 h0 A' D' hT hex
    have hoc : octW c < 256 := ((h1.gd Gd).2 : OkW c).oct
    have hml : (os.map octW).length < 256 := by rw [List.length_map, h3]; exact hoc
    have hcc' : y.L + 1 ∉ adr X S' := D'.ne _ (.head _)
    refine Ex.asC (by rw [hcl]; rfl) (Ev.tup (Er.S (Ep.strT (l := [48, 32]) (by decide +kernel)) fun t0 => Er.S (Ep.strT (l := [49, 32]) (by decide +kernel)) fun t1 => Er.S (Ep.strT (l := [50, 32]) (by decide +kernel)) fun t2 => Er.S (Ep.strT (l := [51, 32]) (by decide +kernel)) fun t3 => Er.S (Ep.strT (l := [117, 115, 101, 32]) (by decide +kernel)) fun t4 => Er.S (Ep.strT (l := [39, 117, 115, 101, 39, 9]) (by decide +kernel)) fun t5 =>
      Er.S (Ep.strT (l := [120, 32]) (by decide +kernel)) fun t6 => Er.S (Ep.strT (l := []) (by decide +kernel)) fun t7 => Er.S (Ep.strT (l := [35, 32, 117, 115, 101, 32, 49, 10]) (by decide +kernel)) fun t8 => Er.nil ⟨Nat.le_of_ble_eq_true rfl, fun Dp hD => ⟨o1, none, (Dp, tupV [.str (T [48, 32]) t0, .str (T [49, 32]) t1, .str (T [50, 32]) t2, .str (T [51, 32]) t3, .str (T [117, 115, 101, 32]) t4, .str (T [39, 117, 115, 101, 39, 9]) t5, .str (T [120, 32]) t6, .str (T []) t7, .str (T [35, 32, 117, 115, 101, 32, 49, 10]) t8]) :: (ex ++ plN X S' tl), ?_, ?_, ho1, fun o' ho' => ?_⟩⟩))
    · refine List.forall_mem_cons.mpr ⟨.tail _ (List.mem_append_right _ (plN_tl _ (.head _))), List.forall_mem_cons.mpr ⟨.head _, fun q hq => .tail _ ?_⟩⟩
      exact (List.mem_append.mp hq).elim (fun h => List.mem_append_left _ h) fun h => List.mem_append_right _ (plN_sub (fun _ h => .tail _ h) q h)
    · have := hD (y.L + 1, o1) (List.mem_append_right _ (plN_tl _ (.head _)))
      exact List.forall_mem_cons.mpr ⟨Nat.ne_of_gt this, fun q hq => (List.mem_append.mp hq).elim (fun h => hex q h) fun h => plN_ne hcc' hct q h⟩
    generalize hvs : ([.str (T [48, 32]) t0, .str (T [49, 32]) t1, .str (T [50, 32]) t2, .str (T [51, 32]) t3, .str (T [117, 115, 101, 32]) t4, .str (T [39, 117, 115, 101, 39, 9]) t5, .str (T [120, 32]) t6, .str (T []) t7, .str (T [35, 32, 117, 115, 101, 32, 49, 10]) t8] : List Value) = vs9
    have hv9 : vs9.length = 9 := by rw [← hvs]; rfl
    have hp9 : ∀ (i : Nat) (l : List Nat), nine[i]? = some l → ∃ t : Tok, vs9[i]? = some (Value.str (T l) t) := by
      rw [← hvs]
      intro i l e
      match i, e with
      | 0, e | 1, e | 2, e | 3, e | 4, e | 5, e | 6, e | 7, e | 8, e => cases e; exact ⟨_, rfl⟩
      | i + 9, e => exact absurd (List.getElem?_eq_some_iff.mp e).1 (by simp [nine])
    obtain ⟨k, P, hS, hk, hP⟩ := hT
    refine Ex.ret (Ev.tup (Er.E (Ep.name rfl) (Er.cons (Ev.methS Ep.str (fun _ => Fi.join) (fun tj => Er.cons (Ev.lcP (cl := [(Str.ofString "pieces", y.L + 1)]) (fun _ => true) (fun (v y : Value) => ∀ (c : Nat) (t : Tok), v = .int ((c : Nat) : Int) t → ∃ t', y = .str (T (pieceT c)) t')
      ((Ep.name rfl).go fun v' hv' => ⟨k, P, hv' ▸ hS.mono (fun q hq => .tail _ (.tail _ (List.mem_append_left _ hq))), fun i u hu => ⟨Els.nil, fun _ => ?_⟩, fun Dl vs ys nn hl1 hl2 hl3 hl4 => Er.nil (Tr.mk fun s Q E ok st q _ _ => ?_)⟩) (by show closureFor _ (envX _ _ _ _ _ y.cl) = _; rw [hcl]; rfl)))))))
    · obtain ⟨b, tb, hb, rfl⟩ := hP i u hu
      refine Ec.sub (Va := (· = .ref Dp)) (Vb := IsI ((b % 9 : Nat) : Int)) (Ec.cel (c := y.L + 1) rfl (.head _) ho') (Ec.bin (Vl := IsI (b : Nat)) (Ec.mono Ec.loc fun z hz => ⟨tb, hz⟩) Ec.int (Bo.modN (by decide))) ?_
      rintro _ _ rfl ⟨tm, rfl⟩ s Q E st q
      obtain ⟨t9, h9⟩ := hp9 _ _ (pieceT_nine b)
      exact tup_at st.2 (.tail _ (.head _)) h9 (by omega) (q _ s.toks fun c t e => by cases e; exact ⟨t9, rfl⟩)
    · rw [filt_true] at hl3
      have hI : IntsT vs (os.map octW) := IntsT.of (hl1.trans hk) fun j u hu => hP j u (hl2 j u hu)
      exact join_T ⟨_, (st.2 _ (.head _)).1, rfl, _, rfl⟩ (hI.strs hl3) (by have := layT_sum (os.map octW); omega) fun t' k => q _ _ _ s.heap k (Er.nil ⟨Nat.le_of_ble_eq_true rfl, fun Dt hDt => ⟨S', c, p2, os, p3, Dt, t', h1, h2, h3, h0, A', D'.tail, rfl, .head _, fun q hq => .tail _ (.tail _ (.tail _ (.tail _ (List.mem_append_right _ hq))))⟩⟩) st
  have exc : ∀ es n', ItX X ((y.L + 1, o1) :: tl) nm p es n' → ∃ n₂, (∀ q ∈ n₂, q ∈ n') ∧ ItX X tl nm p es n₂ := fun es n' hx => by
    obtain ⟨S', i, p', tm, h1, A', D', h2, hs⟩ := hx
    exact ⟨n', fun _ h => h, S', i, p', tm, h1, A', D'.tail, h2, fun q hq => hs q (plN_sub (fun _ h => .tail _ h) q hq)⟩
  refine Ex.asK (Ev.ife (c := decide (nm = some wX)) (Tp.nmEq hnm (Ep.name rfl) Ep.str c_x) (fun h => ?_) (fun h => ?_))
  · have hx := of_decide_eq_true h
    refine Ev.dcall g_by k_by (Er.E (Ep.name rfl) (Er.nil (Tr.con (by1_spec G hx A Gd hK D1 L1) trivial (fun _ h => h) (by omega) (by omega) (fun v n' hv => ?_) exc)))
    obtain ⟨S', c, p2, os, p3, h1, h2, h3, ⟨t, rfl⟩, h0, A', D', hs⟩ := hv
    have hoc : octW c < 256 := ((h1.gd Gd).2 : OkW c).oct
    have h256 : ∀ b ∈ os.map octW, b < 256 := fun b hb => by
      obtain ⟨v, hv, rfl⟩ := List.mem_map.mp hb
      exact ((h2.gd (h1.gd Gd).1).2 v hv).oct
    exact ⟨_, hs, fin S' c p2 os p3 _ [] h1 h2 h3 h0 A' D' ⟨_, _, .byt (by rw [List.length_map]; omega) h256, rfl, fun i u hu => hu⟩ (fun _ h => nomatch h)⟩
  · have hx := of_decide_eq_false h
    refine Ev.lcP (cl := []) (fun _ => true) (fun (v y : Value) => ∀ (c : Nat) (t : Tok), v = .str (T [c]) t → ∃ t', y = .int ((c : Nat) : Int) t') (Ev.dcall g_st k_st (Er.E (Ep.name rfl) (Er.nil (Tr.con (st1_spec G hx A Gd hK D1 L1) trivial (fun _ h => h) (by omega) (by omega) (fun v n' hv => ?_) exc)))) rfl
    obtain ⟨S', c, p2, os, p3, h1, h2, h3, ⟨t, rfl⟩, h0, A', D', hs⟩ := hv
    have hoc : octW c < 256 := ((h1.gd Gd).2 : OkW c).oct
    have hml : (os.map octW).length < 256 := by rw [List.length_map]; omega
    refine ⟨_, hs, _, _, .str (by omega), fun i u hu => ⟨Els.nil, fun _ => ?_⟩, fun Dl vs ys nn hl1 hl2 hl3 hl4 => ?_⟩
    · obtain ⟨b, tb, hb, rfl⟩ := hu
      refine Ec.mono (Ec.ord (Ec.mono Ec.loc fun z hz => ⟨tb, hz⟩)) (fun z hz c t e => ?_)
      cases e
      exact hz
    · rw [filt_true] at hl3
      have hI : IntsT ys (os.map octW) := IntsT.ofP hl1 hl2 hl3
      have hly := hI.length
      refine fin S' c p2 os p3 _ [(Dl, listOf ys.toArray nn)] h1 h2 h3 h0 A' D' ⟨_, _, .lst (.head _) (by omega), hly, fun i u hu => hI.get i u hu⟩ (List.forall_mem_cons.mpr ⟨fun e => hl4 (y.L + 1, o1) (plN_tl _ (.head _)) e.symm, List.forall_mem_nil _⟩)
end Mine

end
section
open Mine
namespace Mine
theorem g_hook : ∀ Q, nsIn (Mine.KK Q) mainGlobals (Str.ofString "_law_hook") = some (some (.ref 780)) := by intro Q; kernel_rfl
theorem k_hook : ∀ Q, keepIn (Mine.KK Q) (.ref 780) = true := by intro Q; kernel_rfl
theorem hk2_spec {w : World} {K : Nat} (G : GetOK w K) {X : LX} {S : PS} {tl : Led} {p : List Tx} {nm : Option Wd} {nv : Value} {g : Addr} (hg : X.hk = .ref g) (hnm : NmV nm nv) (A : Abs S p) (Gd : Good p) (hK : phi p < K) (D : Dis X S tl) (L : LamL X tl) :
    Con (dOf p + 6) (uOf p + 70) w g (plN X S tl) True [nv] (HookP X tl p nv) (ItX X tl nm p) := by
  obtain ⟨g', c', cc, P, b, sc, qual, pm, ct, oc, o2, ws, tq, h1, h2, h3, h4, h5, h6, h7, h8⟩ := L.hk
  rw [hg] at h1
  cases h1
  have key := Option.some.inj ((rfl : lamOfS (nth (fb o787.1) 3) = some _).symm.trans h2)
  cases key
  refine Con.lam (binds := [(Str.ofString "name", nv)]) (plN_tl _ h3) (plN_tl _ h4) h5 h6 rfl (locs rfl) ⟨by omega, by omega⟩ ?_ rfl rfl rfl (by decide)
  intro _ y hw hc hu hcl
  subst hw
  have hc : y.c = dOf p + 5 := hc
  have hu : y.u = uOf p + 67 := hu
  exact Ev.dcall g_hook k_hook (Er.E (Ep.nameF (c := cc) (by rw [hcl]; rfl) (plN_tl _ h7) h8) (Er.E (Ep.name rfl) (Er.nil (Tr.con (hook_spec G hnm A Gd hK D L) trivial (fun _ h => h) (by omega) (by omega) (fun v n' hv => ⟨n', fun _ h => h, hv⟩) (fun es n' hx => ⟨n', fun _ h => h, hx⟩)))))
theorem LamL.fnH {X : LX} {tl : Led} (L : LamL X tl) : ∃ g, X.hk = .ref g ∧ FnIn g tl := by
  obtain ⟨g', c', cc, P, b, sc, qual, pm, ct, oc, o2, ws, tq, h1, h2, h3, h4, h5, h6, h7, h8⟩ := L.hk
  exact ⟨g', h1, _, _, _, _, h3⟩
theorem lm_rt : ∀ Q, methIn (Mine.KK Q) 743 (Str.ofString "read_token") 711 = true := by intro Q; kernel_rfl
theorem ll_rt {P : LP} {c : LV} : getL (Str.ofString "read_token") (lexes P c) = some none := by kernel_rfl
theorem lm_pop : ∀ Q, methIn (Mine.KK Q) 743 (Str.ofString "pop_source") 697 = true := by intro Q; kernel_rfl
theorem ll_pop {P : LP} {c : LV} : getL (Str.ofString "pop_source") (lexes P c) = some none := by kernel_rfl
theorem lm_push : ∀ Q, methIn (Mine.KK Q) 743 (Str.ofString "push_source") 690 = true := by intro Q; kernel_rfl
theorem ll_push {P : LP} {c : LV} : getL (Str.ofString "push_source") (lexes P c) = some none := by kernel_rfl
theorem NmV.handed {nm : Option Wd} {v : Value} (h : NmV nm v) : handedIn v = true := by
  cases nm with
  | none => have h : v = .none := h; subst h; rfl
  | some w => obtain ⟨t, rfl⟩ : IsS (T w) v := h; rfl
theorem LosA.length {l : List Lo} {p : List Tx} (h : LosA l p) : l.length = p.length := by
  induction h with
  | nil => rfl
  | cons _ _ _ ih => simp [ih]
theorem phi_len : ∀ p : List Tx, p.length ≤ phi p := by
  intro p
  induction p with
  | nil => exact Nat.le_refl _
  | cons t p ih => show p.length + 1 ≤ 7 * t.ws.length + 1 + phi p; omega
theorem LosA.at {l : List Lo} {t : Tx} {p : List Tx} (h : LosA l (t :: p)) : ∃ e l', l = e :: l' ∧ NmV t.nm e.nv ∧ TsA e.s t.ws ∧ LosA l' p := by
  cases h with
  | cons a b c => exact ⟨_, _, rfl, a, b, c⟩
theorem LosA.at0 {l : List Lo} (h : LosA l []) : l = [] := by cases h; rfl
theorem Abs.at {S : PS} {t : Tx} {p : List Tx} (h : Abs S (t :: p)) : CuA S t ∧ LosA S.los p := by
  cases h with
  | mk a b => exact ⟨a, b⟩
section
variable {w : World} {K : Nat} {X : LX} {tl : Led} {p : List Tx}
structure GkS where
  k : Nat
  S : PS
  v : Value
noncomputable def GkF (X : LX) (tl : Led) (p : List Tx) (c : GkS) : Prop := ∃ r p', GetR p r p' ∧ ResV r c.v ∧ ((∃ w, r = .word w) → c.S.st = .ws) ∧ Abs c.S p' ∧ Dis X c.S tl
noncomputable def GkP (X : LX) (tl : Led) (p : List Tx) (c : GkS) : Prop := c.v = .none ∧ ∃ n t ts, p = ⟨n, []⟩ :: t :: ts ∧ LosA c.S.los (t :: ts) ∧ Dis X c.S tl
noncomputable def Gk2 (X : LX) (tl : Led) (p : List Tx) (c : GkS) : Prop := (c.k = 0 ∧ GkF X tl p c) ∨ (c.k = 1 ∧ GkP X tl p c)
noncomputable def GkU (X : LX) (tl : Led) (p : List Tx) (c : GkS) : Prop := IsS (T wUse) c.v ∧ ∃ n ws ts, p = ⟨n, wUse :: ws⟩ :: ts ∧ CuA c.S ⟨n, ws⟩ ∧ LosA c.S.los ts ∧ Dis X c.S tl
noncomputable def gkps (X : LX) (c : GkS) : Loc := [(Str.ofString "raw", c.v), (Str.ofString "self", .ref X.x)]
theorem Cop.eqSN {z : Str} : Cop .Eq (IsS z) (· = .none) false := fun _ _ _ s _ _ _ h1 h2 q => by obtain ⟨t, h1⟩ := h1; subst h1 h2; exact EqNone.eq_str_none (q s.toks)
theorem Cop.eqNN : Cop .Eq (· = .none) (· = .none) true := fun _ _ _ s _ _ _ h1 h2 q => by subst h1 h2; exact EqNone.eq_none_none (q s.toks)
noncomputable abbrev gtF : Fn := fnO o704.1 704
theorem gk_tail (G : GetOK w K) {y : Fx} (hw : y.w = w) (hc : y.c = dOf p - 1) (hu : y.u = uOf p - 3) (hK : phi p ≤ K) (h9 : K ≤ 900) (Gd : Good p) (L : LamL X tl) {c : GkS} {m : Loc} (hm : ∀ q ∈ gkps X c, look m q.1 = some q.2) (hP : Gk2 X tl p c) :
    Ex y gtF m (plN X c.S tl) ((fb o704.1).drop 3) (fun fl _ n' => GetPost X tl p (retv fl) n') (GetExc X tl p) := by
  subst hw
  refine Ex.whl (σ := GkS) (gkps X) (fun c => plN X c.S tl) (Gk2 X tl p) (fun c => c.k) c hm (fun _ h => h) hP ?_
  rintro ⟨k, S, v⟩ (⟨rfl, r, p', hg, hv, hs, A', D'⟩ | ⟨rfl, hv, n, t, ts, rfl, hl, D'⟩)
  · dsimp only at hv hs A' D'
    cases r with
    | bad i => exact hv.elim
    | word wd =>
      obtain ⟨tv, rfl⟩ := hv
      refine (Tp.cmp (Vl := IsS (T wd)) (Ep.nameS rfl) (Ep.lxm (P := lpOf X S) (c := lvS S) rfl (.head _) (.tail _ (.head _)) la_eof lo_eof) Cop.eqSN).go ?_
      rw [if_neg (by decide)]
      refine Ex.ifF (Tp.cmp (Ep.lxm (v := .int 0 (X.tc 14)) (P := lpOf X S) (c := lvS S) rfl (.head _) (.tail _ (.head _)) la_debug lo_debug) Ep.int (Cop.geI rfl)) ?_
      exact Ex.ret ((Ep.name (v := .str (T wd) tv) rfl).go fun u hu => ⟨S, .word wd, p', hg, ⟨tv, hu⟩, hs, A', D', fun _ h => h⟩)
    | none =>
      subst hv
      obtain ⟨n', h1, _⟩ := hg.go
      subst h1
      have hlos := A'.at.2.at0
      refine (Tp.cmp (Vl := (· = .none)) (Ep.name rfl) (Ep.lxm (P := lpOf X S) (c := lvS S) rfl (.head _) (.tail _ (.head _)) la_eof lo_eof) Cop.eqNN).go ?_
      rw [if_pos rfl]
      refine Ex.ifT (b := _) (Tp.not (b := false) (Tp.cast (Tp.dq (D := X.fs) (c := S.fn) (vs := S.los.map fun e => .ref e.D) (Ep.lxm (P := lpOf X S) (c := lvS S) rfl (.head _) (.tail _ (.head _)) la_filestack lo_filestack) (.tail _ (.tail _ (.tail _ (.tail _ (.tail _ (.head _)))))) (by rw [hlos]; decide)) (by rw [hlos]; rfl))) ?_
      exact Ex.ret ((Ep.lxm (v := .none) (P := lpOf X S) (c := lvS S) rfl (.head _) (.tail _ (.head _)) la_eof lo_eof).go fun u hu => ⟨S, .none, _, hg, hu, fun h => (by obtain ⟨_, h⟩ := h; cases h), A', D', fun _ h => h⟩)
  · dsimp only at hv hl D'
    subst hv
    obtain ⟨e, los, hlos, hn, ht, hl'⟩ := hl.at
    have hph : phi (t :: ts) + 1 = phi (⟨n, []⟩ :: t :: ts) := by show phi (t :: ts) + 1 = 7 * 0 + 1 + phi (t :: ts); omega
    have hlen := hl'.length
    have hpl := phi_len (⟨n, []⟩ :: t :: ts)
    simp only [List.length_cons] at hpl
    refine (Tp.cmp (Vl := (· = .none)) (Ep.name rfl) (Ep.lxm (P := lpOf X S) (c := lvS S) rfl (.head _) (.tail _ (.head _)) la_eof lo_eof) Cop.eqNN).go ?_
    rw [if_pos rfl]
    refine Ex.ifF (Tp.not (b := true) (Tp.cast (Tp.dq (D := X.fs) (c := S.fn) (vs := S.los.map fun e => .ref e.D) (Ep.lxm (P := lpOf X S) (c := lvS S) rfl (.head _) (.tail _ (.head _)) la_filestack lo_filestack) (.tail _ (.tail _ (.tail _ (.tail _ (.tail _ (.head _)))))) (by rw [hlos, List.map_cons, List.length_cons, List.length_map]; omega)) (by rw [hlos]; rfl))) ?_
    refine Ex.exp (Ev.meth0 (fa := 697) (Ep.name rfl) (.head _) (.tail _ (.head _)) lm_pop ll_pop (Tr.con (pop_spec D' hlos (by omega)) trivial (fun _ h => h) (by rw [hc]; unfold dOf; omega) (by rw [hu]; unfold uOf; omega) (fun v n' hv => ?_) (fun _ _ z => z.elim)))
    obtain ⟨rfl, u, rfl⟩ := hv
    refine ⟨_, fun _ h => h, ?_⟩
    have A1 : Abs (popS S e los u) (t :: ts) := .mk ⟨hn, ht.hp, ht.hl, .inl ⟨rfl, ht.sp⟩⟩ hl'
    refine Ex.asK (Ev.meth0 (fa := 704) (Ep.name rfl) (.head _) (.tail _ (.head _)) lm_get ll_get (Tr.con (G X (popS S e los u) tl (t :: ts) A1 Gd.tail (by omega) (D'.pop hlos) L) trivial (fun _ h => h) (by rw [hc]; unfold dOf; omega) (by rw [hu]; unfold uOf; omega) (fun v n' hv => ?_) (fun es n' hx => ?_)))
    · obtain ⟨S2, r, p2, hg, hv, hs, A2, D2, hsub⟩ := hv
      refine ⟨_, hsub, Ex.nil ⟨⟨0, S2, v⟩, .inl ⟨rfl, r, p2, hg.pop, hv, hs, A2, D2⟩, Nat.zero_lt_one, ?_, fun _ h => h⟩⟩
      exact List.forall_mem_cons.mpr ⟨rfl, List.forall_mem_cons.mpr ⟨rfl, List.forall_mem_nil _⟩⟩
    · obtain ⟨S2, i, p2, tm, hg, A2, D2, rfl, hsub⟩ := hx
      exact ⟨n', fun _ h => h, S2, i, p2, tm, hg.pop, A2, D2, rfl, hsub⟩
end
end Mine

end
section
open Mine
namespace Mine
theorem ItBad.use {n : Option Wd} {ws : List Wd} {ts : List Tx} {i : It} {p' : List Tx} (h : ItBad ws.head? (behind n ws ts) i p') : GetR (⟨n, wUse :: ws⟩ :: ts) (.bad i) p' := by
  rcases h with ⟨h, rfl⟩ | h | ⟨c, p2, os, p3, h1, h2, h3, ⟨h4, rfl⟩ | h4⟩
  · exact h.useN
  · exact h.useB
  · exact .useL h1 h2 h3 h4
  · exact .useLB h1 h2 h3 h4
theorem RtW.name {S S' : PS} {n : Option Wd} {ws : List Wd} {v : Value} (h : RtW S ⟨n, ws⟩ v S') : NmV ws.head? v ∧ CuA S' ⟨n, ws.tail⟩ := by
  obtain ⟨_, h⟩ := h
  cases ws with
  | nil => exact h
  | cons w ws => exact ⟨h.1, h.2.2⟩
theorem GkS.ne_use {p : List Tx} {X : LX} {tl : Led} {c : GkS} (h : Gk2 X tl p c) : c.v = .none ∨ ∃ w, IsS (T w) c.v ∧ w ≠ wUse := by
  rcases h with ⟨_, r, p', hg, hv, _⟩ | ⟨_, hv, _⟩
  · cases r with
    | bad i => exact hv.elim
    | none => exact .inl hv
    | word w => exact .inr ⟨w, hv, hg.go.1⟩
  · exact .inl hv
section
variable {w : World} {K : Nat} {X : LX} {tl : Led} {p : List Tx}
theorem gk_use (G : GetOK w K) {y : Fx} (hw : y.w = w) (hc : y.c = dOf p - 1) (hu : y.u = uOf p - 3) (hK : phi p ≤ K) (h9 : K ≤ 900) (Gd : Good p) (L : LamL X tl) {c : GkS} (hU : GkU X tl p c) {R : Flow → Loc → Led → Prop} {XX : List Value → Led → Prop}
    (hR : ∀ m c', Gk2 X tl p c' → c'.k = 0 → (∀ q ∈ gkps X c', look m q.1 = some q.2) → R .next m (plN X c'.S tl)) (hX : ∀ es n', GetExc X tl p es n' → XX es n') :
    Ex y gtF (gkps X c) (plN X c.S tl) (wb (match nth (fb o704.1) 2 with | .If _ b _ _ => nth b 0 | s => s)) R XX := by
  subst hw
  obtain ⟨k, S, v⟩ := c
  obtain ⟨⟨tv, hv⟩, n, ws, ts, rfl, A, hl, D⟩ := hU
  dsimp only at hv A hl D
  obtain ⟨g, hg, hf⟩ := L.fnH
  have hbp : phi (⟨n, ws.tail⟩ :: ts) + 7 ≤ phi (⟨n, wUse :: ws⟩ :: ts) := behind_ph
  have hbg := behind_gd Gd
  have hpl := phi_len ts
  have hlen := hl.length
  have hph : phi ts < phi (⟨n, wUse :: ws⟩ :: ts) := by show phi ts < 7 * _ + 1 + phi ts; omega
  refine Ex.asK (Ev.methOwn (C := 743) (d := X.ld) (es := lexes (lpOf X S) (lvS S)) (k := 21) (Ep.name rfl) (.head _) (.tail _ (.head _)) (.inr ls_hook) (by rw [← hg]; exact la_sourcehook) (hf.mono plN_tl)
    (Er.cons (Ev.meth0 (fa := 711) (Ep.name rfl) (.head _) (.tail _ (.head _)) lm_rt ll_rt (Tr.con (rtw_spec D A) trivial (fun _ h => h) (by rw [hc]; unfold dOf; omega) (by rw [hu]; unfold uOf; omega) (fun v2 n' hv2 => ?_) (fun _ _ z => z.elim)))))
  obtain ⟨S2, hr, rfl⟩ := hv2
  obtain ⟨hnm, A2⟩ := hr.name
  have D2 := hr.1.dis D
  have hl2 : LosA S2.los ts := by rw [hr.1.los]; exact hl
  refine ⟨_, fun _ h => h, Er.nil ⟨hf.mono plN_tl, Tr.con (hk2_spec G hg hnm (Abs.mk A2 hl2) hbg (by omega) D2 L) trivial (fun _ h => h) (by rw [hc]; unfold dOf; omega) (by rw [hu]; unfold uOf; omega) (fun v3 n' hv3 => ?_) (fun es n' hx => ?_)⟩⟩
  case refine_2 =>
    obtain ⟨S3, i, p3, tm, h1, A3, D3, rfl, hsub⟩ := hx
    exact ⟨n', fun _ h => h, hX _ _ ⟨S3, i, p3, tm, h1.use, A3, D3, rfl, hsub⟩⟩
  obtain ⟨S3, cw, p2, os, p3, Dt, tt, h1, h2, h3, hst, A3, D3, rfl, hDt, hsub⟩ := hv3
  refine ⟨(Dt, tupV [v2, .str (T (layT (os.map octW))) tt]) :: plN X S3 tl, List.forall_mem_cons.mpr ⟨hDt, hsub⟩, ?_⟩
  have hoc : octW cw < 256 := ((h1.gd hbg).2 : OkW cw).oct
  have hml : (os.map octW).length < 256 := by rw [List.length_map]; omega
  have hll := layT_len (os.map octW)
  have hlp := lay_ph h1 h2
  obtain ⟨t3, ts3, rfl⟩ : ∃ t3 ts3, p3 = t3 :: ts3 := by
    cases p3 with
    | nil => cases A3
    | cons a b => exact ⟨a, b, rfl⟩
  obtain ⟨C3, L3⟩ := A3.at
  have hp3 := phi_len (⟨ws.head?, laid (os.map octW)⟩ :: t3 :: ts3)
  have hl3 := L3.length
  simp only [List.length_cons] at hp3
  have hsp : Spell (S3.s.r.drop S3.s.pos) t3.ws := by
    rcases C3.sp with ⟨_, h⟩ | ⟨h, _⟩
    · exact h
    · rw [hst] at h; cases h
  refine Ex.ifT (Tp.tup rfl (.head _) (Nat.le_of_ble_eq_true rfl)) ?_
  refine Ex.unp2 ((Ep.name (v := .ref Dt) rfl).go fun z hz => ⟨Dt, v2, .str (T (layT (os.map octW))) tt, #[], hz, .head _, ?_⟩)
  refine Ex.exp (Ev.meth (fa := 690) (V := fun l => ∃ a b, l = a :: b ∧ a = .str (T (layT (os.map octW))) tt ∧ ∃ c d, b = c :: d ∧ c = v2 ∧ d = []) (Ep.name rfl) (.tail _ (.head _)) (.tail _ (.tail _ (.head _))) lm_push ll_push (Ea.cons (Ep.name rfl) (Ea.cons (Ep.name rfl) Ea.nil rfl) rfl) (fun vs hvs => ?_))
  obtain ⟨a, b, e1, e2, c, d, e3, e4, e5⟩ := hvs
  rw [e1, e2, e3, e4, e5]
  refine Tr.con (push_spec D3 (by omega) (by omega) C3.nm.handed) trivial (fun _ h => .tail _ h) (by rw [hc]; unfold dOf; omega) (by rw [hu]; unfold uOf; omega) (fun v4 n' hv4 => ?_) (fun _ _ z => z.elim)
  obtain ⟨_, so, sd, hs, ts', t1, t2, t3', D', u, D4, rfl⟩ := hv4
  refine ⟨_, fun _ h => h, ?_⟩
  have A4 : Abs (pushS S3 so sd hs ts' (layT (os.map octW)) t1 t2 t3' D' v2 u) (⟨ws.head?, laid (os.map octW)⟩ :: t3 :: ts3) :=
    .mk ⟨hnm, Nat.zero_le _, by show (layT _).length < 9000; omega, .inl ⟨hst, lay_spell _⟩⟩ (.cons C3.nm ⟨C3.hp, C3.hl, hsp⟩ L3)
  have Gd4 := lay_gd (j := ws.head?) (l := os.map octW) (h2.gd (h1.gd hbg).1).1
  refine Ex.asK (Ev.meth0 (fa := 704) (Ep.name rfl) (.head _) (.tail _ (.head _)) lm_get ll_get (Tr.con (G X _ tl _ A4 Gd4 (by omega) D4 L) trivial (fun _ h => h) (by rw [hc]; unfold dOf; omega) (by rw [hu]; unfold uOf; omega) (fun v5 n' hv5 => ?_) (fun es n' hx => ?_)))
  · obtain ⟨S5, r, p5, hg5, hv5, hs5, A5, D5, hsub⟩ := hv5
    refine ⟨_, hsub, Ex.nil (hR _ ⟨0, S5, v5⟩ (.inl ⟨rfl, r, p5, .use h1 h2 h3 hg5, hv5, hs5, A5, D5⟩) rfl ?_)⟩
    exact List.forall_mem_cons.mpr ⟨rfl, List.forall_mem_cons.mpr ⟨rfl, List.forall_mem_nil _⟩⟩
  · obtain ⟨S5, i, p5, tm, hg5, A5, D5, rfl, hsub⟩ := hx
    exact ⟨n', fun _ h => h, hX _ _ ⟨S5, i, p5, tm, .use h1 h2 h3 hg5, A5, D5, rfl, hsub⟩⟩
end
end Mine

end
section
open Mine
namespace Mine
open PySem.SeqAt
theorem kl_last_snoc (vs : List Value) (v : Value) : kl_last (vs ++ [v]) = some (vs, v) := by
  induction vs with
  | nil => rfl
  | cons a vs ih => show (match kl_last (vs ++ [v]) with | some (p, y) => some (a :: p, y) | none => some ([], a)) = _; rw [ih]
theorem kms_from (vs : List Value) (i : Nat) : kms_pick vs (some (i : Int)) none = vs.drop i := by
  unfold kms_pick kms_lo kms_hi
  dsimp only
  rw [if_neg (by omega), Int.toNat_natCast]
  by_cases h : i ≤ vs.length
  · rw [Nat.min_eq_left h, List.take_of_length_le (by rw [List.length_drop]; omega)]
  · rw [Nat.min_eq_right (by omega), List.drop_eq_nil_of_le (Nat.le_refl _), List.drop_eq_nil_of_le (by omega), List.take_nil]
section
variable {x : Fx} {f : Fn} {m : Loc} {n : Led}
theorem Tp.eqNil {e : Expr} {p pos : Pos} {D : Addr} {vs : List Value} {k : Nat} (he : Ep x f m n e (· = .ref D)) (hm : (D, listOf vs.toArray k) ∈ n) (hmk : behindInMarks .Eq (.List [] p) = false := by with_unfolding_all rfl) : Tp x f m n (.Compare e [.Eq] [.List [] p] pos) vs.isEmpty :=
  Tr.mk fun s Q E ok st q ee po => wpAny_isTrue_Compare1 (he.use ok st (fun v h1 t1 e0 st1 => by
    subst e0
    refine (Ev.lst (R := fun v m₁ n₁ => m₁ = m ∧ ∃ D', v = .ref D' ∧ n₁ = (D', listOf #[] 0) :: n) (X := NoX) (Er.nil ⟨Nat.zero_le _, fun D' _ => ⟨rfl, D', rfl, rfl⟩⟩)).run _ _ E ok st1 (fun v m₁ n₁ h2 t2 ⟨e1, D', e2, e3⟩ st2 => ?_) (fun _ _ _ _ _ z => z.elim) po
    subst e1 e2 e3
    have l1 : h2.IsList D vs.toArray := ⟨_, (st2.2 _ (.tail _ hm)).1, rfl, _, rfl⟩
    have l2 : h2.IsList D' #[] := ⟨_, (st2.2 _ (.head _)).1, rfl, _, rfl⟩
    have hu : (x.A f).units < cLine := by have := ok.hu; show x.un < cLine; omega
    cases vs with
    | nil => exact RcAt.lists (A := x.A f) (e := fun _ => true) l1 l2 rfl hu (fun j h => absurd h (by simp)) _ _ _ _ (wpAny_truthy_bool (q _ _ _ h2 _ ⟨rfl, rfl, rfl⟩ ⟨st2.1, fun q hq => st2.2 q (.tail _ hq)⟩))
    | cons a r => exact RcAt.lists_lengths (A := x.A f) l1 l2 (by simp) hu _ _ _ _ (wpAny_truthy_bool (q _ _ _ h2 _ ⟨rfl, rfl, rfl⟩ ⟨st2.1, fun q hq => st2.2 q (.tail _ hq)⟩))) po) hmk
theorem Tp.lstT {y : Str} {yp : Pos} {D : Addr} {vs : List Value} {k : Nat} (hy : look m y = some (.ref D)) (hm : (D, listOf vs.toArray k) ∈ n) (hl : vs.length ≤ 100000) (hx : (x.env f).kindOf y = some .local := by rfl) (hd : (y == ("__debug__" : Str)) = false := by decide) : Tp x f m n (.Name y yp) (!vs.isEmpty) :=
  Tp.ofV (Ep.name hy hx hd) (fun s Q E N q => wpAny_truthy_list (items := vs.toArray) ⟨_, (N _ hm).1, rfl, _, rfl⟩ (by rw [List.size_toArray]; omega) (by
    rw [show vs.toArray.isEmpty = vs.isEmpty by simp]
    exact q _)) rfl
theorem Ep.idx {y : Str} {yp cp pos : Pos} {c i : Nat} {D : Addr} {vs : List Value} {k : Nat} {v : Value} (hy : look m y = some (.ref D)) (hm : (D, listOf vs.toArray k) ∈ n) (hv : vs[i]? = some v) (hi : i < 1000) (hx : (x.env f).kindOf y = some .local := by rfl) (hd : (y == ("__debug__" : Str)) = false := by decide)
    (hs : ∀ u, subscripted (.Constant (.int (i : Nat)) c cp) false (.ref D) (.int (i : Nat) u) = operate [.ref D, .int (i : Nat) u] (getItem (.ref D) (.int (i : Nat) u)) := by intros; with_unfolding_all rfl) (ht : ∀ z, letTemporaryGo (.Name y yp) (.ref D) z = pure () := by intros; with_unfolding_all rfl) : Ep x f m n (.Subscript (.Name y yp) (.Constant (.int (i : Nat)) c cp) pos) (· = v) :=
  Tr.mk fun s Q E ok st q ee po => Subscript_ ((Ep.name hy hx hd).use ok st (fun v0 h1 t1 e0 st1 => (Ep.int (x := x) (f := f) (m := m) (n := n) (i := (i : Nat)) (k := c) (pos := cp)).use ok st1 (fun u h2 t2 ⟨tu, e1⟩ st2 => by
    subst e0 e1
    exact kim_list st2.2 hm rfl rfl (by omega) (by omega) (by simpa using hv) (q _ _ _ _ _ ⟨rfl, rfl, rfl⟩ st2) (hs _) ht) po) po)
theorem Ep.lastL {y : Str} {yp p1 p2 pos : Pos} {c : Nat} {D : Addr} {vs : List Value} {k : Nat} {v : Value} (hy : look m y = some (.ref D)) (hm : (D, listOf (vs ++ [v]).toArray k) ∈ n) (hx : (x.env f).kindOf y = some .local := by rfl) (hd : (y == ("__debug__" : Str)) = false := by decide)
    (hs : ∀ u, subscripted (.UnaryOp .USub (.Constant (.int 1) c p1) p2) false (.ref D) (.int (-1) u) = operate [.ref D, .int (-1) u] (getItem (.ref D) (.int (-1) u)) := by intros; with_unfolding_all rfl) (ht : ∀ z, letTemporaryGo (.Name y yp) (.ref D) z = pure () := by intros; with_unfolding_all rfl) : Ep x f m n (.Subscript (.Name y yp) (.UnaryOp .USub (.Constant (.int 1) c p1) p2) pos) (· = v) :=
  Tr.mk fun s Q E ok st q ee po => Subscript_ ((Ep.name hy hx hd).use ok st (fun v0 h1 t1 e0 st1 => (Ep.neg (pos := p2) (Ep.int (x := x) (f := f) (m := m) (n := n) (i := 1) (k := c) (pos := p1))).use ok st1 (fun u h2 t2 ⟨tu, e1⟩ st2 => by
    subst e0 e1
    refine kim_back (l := vs ++ [v]) st2.2 hm rfl rfl (by decide) (by simp; omega) (by decide) ?_ (q _ _ _ _ _ ⟨rfl, rfl, rfl⟩ st2) (hs _) ht
    have : (-1 + ((vs ++ [v]).length : Int)).toNat = vs.length := by simp; omega
    rw [this]
    simp) po) po)
theorem Ev.slL {y : Str} {yp p cp pos : Pos} {c i : Nat} {D : Addr} {vs : List Value} {k : Nat} {R : Value → Loc → Led → Prop} {X : List Value → Led → Prop} (hy : look m y = some (.ref D)) (hm : (D, listOf vs.toArray k) ∈ n) (hz : vs.length ≤ 100000)
    (h : ∀ D', (∀ q ∈ n, @LT.lt Nat _ q.1 D') → R (.ref D') m ((D', listOf (vs.drop i).toArray 0) :: n)) (hx : (x.env f).kindOf y = some .local := by rfl) (hd : (y == ("__debug__" : Str)) = false := by decide)
    (hs : ∀ b, subscripted (.Slice (some (.Constant (.int (i : Nat)) c cp)) Option.none Option.none p) false (.ref D) (.ref b) = operate [.ref b, .ref D] (getItem (.ref D) (.ref b)) := by intros; with_unfolding_all rfl)
    (ht : ∀ r, letTemporaryGo (.Name y yp) (.ref D) r = pure () := by intros; with_unfolding_all rfl) : Ev x f m n (.Subscript (.Name y yp) (.Slice (some (.Constant (.int (i : Nat)) c cp)) Option.none Option.none p) pos) R X :=
  Tr.mk fun s Q E ok st q ee po => Subscript_ ((Ep.name hy hx hd).use ok st (fun v0 h1 t1 e0 st1 => by
    subst e0
    refine wpAny_Slice (evalPart_some_step (wpAny_Constant_int (evalPart_none_step (evalPart_none_step ?_))))
    obtain ⟨⟨mm, F, km⟩, N⟩ := st1
    exact kms_slice_lit F N (N.isList hm) (.int (i : Nat) _) .none rfl (fun D' h' F' N' hlt => q _ _ _ h' _ (h D' hlt) ⟨⟨mm, F', km⟩, by rw [List.toList_toArray, kms_from] at N'; exact N'⟩) (hs _) ht (by rw [sizeLine_eq]; show vs.length ≤ _; omega)) po)
theorem Ev.catL {l r : Expr} {pos : Pos} {D : Addr} {vs : List Value} {k : Nat} {R : Value → Loc → Led → Prop} {X : List Value → Led → Prop} (hl : Ep x f m n l (· = .ref D))
    (hr : Ev x f m n r (fun v m₁ n₁ => ∃ D₂ ws k₂, v = .ref D₂ ∧ (D, listOf (List.toArray vs) k) ∈ n₁ ∧ (D₂, listOf (List.toArray ws) k₂) ∈ n₁ ∧ vs.length + ws.length ≤ 100000 ∧ ∀ D', (∀ q ∈ n₁, @LT.lt Nat _ q.1 D') → R (.ref D') m₁ ((D', listOf (vs ++ ws).toArray 0) :: n₁)) X) : Ev x f m n (.BinOp l .Add r pos) R X :=
  Ev.binT hl fun u hu => hr.mono (fun v m₁ n₁ ⟨D₂, ws, k₂, e, h1, h2, h3, h4⟩ => by
    subst hu e
    refine Tr.mk fun s Q E ok st q _ _ => ?_
    obtain ⟨⟨mm, F, km⟩, N⟩ := st
    exact kmk_add_lit F N (N.isList h1) (N.isList h2) (zs := vs ++ ws) (by simp) (fun D' h' F' N' hlt => q _ _ _ h' _ (h4 D' hlt) ⟨⟨mm, F', km⟩, N'⟩) (by rw [sizeLine_eq]; simp; omega)) (fun _ _ h => h)
theorem Ev.popL {y : Str} {yp ap pos : Pos} {D : Addr} {vs : List Value} {v : Value} {k : Nat} {rest : Led} {R : Value → Loc → Led → Prop} {X : List Value → Led → Prop} {pl : Sem Bool} (hy : look m y = some (.ref D)) (hn : n = (D, listOf (vs ++ [v]).toArray k) :: rest) (hne : ∀ q ∈ rest, q.1 ≠ D) (hz : vs.length ≤ 100000)
    (h : R v m ((D, listOf vs.toArray (k + 1)) :: rest)) (hx : (x.env f).kindOf y = some .local := by rfl) (hd : (y == ("__debug__" : Str)) = false := by decide)
    (he : eval (.Call (.Attribute (.Name y yp) (Str.ofString "pop") ap) [] [] pos) (x.env f) = (do
      let ov ← eval (.Name y yp) (x.env f)
      standAt ap.atName
      let (fv, first) ← holding [ov] (getMethod ov (Str.ofString "pop") pl)
      callWith pos fv first (backTo pos (starEach [] (x.env f))) []) := by rfl) : Ev x f m n (.Call (.Attribute (.Name y yp) (Str.ofString "pop") ap) [] [] pos) R X := by
  subst hn
  refine Ev.methB0 (ov := .ref D) (id := "list.pop") (first := [.ref D]) (Ep.name hy hx hd) (Tr.mk fun s Q E ok st q _ _ => kl_method st.2 (.head _) PySem.F.slot_list_pop PySem.F.type_list_pop (q _ _ _ s.heap s.toks ⟨rfl, rfl, rfl⟩ st)) (Tr.mk fun s Q E ok st q _ _ => ?_) he
  obtain ⟨⟨mm, F, km⟩, N⟩ := st
  exact kl_pop F N (by rw [List.toList_toArray]; exact kl_last_snoc vs v) (.head hne) (by rw [sizeLine_eq]; simp; omega) (fun h' F' N' => q _ _ _ h' _ h ⟨⟨mm, F', km⟩, N'⟩)
end
end Mine

end
section
open Mine
namespace Mine
noncomputable def seven : List (List Nat) := [[48], [49], [50], [51], [117, 115, 101], [117, 115, 101], [120]]
theorem piece_seven (c : Nat) (h : c % 9 < 7) : ∃ w, seven[c % 9]? = some w ∧ piece c = [w] := by
  unfold piece
  generalize c % 9 = i at h
  match i, h with
  | 0, _ | 1, _ | 2, _ | 3, _ | 4, _ | 5, _ | 6, _ => exact ⟨_, rfl, rfl⟩
theorem piece_none (c : Nat) (h : ¬ c % 9 < 7) : piece c = [] := by
  unfold piece
  have hlt := Nat.mod_lt c (show 9 > 0 by decide)
  generalize c % 9 = i at h hlt
  match i, h, hlt with
  | 7, _, _ | 8, _, _ => rfl
noncomputable def small7 : Value → Bool
  | .int i _ => decide (i % 9 < 7)
  | _ => false
theorem small7_nat (c : Nat) (t : Tok) : small7 (.int ((c : Nat) : Int) t) = decide (c % 9 < 7) := by
  show decide (((c : Nat) : Int) % 9 < 7) = _
  rw [decide_eq_decide]
  omega
theorem laid_strs {vs ys : List Value} {l : List Nat} (h : IntsT vs l) (P : Paired (fun (v y : Value) => ∀ (c : Nat) (t : Tok), v = .int ((c : Nat) : Int) t → ∀ w, seven[c % 9]? = some w → ∃ t', y = .str (T w) t') (vs.filter small7) ys) : StrsAre ys ((laid l).map T) := by
  induction h generalizing ys with
  | nil => cases P; exact .nil
  | @cons c t vs l _ ih =>
    rw [List.filter_cons, small7_nat] at P
    show StrsAre ys ((piece c ++ laid l).map T)
    by_cases hc : c % 9 < 7
    · rw [if_pos (decide_eq_true hc)] at P
      obtain ⟨w, h1, h2⟩ := piece_seven c hc
      rw [h2]
      cases P with
      | cons h3 h4 =>
        obtain ⟨t', rfl⟩ := h3 c t rfl w h1
        exact .cons _ _ (ih h4)
    · rw [if_neg (by simpa using hc)] at P
      rw [piece_none c hc]
      exact ih P
theorem Els.cast {x : Fx} {f : Fn} {n : Led} {scope : Scope} {cl : List (Str × Addr)} {y : Str} {v : Value} {ifs : List Expr} {b c : Bool} (h : Els x f n scope cl y v ifs b) (e : b = c) : Els x f n scope cl y v ifs c := e ▸ h
theorem laid_spec {w : World} {news : Led} {Dn : Addr} {vs : List Value} {k : Nat} {nums : List Nat} (hm : (Dn, listOf vs.toArray k) ∈ news) (hI : IntsT vs nums) (hl : nums.length < 10000) :
    Con 5 40 w 799 news True [.ref Dn] (fun v n' => ∃ D ys nn, v = .ref D ∧ StrsAre ys ((laid nums).map T) ∧ (D, listOf (List.toArray ys) nn) ∈ n' ∧ (∀ q ∈ news, q.1 ≠ D) ∧ (∀ q ∈ news, q ∈ n')) NoX := by
  refine' Con.ofC (binds := [(Str.ofString "octets", .ref Dn)]) ?a ?b ?c ?d ?nd ?e ?h ?i ?j ?k
  case a => k_is
  case b => k_is
  case c => exact fun s X => BindsTo.of_eq rfl
  case d => exact locs rfl
  case nd => decide +kernel
  case e => exact ⟨by omega, by omega⟩
  case i => exact rfl
  case j => exact rfl
  case k => exact rfl
  intro _ y cells hw hc hu hcl hY hL
  have hcl : y.cl = [(Str.ofString "words", y.L + 1)] := hcl
  rw [hcl] at hY
  obtain ⟨o1, rfl, ho1⟩ := hY.one
  have hct : ∀ q ∈ news, q.1 ≠ y.L + 1 := fun q hq => Nat.ne_of_lt (Nat.lt_succ_of_lt (hL q hq))
  have hvl := hI.length
  show Ex y (fnO o799.1 799) _ _ (fb o799.1) _ _
  refine Ex.asC (by rw [hcl]; rfl) (Ev.tup (Er.S (Ep.strT (l := [48]) (by decide +kernel)) fun t0 => Er.S (Ep.strT (l := [49]) (by decide +kernel)) fun t1 => Er.S (Ep.strT (l := [50]) (by decide +kernel)) fun t2 => Er.S (Ep.strT (l := [51]) (by decide +kernel)) fun t3 => Er.S (Ep.strT (l := [117, 115, 101]) (by decide +kernel)) fun t4 => Er.S (Ep.strT (l := [117, 115, 101]) (by decide +kernel)) fun t5 =>
    Er.S (Ep.strT (l := [120]) (by decide +kernel)) fun t6 => Er.nil ⟨Nat.le_of_ble_eq_true rfl, fun Dp hD => ⟨o1, none, (Dp, tupV [.str (T [48]) t0, .str (T [49]) t1, .str (T [50]) t2, .str (T [51]) t3, .str (T [117, 115, 101]) t4, .str (T [117, 115, 101]) t5, .str (T [120]) t6]) :: news, ?_, ?_, ho1, fun o' ho' => ?_⟩⟩))
  · exact (List.forall_mem_cons.mpr ⟨.tail _ (.head _), List.forall_mem_cons.mpr ⟨.head _, fun _ h => .tail _ (.tail _ h)⟩⟩)
  · exact List.forall_mem_cons.mpr ⟨Nat.ne_of_gt (hD (y.L + 1, o1) (.head _)), hct⟩
  generalize hvs : ([.str (T [48]) t0, .str (T [49]) t1, .str (T [50]) t2, .str (T [51]) t3, .str (T [117, 115, 101]) t4, .str (T [117, 115, 101]) t5, .str (T [120]) t6] : List Value) = vs7
  have hv7 : vs7.length = 7 := by rw [← hvs]; rfl
  have hp7 : ∀ (i : Nat) (l : List Nat), seven[i]? = some l → ∃ t : Tok, vs7[i]? = some (Value.str (T l) t) := by
    rw [← hvs]
    intro i l e
    match i, e with
    | 0, e | 1, e | 2, e | 3, e | 4, e | 5, e | 6, e => cases e; exact ⟨_, rfl⟩
    | i + 7, e => exact absurd (List.getElem?_eq_some_iff.mp e).1 (by simp [seven])
  refine Ex.ret (Ev.lcP (cl := [(Str.ofString "words", y.L + 1)]) small7 (fun (v y : Value) => ∀ (c : Nat) (t : Tok), v = .int ((c : Nat) : Int) t → ∀ w, seven[c % 9]? = some w → ∃ t', y = .str (T w) t')
    ((Ep.name (v := .ref Dn) rfl).go fun v' hv' => ⟨vs.length, (fun i v => vs[i]? = some v), by rw [hv']; exact .lst (.tail _ (.tail _ hm)) (by omega), fun i u hu => ?_, fun Dl us ys nn hl1 hl2 hl3 hl4 => ?_⟩) (by show closureFor _ (envX _ _ _ _ _ y.cl) = _; rw [hcl]; rfl))
  · obtain ⟨b, tb, hb, rfl⟩ := hI.get i u hu
    refine ⟨Els.cast (Els.one (Et.cmp (Ec.bin (Vl := IsI (b : Nat)) (Ec.mono Ec.loc fun z hz => ⟨tb, hz⟩) Ec.int (Bo.modN (by decide))) Ec.int Co.ltI)) ?_, fun hs => ?_⟩
    · rw [small7_nat]
      show decide (((b % 9 : Nat) : Int) < ((7 : Nat) : Int)) = _
      rw [decide_eq_decide]
      exact Int.ofNat_lt
    · refine Ec.sub (Va := (· = .ref Dp)) (Vb := IsI ((b % 9 : Nat) : Int)) (Ec.cel (c := y.L + 1) rfl (.head _) ho') (Ec.bin (Vl := IsI (b : Nat)) (Ec.mono Ec.loc fun z hz => ⟨tb, hz⟩) Ec.int (Bo.modN (by decide))) ?_
      rintro _ _ rfl ⟨tm, rfl⟩ s Q E st q
      have hb7 : b % 9 < 7 := by rw [small7_nat] at hs; exact of_decide_eq_true hs
      obtain ⟨w7, h7, _⟩ := piece_seven b hb7
      obtain ⟨t9, h9⟩ := hp7 _ _ h7
      exact tup_at st.2 (.tail _ (.head _)) h9 (by omega) (q _ s.toks fun c t e w hw => by cases e; rw [h7] at hw; cases hw; exact ⟨t9, rfl⟩)
  · have hus : us = vs := by
      refine List.ext_getElem? fun j => ?_
      by_cases hj : j < us.length
      · have := hl2 j us[j] (List.getElem?_eq_getElem hj)
        rw [List.getElem?_eq_getElem hj, this]
      · rw [List.getElem?_eq_none (by omega), List.getElem?_eq_none (by omega)]
    subst hus
    exact ⟨Dl, ys, nn, rfl, laid_strs hI hl3, .head _, fun q hq => hl4 q (.tail _ (.tail _ hq)), fun q hq => .tail _ (.tail _ (.tail _ hq))⟩
theorem mod_lawB {prog : Program} {w : World} {A : Around} {E : Value → Shared → Prop} {s : Shared} {t u1 u2 u3 : Tok} {Q : Value → Shared → Prop} {b L : Addr} {h₀ : Heap} {news : List (Addr × Obj)} {kind kind1 : Str} {c n : Nat} (N : News h₀ L s.heap news) (hb : (b, tupV [.int (c : Int) u1, .str kind1 u2, .int (n : Int) u3]) ∈ news) (hk : kind1.length ≤ 10) (he : kind1 ++ Str.ofString ", but only " = kind ++ Str.ofString "1, but only ") (hc : c < 10000) (hn : n < 10000)
    (h : ∀ t' k, Q (.str (exT kind c n) t') { s with toks := k }) : wpAny (model prog w) A (binaryOp .Mod (.str (Str.ofString "expected %d bytes in a %s, but only %d remain") t) (.ref b)) Q E s := by
  refine mod_any N hb (T := exT kind c n) (Pf.cast (Pf.tx (z := Str.ofString "expected ") (by decide +kernel) (by decide +kernel) (by decide +kernel) (Pf.d (u := u1) (Int.natCast_nonneg c) (by omega) (Pf.tx (z := Str.ofString " bytes in a ") (by decide +kernel) (by decide +kernel) (by decide +kernel) (Pf.s (u := u2) hk (Pf.tx (z := Str.ofString ", but only ") (by decide +kernel) (by decide +kernel) (by decide +kernel) (Pf.d (u := u3) (Int.natCast_nonneg n) (by omega) (Pf.tx (z := Str.ofString " remain") (by decide +kernel) (by decide +kernel) (by decide +kernel) .nil))))))) (by decide +kernel) ?_) ?_ h
  · rw [← Str.append_assoc kind1, he]
    simp only [exT, Str.append_assoc, Str.append_empty]
  · exact Nat.le_of_ble_eq_true (by decide +kernel)
noncomputable def WvIn (n : Led) (wv : Value) : Res → Prop
  | .word w => IsS (T w) wv
  | .none => wv = .none
  | .bad i => ∃ d t1 t2, wv = .ref d ∧ (d, tupV [.str (Str.ofString "refused") t1, .str (refT i) t2]) ∈ n
theorem g_laid : ∀ Q, nsIn (Mine.KK Q) mainGlobals (Str.ofString "_law_laid") = some (some (.ref 799)) := by intro Q; kernel_rfl
theorem k_laid : ∀ Q, keepIn (Mine.KK Q) (.ref 799) = true := by intro Q; kernel_rfl
theorem rf_spec {w : World} {news : Led} {Di Dn : Addr} {nv : Value} {vs : List Value} {k : Nat} {nm : Option Wd} {nums : List Nat} (hi : (Di, tupV [nv, .ref Dn]) ∈ news) (hm : (Dn, listOf vs.toArray k) ∈ news) (hnm : NmV nm nv) (hI : IntsT vs nums) (hl : nums.length < 1000) (h256 : ∀ c ∈ nums, c < 256) :
    Con 5 40 w 806 news True [.ref Di] (fun v n' => WvIn n' v (.bad (nm, nums)) ∧ (∀ q ∈ news, q ∈ n')) NoX := by
  refine' Con.of (binds := [(Str.ofString "item", .ref Di)]) ?a ?b ?c ?d ?e ?h ?i ?j ?k ?l
  case a => k_is
  case b => k_is
  case c => exact fun s X => BindsTo.of_eq rfl
  case d => exact locs rfl
  case e => exact ⟨by omega, by omega⟩
  case i => exact rfl
  case j => exact rfl
  case k => exact rfl
  case l => decide
  intro _ y hw hc hu hcl
  show Ex y (fnO o806.1 806) _ _ (fb o806.1) _ _
  refine Ex.unp2 ((Ep.name (v := .ref Di) rfl).go fun z hz => ⟨Di, nv, .ref Dn, #[], hz, hi, ?_⟩)
  have hvl := hI.length
  cases hI with
  | nil =>
    refine Ex.ifT (Tp.eqNil (vs := []) (Ep.name rfl) hm) ?_
    exact Ex.ret (Ev.tup (Er.S Ep.str fun t1 => Er.S Ep.str fun t2 => Er.nil ⟨Nat.le_of_ble_eq_true rfl, fun D hD => ⟨⟨D, t1, t2, rfl, .head _⟩, fun q hq => .tail _ hq⟩⟩))
  | @cons c t vs l hI =>
    refine Ex.ifF (Tp.eqNil (vs := _ :: vs) (Ep.name rfl) hm) ?_
    refine Ex.asS (z := Str.ofString (if nm = some wX then "bytes1" else "string1")) (Ep.ife (c := decide (nm = some wX)) (Tp.nmEq hnm (Ep.name rfl) Ep.str c_x) (fun h => ?_) (fun h => ?_)) fun tk => ?_
    · rw [if_pos (of_decide_eq_true h)]; exact Ep.str
    · rw [if_neg (of_decide_eq_false h)]; exact Ep.str
    refine Ex.ret (Ev.tup (Er.S Ep.str fun t1 => Er.cons (Ev.binT Ep.str (by
      rintro u ⟨tu, rfl⟩
      refine Ev.tup (Er.E (Ep.idx (i := 0) (D := Dn) (vs := .int ((c : Nat) : Int) t :: vs) rfl hm rfl (by decide)) (Er.S (Ep.nameS rfl) fun t3 => Er.I (Ep.bin (Ep.lenL (Ep.name rfl) hm (by omega)) Ep.int Bo.subI) fun t4 => Er.nil ⟨Nat.le_of_ble_eq_true rfl, fun Dt hD => Tr.mk fun s Q E ok st q _ _ => ?_⟩))
      have e1 : (((Value.int ((c : Nat) : Int) t :: vs).length : Nat) : Int) - 1 = ((l.length : Nat) : Int) := by simp at hvl ⊢; omega
      rw [e1] at st
      have hc2 := h256 c (.head _)
      refine mod_lawB (kind := Str.ofString (if nm = some wX then "bytes" else "string")) st.2 (.head _) ?_ ?_ (by omega) (by simp at hl; omega) fun t' k => q _ _ _ s.heap k (Er.nil ⟨Nat.le_of_ble_eq_true rfl, fun D hD => ⟨⟨D, t1, t', rfl, .head _⟩, fun q hq => .tail _ (.tail _ hq)⟩⟩) (e1 ▸ st)
      · split <;> decide +kernel
      · split <;> decide +kernel))))
end Mine

end
section
open Mine
namespace Mine
noncomputable def massO : List It → Nat
  | [] => 0
  | i :: o => 7 * i.2.length + 1 + massO o
theorem massO_len : ∀ o : List It, o.length ≤ massO o := by
  intro o
  induction o with
  | nil => exact Nat.le_refl _
  | cons i o ih => show o.length + 1 ≤ 7 * i.2.length + 1 + massO o; omega
inductive RowsIn (n : Led) : List Value → List Row → Prop
  | nil : RowsIn n [] []
  | snoc {vs rows D wv nv r nm} : RowsIn n vs rows → (D, tupV [wv, nv]) ∈ n → WvIn n wv r → NmV nm nv → RowsIn n (vs ++ [.ref D]) (rows ++ [(r, nm)])
inductive OpIn (n : Led) : List Value → List It → Prop
  | nil : OpIn n [] []
  | snoc {vs o D nv Dn ns k i nums} : OpIn n vs o → (D, tupV [nv, .ref Dn]) ∈ n → (Dn, listOf (List.toArray ns) k) ∈ n → NmV i nv → IntsT ns nums → OpIn n (vs ++ [.ref D]) ((i, nums) :: o)
inductive PiIn (n : Led) : List Value → List Tx → Prop
  | nil : PiIn n [] []
  | snoc {vs p D nv Dl ws k t} : PiIn n vs p → (D, tupV [nv, .ref Dl]) ∈ n → (Dl, listOf (List.toArray ws) k) ∈ n → NmV t.nm nv → StrsAre ws (t.ws.map T) → PiIn n (vs ++ [.ref D]) (t :: p)
theorem WvIn.mono {n n' : Led} {wv : Value} {r : Res} (h : WvIn n wv r) (hs : ∀ q ∈ n, q ∈ n') : WvIn n' wv r := by
  cases r with
  | word w => exact h
  | none => exact h
  | bad i => obtain ⟨d, t1, t2, h1, h2⟩ := h; exact ⟨d, t1, t2, h1, hs _ h2⟩
theorem RowsIn.mono {n n' : Led} {vs : List Value} {rows : List Row} (h : RowsIn n vs rows) (hs : ∀ q ∈ n, q ∈ n') : RowsIn n' vs rows := by
  induction h with
  | nil => exact .nil
  | snoc _ a b c ih => exact .snoc ih (hs _ a) (b.mono hs) c
theorem OpIn.mono {n n' : Led} {vs : List Value} {o : List It} (h : OpIn n vs o) (hs : ∀ q ∈ n, q ∈ n') : OpIn n' vs o := by
  induction h with
  | nil => exact .nil
  | snoc _ a b c d ih => exact .snoc ih (hs _ a) (hs _ b) c d
theorem PiIn.mono {n n' : Led} {vs : List Value} {p : List Tx} (h : PiIn n vs p) (hs : ∀ q ∈ n, q ∈ n') : PiIn n' vs p := by
  induction h with
  | nil => exact .nil
  | snoc _ a b c d ih => exact .snoc ih (hs _ a) (hs _ b) c d
theorem RowsIn.length {n : Led} {vs : List Value} {rows : List Row} (h : RowsIn n vs rows) : vs.length = rows.length := by
  induction h with
  | nil => rfl
  | snoc _ _ _ _ ih => simp [ih]
theorem OpIn.length {n : Led} {vs : List Value} {o : List It} (h : OpIn n vs o) : vs.length = o.length := by
  induction h with
  | nil => rfl
  | snoc _ _ _ _ _ ih => simp [ih]
theorem PiIn.length {n : Led} {vs : List Value} {p : List Tx} (h : PiIn n vs p) : vs.length = p.length := by
  induction h with
  | nil => rfl
  | snoc _ _ _ _ _ ih => simp [ih]
structure RxS where
  rvs : List Value
  ovs : List Value
  pvs : List Value
  kr : Nat
  ko : Nat
  kp : Nat
  tl : Led
  rows : List Row
  o : List It
  p : List Tx
  fuel : Nat
structure RxA where
  R : Addr
  O : Addr
  P : Addr
  base : Led
  out : List Row
noncomputable def rxN (a : RxA) (c : RxS) : Led := (a.R, listOf c.rvs.toArray c.kr) :: (a.O, listOf c.ovs.toArray c.ko) :: (a.P, listOf c.pvs.toArray c.kp) :: c.tl
noncomputable def rxPs (a : RxA) : Loc := [(Str.ofString "rows", .ref a.R), (Str.ofString "opened", .ref a.O), (Str.ofString "pile", .ref a.P)]
structure RxP (a : RxA) (c : RxS) : Prop where
  hr : RowsIn c.tl c.rvs c.rows
  ho : OpIn c.tl c.ovs c.o
  hp : PiIn c.tl c.pvs c.p
  hm : ∃ rest, ma c.fuel c.o c.p = some rest ∧ c.rows ++ rest = a.out
  hg : Good c.p
  h6 : ∀ i ∈ c.o, ∀ b ∈ i.2, b < 256
  hz : massO c.o + phi c.p ≤ 600
  hb : ∀ q ∈ a.base, q ∈ c.tl
  hne : ∀ q ∈ c.tl, q.1 ≠ a.R ∧ q.1 ≠ a.O ∧ q.1 ≠ a.P
structure RxD (a : RxA) : Prop where
  n1 : @Ne Nat a.R a.O
  n2 : @Ne Nat a.R a.P
  n3 : @Ne Nat a.O a.P
  hl : a.out.length ≤ 1000
theorem RxP.rl {a : RxA} {c : RxS} (H : RxP a c) (D : RxD a) : c.rvs.length ≤ 1000 := by
  obtain ⟨rest, _, h⟩ := H.hm
  have := congrArg List.length h
  rw [List.length_append] at this
  have := H.hr.length
  have := D.hl
  omega
theorem RxP.ol {a : RxA} {c : RxS} (H : RxP a c) : c.ovs.length ≤ 600 := by
  have := H.ho.length
  have := massO_len c.o
  have := H.hz
  omega
theorem RxP.pl {a : RxA} {c : RxS} (H : RxP a c) : c.pvs.length ≤ 600 := by
  have := H.hp.length
  have := phi_len c.p
  have := H.hz
  omega
theorem fresh_ne {a : RxA} {n : Led} {D : Addr} (hD : ∀ q ∈ n, @LT.lt Nat _ q.1 D) (h1 : ∃ o, (a.R, o) ∈ n) (h2 : ∃ o, (a.O, o) ∈ n) (h3 : ∃ o, (a.P, o) ∈ n) : D ≠ a.R ∧ D ≠ a.O ∧ D ≠ a.P := by
  obtain ⟨o1, h1⟩ := h1
  obtain ⟨o2, h2⟩ := h2
  obtain ⟨o3, h3⟩ := h3
  exact ⟨Nat.ne_of_gt (hD _ h1), Nat.ne_of_gt (hD _ h2), Nat.ne_of_gt (hD _ h3)⟩
end Mine

end
section
open Mine
namespace Mine
theorem strs_nil {vs : List Value} (h : StrsAre vs []) : vs = [] := by cases h; rfl
theorem strs_cons {vs : List Value} {z : Str} {zs : List Str} (h : StrsAre vs (z :: zs)) : ∃ t vs', vs = .str z t :: vs' ∧ StrsAre vs' zs := by cases h with | cons _ t h => exact ⟨t, _, rfl, h⟩
noncomputable abbrev rwF : Fn := fnO o813.1 813
theorem ma_use {n : Nat} {o : List It} {nm : Option Wd} {ws : List Wd} {p : List Tx} : ma (n + 1) o (⟨nm, wUse :: ws⟩ :: p) = ma n ((ws.head?, []) :: o) (⟨nm, ws.tail⟩ :: p) := if_pos rfl
theorem ma_row {n : Nat} {nm : Option Wd} {w : Wd} {ws : List Wd} {p : List Tx} (h : w ≠ wUse) : ma (n + 1) [] (⟨nm, w :: ws⟩ :: p) = (ma n [] (⟨nm, ws⟩ :: p)).map ((.word w, nm) :: ·) := if_neg h
theorem ma_feed {n : Nat} {o : List It} {i nm : Option Wd} {nums : List Nat} {w : Wd} {ws : List Wd} {p : List Tx} (h : w ≠ wUse) : ma (n + 1) ((i, nums) :: o) (⟨nm, w :: ws⟩ :: p) = if (nums ++ [octW w]).headD 0 < nums.length + 1 then ma n o (⟨i, laid (nums ++ [octW w]).tail⟩ :: ⟨nm, ws⟩ :: p) else ma n ((i, nums ++ [octW w]) :: o) (⟨nm, ws⟩ :: p) := if_neg h
section
variable {y : Fx} {a : RxA} {R : Flow → Loc → Led → Prop} {X : List Value → Led → Prop}
noncomputable def RxK (a : RxA) (f : Nat) (R : Flow → Loc → Led → Prop) : Prop := ∀ fl m n c', (fl = .next ∨ fl = .cont) → RxP a c' → c'.fuel < f → (∀ q ∈ rxPs a, look m q.1 = some q.2) → (∀ q ∈ rxN a c', q ∈ n) → R fl m n
theorem rx_use (D : RxD a) {rvs ovs vs : List Value} {kr ko kp n f : Nat} {tl : Led} {rows : List Row} {o : List It} {p : List Tx} {nm : Option Wd} {nv : Value} {Dl : Addr} {ws : List Wd} {tw : Tok} {wv : List Value} {k : Nat}
    (hr : RowsIn tl rvs rows) (ho : OpIn tl ovs o) (hp : PiIn tl vs p) (hm : ∃ rest, ma n ((ws.head?, []) :: o) (⟨nm, ws.tail⟩ :: p) = some rest ∧ rows ++ rest = a.out) (hg : Good (⟨nm, wUse :: ws⟩ :: p)) (h6 : ∀ i ∈ o, ∀ b ∈ i.2, b < 256) (hz : massO o + phi (⟨nm, wUse :: ws⟩ :: p) ≤ 600)
    (hb : ∀ q ∈ a.base, q ∈ tl) (hne : ∀ q ∈ tl, q.1 ≠ a.R ∧ q.1 ≠ a.O ∧ q.1 ≠ a.P) (hol : ovs.length ≤ 600) (hpl : vs.length ≤ 600) (hl : (Dl, listOf (List.toArray (.str (T wUse) tw :: wv)) k) ∈ tl) (hnm : NmV nm nv) (hwv : StrsAre wv (ws.map T)) (hf : n < f) (K : RxK a f R) {r : List Stmt} :
    Ex y rwF ((Str.ofString "left", .ref Dl) :: (Str.ofString "name", nv) :: rxPs a) ((a.P, listOf vs.toArray kp) :: (a.R, listOf rvs.toArray kr) :: (a.O, listOf ovs.toArray ko) :: tl) (match nth (wb (nth (fb o813.1) 1)) 2 with | .If _ b _ _ => b ++ r | _ => r) R X := by
  have hwl : wv.length = ws.length := by have := hwv.length; rw [List.length_map] at this; exact this
  have hws : ws.length ≤ 600 := by
    have : phi (⟨nm, wUse :: ws⟩ :: p) = 7 * (ws.length + 1) + 1 + phi p := rfl
    omega
  obtain ⟨v1, hv1, hn1⟩ : ∃ v1, (∀ {n' : Led}, (∀ q ∈ tl, q ∈ n') → Ep y rwF ((Str.ofString "left", .ref Dl) :: (Str.ofString "name", nv) :: rxPs a) n' (match nth (wb (nth (fb o813.1) 1)) 2 with | .If _ (.Expr (.Call _ (.Tuple (e :: _) _ _ :: _) _ _) _ :: _) _ _ => e | _ => .Constant .none 0 ⟨0, 0, 0, 0⟩) (· = v1)) ∧ NmV ws.head? v1 := by
    cases ws with
    | nil =>
      obtain rfl := strs_nil hwv
      exact ⟨.none, fun hs => Ep.ife (c := false) (Tp.cast (Tp.cmp (Ep.lenL (Ep.name rfl) (hs _ hl) (by show 1 < 2 ^ 62; decide)) Ep.int Co.gtI) rfl) (fun h => nomatch h) (fun _ => Ep.none), rfl⟩
    | cons w ws =>
      obtain ⟨t1, wv', rfl, _⟩ := strs_cons hwv
      simp only [List.length_cons] at hwl hws
      refine ⟨.str (T w) t1, fun hs => Ep.ife (c := true) (Tp.cast (Tp.cmp (Ep.lenL (Ep.name rfl) (hs _ hl) (by simp only [List.length_cons]; omega)) Ep.int Co.gtI) ?_) (fun _ => Ep.idx (i := 1) rfl (hs _ hl) rfl (by decide)) (fun h => nomatch h), t1, rfl⟩
      simp only [List.length_cons]
      exact decide_eq_true (by omega)
  refine Ex.exp (Ev.app (D := a.O) (its := ovs) (k := ko) rfl (.tail _ (.tail _ (.head _))) (Er.cons (Ev.tup (Er.E (hv1 fun q hq => .tail _ (.tail _ (.tail _ hq))) (Er.cons (Ev.lst (Er.nil ⟨Nat.zero_le _, fun Dn hDn => Er.nil ⟨Nat.le_of_ble_eq_true rfl, fun Dt hDt => Er.nil ⟨.ref Dt, (Dt, tupV [v1, .ref Dn]) :: (Dn, listOf #[] 0) :: (a.P, listOf vs.toArray kp) :: (a.R, listOf rvs.toArray kr) :: tl, rfl, by omega, (List.forall_mem_cons.mpr ⟨.tail _ (.tail _ (.tail _ (.tail _ (.head _)))), List.forall_mem_cons.mpr ⟨.head _, List.forall_mem_cons.mpr ⟨.tail _ (.head _), List.forall_mem_cons.mpr ⟨.tail _ (.tail _ (.head _)), List.forall_mem_cons.mpr ⟨.tail _ (.tail _ (.tail _ (.head _))), fun _ h => .tail _ (.tail _ (.tail _ (.tail _ (.tail _ h))))⟩⟩⟩⟩⟩), ?_, ?_⟩⟩⟩)))))))
  · have f1 := fresh_ne (a := a) hDn ⟨_, .tail _ (.head _)⟩ ⟨_, .tail _ (.tail _ (.head _))⟩ ⟨_, .head _⟩
    have f2 := fresh_ne (a := a) hDt ⟨_, .tail _ (.tail _ (.head _))⟩ ⟨_, .tail _ (.tail _ (.tail _ (.head _)))⟩ ⟨_, .tail _ (.head _)⟩
    exact List.forall_mem_cons.mpr ⟨f2.2.1, List.forall_mem_cons.mpr ⟨f1.2.1, List.forall_mem_cons.mpr ⟨fun e => D.n3 e.symm, List.forall_mem_cons.mpr ⟨D.n1, fun q hq => (hne q hq).2.1⟩⟩⟩⟩
  have f1 := fresh_ne (a := a) hDn ⟨_, .tail _ (.head _)⟩ ⟨_, .tail _ (.tail _ (.head _))⟩ ⟨_, .head _⟩
  have f2 := fresh_ne (a := a) hDt ⟨_, .tail _ (.tail _ (.head _))⟩ ⟨_, .tail _ (.tail _ (.tail _ (.head _)))⟩ ⟨_, .tail _ (.head _)⟩
  refine Ex.exp (Ev.app (D := a.P) (its := vs) (k := kp) rfl (.tail _ (.tail _ (.tail _ (.head _)))) (Er.cons (Ev.tup (Er.E (Ep.name (v := nv) rfl) (Er.cons (Ev.slL (i := 2) (D := Dl) (vs := .str (T wUse) tw :: wv) rfl (.tail _ (.tail _ (.tail _ (.tail _ (.tail _ hl))))) (by simp only [List.length_cons]; omega) (fun D2 hD2 => Er.nil ⟨Nat.le_of_ble_eq_true rfl, fun Dt2 hDt2 => Er.nil ⟨.ref Dt2, (Dt2, tupV [nv, .ref D2]) :: (D2, listOf (List.toArray ((Value.str (T wUse) tw :: wv).drop 2)) 0) :: (a.O, listOf (ovs ++ [Value.ref Dt]).toArray (ko + 1)) :: (Dt, tupV [v1, .ref Dn]) :: (Dn, listOf #[] 0) :: (a.R, listOf rvs.toArray kr) :: tl, rfl, by omega, (List.forall_mem_cons.mpr ⟨.tail _ (.tail _ (.tail _ (.tail _ (.tail _ (.head _))))), List.forall_mem_cons.mpr ⟨.head _, List.forall_mem_cons.mpr ⟨.tail _ (.head _), List.forall_mem_cons.mpr ⟨.tail _ (.tail _ (.head _)), List.forall_mem_cons.mpr ⟨.tail _ (.tail _ (.tail _ (.head _))), List.forall_mem_cons.mpr ⟨.tail _ (.tail _ (.tail _ (.tail _ (.head _)))), List.forall_mem_cons.mpr ⟨.tail _ (.tail _ (.tail _ (.tail _ (.tail _ (.tail _ (.head _)))))), fun _ h => .tail _ (.tail _ (.tail _ (.tail _ (.tail _ (.tail _ (.tail _ h))))))⟩⟩⟩⟩⟩⟩⟩), ?_, ?_⟩⟩)))))))
  · have f3 := fresh_ne (a := a) hD2 ⟨_, .tail _ (.tail _ (.tail _ (.tail _ (.head _))))⟩ ⟨_, .head _⟩ ⟨_, .tail _ (.tail _ (.tail _ (.head _)))⟩
    have f4 := fresh_ne (a := a) hDt2 ⟨_, .tail _ (.tail _ (.tail _ (.tail _ (.tail _ (.head _)))))⟩ ⟨_, .tail _ (.head _)⟩ ⟨_, .tail _ (.tail _ (.tail _ (.tail _ (.head _))))⟩
    exact List.forall_mem_cons.mpr ⟨f4.2.2, List.forall_mem_cons.mpr ⟨f3.2.2, List.forall_mem_cons.mpr ⟨D.n3, List.forall_mem_cons.mpr ⟨f2.2.2, List.forall_mem_cons.mpr ⟨f1.2.2, List.forall_mem_cons.mpr ⟨D.n2, fun q hq => (hne q hq).2.2⟩⟩⟩⟩⟩⟩
  have f3 := fresh_ne (a := a) hD2 ⟨_, .tail _ (.tail _ (.tail _ (.tail _ (.head _))))⟩ ⟨_, .head _⟩ ⟨_, .tail _ (.tail _ (.tail _ (.head _)))⟩
  have f4 := fresh_ne (a := a) hDt2 ⟨_, .tail _ (.tail _ (.tail _ (.tail _ (.tail _ (.head _)))))⟩ ⟨_, .tail _ (.head _)⟩ ⟨_, .tail _ (.tail _ (.tail _ (.tail _ (.head _))))⟩
  have hs : ∀ q ∈ tl, q ∈ (Dt2, tupV [nv, .ref D2]) :: (D2, listOf (List.toArray ((Value.str (T wUse) tw :: wv).drop 2)) 0) :: (Dt, tupV [v1, .ref Dn]) :: (Dn, listOf #[] 0) :: tl := fun q hq => .tail _ (.tail _ (.tail _ (.tail _ hq)))
  refine Ex.cont (K .cont _ _ ⟨rvs, ovs ++ [Value.ref Dt], vs ++ [Value.ref Dt2], kr, ko + 1, kp + 1, (Dt2, tupV [nv, .ref D2]) :: (D2, listOf (List.toArray ((Value.str (T wUse) tw :: wv).drop 2)) 0) :: (Dt, tupV [v1, .ref Dn]) :: (Dn, listOf #[] 0) :: tl, rows, (ws.head?, []) :: o, ⟨nm, ws.tail⟩ :: p, n⟩ (.inr rfl) ⟨hr.mono hs, .snoc (ho.mono hs) (.tail _ (.tail _ (.head _))) (.tail _ (.tail _ (.tail _ (.head _)))) hn1 .nil, .snoc (hp.mono hs) (.head _) (.tail _ (.head _)) hnm ?_, hm, behind_gd hg, ?_, ?_, fun q hq => hs q (hb q hq), ?_⟩ hf ?_ (List.forall_mem_cons.mpr ⟨.tail _ (.tail _ (.tail _ (.tail _ (.tail _ (.tail _ (.head _)))))), List.forall_mem_cons.mpr ⟨.tail _ (.tail _ (.tail _ (.head _))), List.forall_mem_cons.mpr ⟨.head _, List.forall_mem_cons.mpr ⟨.tail _ (.head _), List.forall_mem_cons.mpr ⟨.tail _ (.tail _ (.head _)), List.forall_mem_cons.mpr ⟨.tail _ (.tail _ (.tail _ (.tail _ (.head _)))), List.forall_mem_cons.mpr ⟨.tail _ (.tail _ (.tail _ (.tail _ (.tail _ (.head _))))), fun _ h => .tail _ (.tail _ (.tail _ (.tail _ (.tail _ (.tail _ (.tail _ h))))))⟩⟩⟩⟩⟩⟩⟩))
  · show StrsAre (wv.drop 1) (ws.tail.map T)
    cases ws with
    | nil => obtain rfl := strs_nil hwv; exact .nil
    | cons w ws => obtain ⟨t1, wv', rfl, h⟩ := strs_cons hwv; exact h
  · exact List.forall_mem_cons.mpr ⟨(fun b hb => (nomatch hb)), h6⟩
  · have : phi (⟨nm, ws.tail⟩ :: p) + 7 ≤ phi (⟨nm, wUse :: ws⟩ :: p) := behind_ph
    show 7 * 0 + 1 + massO o + phi (⟨nm, ws.tail⟩ :: p) ≤ 600
    omega
  · exact List.forall_mem_cons.mpr ⟨f4, List.forall_mem_cons.mpr ⟨f3, List.forall_mem_cons.mpr ⟨f2, List.forall_mem_cons.mpr ⟨f1, hne⟩⟩⟩⟩
  · exact List.forall_mem_cons.mpr ⟨rfl, List.forall_mem_cons.mpr ⟨rfl, List.forall_mem_cons.mpr ⟨rfl, List.forall_mem_nil _⟩⟩⟩
end
end Mine

end
section
open Mine
namespace Mine
theorem IntsT.snoc {vs : List Value} {l : List Nat} {c : Nat} {t : Tok} (h : IntsT vs l) : IntsT (vs ++ [Value.int ((c : Nat) : Int) t]) (l ++ [c]) := by
  induction h with
  | nil => exact .cons .nil
  | cons _ ih => exact .cons ih
theorem IntsT.first {vs : List Value} {l : List Nat} (h : IntsT vs l) (hne : l ≠ []) : ∃ c t vs' l', vs = .int ((c : Nat) : Int) t :: vs' ∧ l = c :: l' ∧ IntsT vs' l' := by
  cases h with
  | nil => exact absurd rfl hne
  | cons h => exact ⟨_, _, _, _, rfl, rfl, h⟩
section
variable {y : Fx} {a : RxA} {R : Flow → Loc → Led → Prop} {X : List Value → Led → Prop}
theorem rx_item (hc : 10 ≤ y.c) (hu : 100 ≤ y.u) (D : RxD a) {rvs ovs vs : List Value} {kr ko kp n f : Nat} {tl : Led} {rows : List Row} {o : List It} {p : List Tx} {nm : Option Wd} {nv iv : Value} {Dl Do Dn : Addr} {w : Wd} {ws : List Wd} {tw : Tok} {wv ns : List Value} {k kn : Nat} {i : Option Wd} {nums : List Nat}
    (hr : RowsIn tl rvs rows) (ho : OpIn tl ovs o) (hp : PiIn tl vs (⟨nm, ws⟩ :: p)) (hm : ∃ rest, (if (nums ++ [octW w]).headD 0 < nums.length + 1 then ma n o (⟨i, laid (nums ++ [octW w]).tail⟩ :: ⟨nm, ws⟩ :: p) else ma n ((i, nums ++ [octW w]) :: o) (⟨nm, ws⟩ :: p)) = some rest ∧ rows ++ rest = a.out) (hg : Good (⟨nm, ws⟩ :: p)) (hw : OkW w) (h6 : ∀ i ∈ o, ∀ b ∈ i.2, b < 256) (hn6 : ∀ b ∈ nums, b < 256) (hz : 7 * nums.length + 8 + massO o + phi (⟨nm, ws⟩ :: p) ≤ 600)
    (hb : ∀ q ∈ a.base, q ∈ tl) (hne : ∀ q ∈ tl, q.1 ≠ a.R ∧ q.1 ≠ a.O ∧ q.1 ≠ a.P) (hol : ovs.length ≤ 600) (hpl : vs.length ≤ 600) (hl : (Dl, listOf (List.toArray (.str (T w) tw :: wv)) k) ∈ tl) (hi : NmV i iv) (hin : (Do, tupV [iv, .ref Dn]) ∈ tl) (hns : (Dn, listOf (List.toArray ns) kn) ∈ tl) (hI : IntsT ns nums) (hf : n < f) (K : RxK a f R) :
    Ex y rwF ((Str.ofString "left", .ref Dl) :: (Str.ofString "name", nv) :: rxPs a) ((a.O, listOf (ovs ++ [Value.ref Do]).toArray ko) :: (a.R, listOf rvs.toArray kr) :: (a.P, listOf vs.toArray kp) :: tl) ((wb (nth (fb o813.1) 1)).drop 5) R X := by
  have hnl := hI.length
  have h3 : ∀ q ∈ (a.R, listOf rvs.toArray kr) :: (a.P, listOf vs.toArray kp) :: tl, q.1 ≠ a.O := List.forall_mem_cons.mpr ⟨D.n1, List.forall_mem_cons.mpr ⟨fun e => D.n3 e.symm, fun q hq => (hne q hq).2.1⟩⟩
  refine Ex.unp2 (Ev.popL (D := a.O) (vs := ovs) (v := .ref Do) (k := ko) (rest := (a.R, listOf rvs.toArray kr) :: (a.P, listOf vs.toArray kp) :: tl) rfl rfl h3 (by omega) ⟨Do, iv, .ref Dn, #[], rfl, .tail _ (.tail _ (.tail _ hin)), ?_⟩)
  refine Ex.asK (Ev.catL (D := Dn) (vs := ns) (k := kn) (Ep.name rfl) (Ev.lst (Er.cons (Ev.dcall g_oct k_oct (Er.E (Ep.idx (i := 0) (D := Dl) (vs := .str (T w) tw :: wv) rfl (.tail _ (.tail _ (.tail _ hl))) rfl (by decide)) (Er.nil (Tr.con (oc_spec (news := (a.O, listOf ovs.toArray (ko + 1)) :: (a.R, listOf rvs.toArray kr) :: (a.P, listOf vs.toArray kp) :: tl) (t := tw) hw) trivial (fun _ h => h) (by omega) (by omega) (fun v n' hv => ⟨n', fun _ h => h, ?_⟩) (fun _ _ z => z.elim))))))))
  obtain ⟨⟨u, rfl⟩, rfl⟩ := hv
  refine Er.nil ⟨Nat.le_of_ble_eq_true rfl, fun D3 hD3 => ⟨D3, [Value.int ((octW w : Nat) : Int) u], 0, rfl, .tail _ (.tail _ (.tail _ (.tail _ hns))), .head _, by simp only [List.length_cons, List.length_nil]; omega, fun D4 hD4 => ?_⟩⟩
  have f3 := fresh_ne (a := a) hD3 ⟨_, .tail _ (.head _)⟩ ⟨_, .head _⟩ ⟨_, .tail _ (.tail _ (.head _))⟩
  have f4 := fresh_ne (a := a) hD4 ⟨_, .tail _ (.tail _ (.head _))⟩ ⟨_, .tail _ (.head _)⟩ ⟨_, .tail _ (.tail _ (.tail _ (.head _)))⟩
  have hI' : IntsT (ns ++ [Value.int ((octW w : Nat) : Int) u]) (nums ++ [octW w]) := hI.snoc
  have hn6' : ∀ b ∈ nums ++ [octW w], b < 256 := fun b hb => (List.mem_append.mp hb).elim (hn6 b) fun h => by rw [List.mem_singleton.mp h]; exact hw.oct
  have hll : (nums ++ [octW w]).length = nums.length + 1 := by simp
  have hlv : (ns ++ [Value.int ((octW w : Nat) : Int) u]).length = nums.length + 1 := by simp; omega
  rw [← hll] at hm
  clear hns
  generalize hnu : nums ++ [octW w] = nums' at hm hI' hn6' hll
  generalize hnv : ns ++ [Value.int ((octW w : Nat) : Int) u] = ns' at hI' hlv
  have hne' : nums' ≠ [] := by rw [← hnu]; simp
  have hI2 := hI'
  obtain ⟨c, t, vs', l, rfl, rfl, hIl⟩ := hI'.first hne'
  have hs : ∀ q ∈ tl, q ∈ (D4, listOf (List.toArray (Value.int ((c : Nat) : Int) t :: vs')) 0) :: tl := fun q hq => .tail _ hq
  have ht4 : ∀ q ∈ (D4, listOf (List.toArray (Value.int ((c : Nat) : Int) t :: vs')) 0) :: tl, q.1 ≠ a.R ∧ q.1 ≠ a.O ∧ q.1 ≠ a.P := List.forall_mem_cons.mpr ⟨f4, hne⟩
  refine Ex.less (n' := (a.R, listOf rvs.toArray kr) :: (a.O, listOf ovs.toArray (ko + 1)) :: (a.P, listOf vs.toArray kp) :: (D4, listOf (List.toArray (Value.int ((c : Nat) : Int) t :: vs')) 0) :: tl) (List.forall_mem_cons.mpr ⟨.tail _ (.tail _ (.tail _ (.head _))), List.forall_mem_cons.mpr ⟨.tail _ (.tail _ (.head _)), List.forall_mem_cons.mpr ⟨.tail _ (.tail _ (.tail _ (.tail _ (.head _)))), List.forall_mem_cons.mpr ⟨.head _, fun _ h => .tail _ (.tail _ (.tail _ (.tail _ (.tail _ h))))⟩⟩⟩⟩) ?_
  refine Ex.iff (c := decide (c < (c :: l).length)) (Tp.cast (Tp.cmp (Ep.lenL (Ep.name (v := .ref D4) rfl) (.tail _ (.tail _ (.tail _ (.head _)))) (by rw [hlv]; omega)) (Ep.mono (Ep.idx (i := 0) (D := D4) (vs := Value.int ((c : Nat) : Int) t :: vs') rfl (.tail _ (.tail _ (.tail _ (.head _)))) rfl (by decide)) fun z hz => ⟨t, hz⟩) Co.gtI) ?_) (fun hlt => ?_) (fun hlt => ?_)
  · rw [hlv, ← hll, decide_eq_decide]
    omega
  · have hlt := of_decide_eq_true hlt
    rw [show (c :: l).headD 0 = c from rfl, if_pos hlt] at hm
    refine Ex.exp (Ev.app (D := a.P) (its := vs) (k := kp) rfl (.tail _ (.tail _ (.head _))) (Er.cons (Ev.tup (Er.E (Ep.name (v := iv) rfl) (Er.cons (Ev.dcall g_laid k_laid (Er.cons (Ev.slL (i := 1) (D := D4) (vs := Value.int ((c : Nat) : Int) t :: vs') rfl (.tail _ (.tail _ (.tail _ (.head _)))) (by omega) (fun D5 hD5 => Er.nil (Tr.con (laid_spec (Dn := D5) (vs := vs') (k := 0) (.head _) hIl (by simp at hll; omega)) trivial (fun _ h => h) (by omega) (by omega) (fun v n' hv => ?_) (fun _ _ z => z.elim)))))))))))
    obtain ⟨D6, ys, nn, rfl, hys, hm6, hn6n, hsub⟩ := hv
    refine ⟨(D6, listOf (List.toArray ys) nn) :: (D5, listOf (List.toArray vs') 0) :: (a.R, listOf rvs.toArray kr) :: (a.O, listOf ovs.toArray (ko + 1)) :: (a.P, listOf vs.toArray kp) :: (D4, listOf (List.toArray (Value.int ((c : Nat) : Int) t :: vs')) 0) :: tl, List.forall_mem_cons.mpr ⟨hm6, hsub⟩, Er.nil ⟨Nat.le_of_ble_eq_true rfl, fun Dt hDt => Er.nil ⟨.ref Dt, (Dt, tupV [iv, .ref D6]) :: (D6, listOf (List.toArray ys) nn) :: (a.R, listOf rvs.toArray kr) :: (a.O, listOf ovs.toArray (ko + 1)) :: (D4, listOf (List.toArray (Value.int ((c : Nat) : Int) t :: vs')) 0) :: tl, rfl, by omega, (List.forall_mem_cons.mpr ⟨.tail _ (.tail _ (.tail _ (.tail _ (.tail _ (.head _))))), List.forall_mem_cons.mpr ⟨.head _, List.forall_mem_cons.mpr ⟨.tail _ (.head _), List.forall_mem_cons.mpr ⟨.tail _ (.tail _ (.tail _ (.head _))), List.forall_mem_cons.mpr ⟨.tail _ (.tail _ (.tail _ (.tail _ (.head _)))), List.forall_mem_cons.mpr ⟨.tail _ (.tail _ (.tail _ (.tail _ (.tail _ (.tail _ (.head _)))))), fun _ h => .tail _ (.tail _ (.tail _ (.tail _ (.tail _ (.tail _ (.tail _ h))))))⟩⟩⟩⟩⟩⟩), ?_, ?_⟩⟩⟩
    · have ft := fresh_ne (a := a) hDt ⟨_, .tail _ (.tail _ (.head _))⟩ ⟨_, .tail _ (.tail _ (.tail _ (.head _)))⟩ ⟨_, .tail _ (.tail _ (.tail _ (.tail _ (.head _))))⟩
      exact List.forall_mem_cons.mpr ⟨ft.2.2, List.forall_mem_cons.mpr ⟨fun e => hn6n (a.P, _) (.tail _ (.tail _ (.tail _ (.head _)))) e.symm, List.forall_mem_cons.mpr ⟨D.n2, List.forall_mem_cons.mpr ⟨D.n3, fun q hq => (ht4 q hq).2.2⟩⟩⟩⟩
    have ft := fresh_ne (a := a) hDt ⟨_, .tail _ (.tail _ (.head _))⟩ ⟨_, .tail _ (.tail _ (.tail _ (.head _)))⟩ ⟨_, .tail _ (.tail _ (.tail _ (.tail _ (.head _))))⟩
    have f6 : D6 ≠ a.R ∧ D6 ≠ a.O ∧ D6 ≠ a.P := ⟨fun e => hn6n (a.R, _) (.tail _ (.head _)) e.symm, fun e => hn6n (a.O, _) (.tail _ (.tail _ (.head _))) e.symm, fun e => hn6n (a.P, _) (.tail _ (.tail _ (.tail _ (.head _)))) e.symm⟩
    have hs2 : ∀ q ∈ tl, q ∈ (Dt, tupV [iv, .ref D6]) :: (D6, listOf (List.toArray ys) nn) :: tl := fun q hq => .tail _ (.tail _ hq)
    have hlay := laid_len l
    refine Ex.nil (K .next _ _ ⟨rvs, ovs, vs ++ [Value.ref Dt], kr, ko + 1, kp + 1, (Dt, tupV [iv, .ref D6]) :: (D6, listOf (List.toArray ys) nn) :: tl, rows, o, ⟨i, laid l⟩ :: ⟨nm, ws⟩ :: p, n⟩ (.inl rfl) ⟨hr.mono hs2, ho.mono hs2, .snoc (hp.mono hs2) (.head _) (.tail _ (.head _)) hi hys, hm, lay_gd hg, h6, ?_, fun q hq => hs2 q (hb q hq), List.forall_mem_cons.mpr ⟨ft, List.forall_mem_cons.mpr ⟨f6, hne⟩⟩⟩ hf (List.forall_mem_cons.mpr ⟨rfl, List.forall_mem_cons.mpr ⟨rfl, List.forall_mem_cons.mpr ⟨rfl, List.forall_mem_nil _⟩⟩⟩) (List.forall_mem_cons.mpr ⟨.tail _ (.tail _ (.tail _ (.head _))), List.forall_mem_cons.mpr ⟨.tail _ (.tail _ (.tail _ (.tail _ (.head _)))), List.forall_mem_cons.mpr ⟨.head _, List.forall_mem_cons.mpr ⟨.tail _ (.head _), List.forall_mem_cons.mpr ⟨.tail _ (.tail _ (.head _)), fun _ h => .tail _ (.tail _ (.tail _ (.tail _ (.tail _ (.tail _ h)))))⟩⟩⟩⟩⟩))
    show massO o + (7 * (laid l).length + 1 + phi (⟨nm, ws⟩ :: p)) ≤ 600
    simp only [List.length_cons] at hll
    omega
  · have hlt := of_decide_eq_false hlt
    rw [show (c :: l).headD 0 = c from rfl, if_neg hlt] at hm
    refine Ex.exp (Ev.app (D := a.O) (its := ovs) (k := ko + 1) rfl (.tail _ (.head _)) (Er.cons (Ev.tup (Er.E (Ep.name (v := iv) rfl) (Er.E (Ep.name (v := .ref D4) rfl) (Er.nil ⟨Nat.le_of_ble_eq_true rfl, fun Dt hDt => Er.nil ⟨.ref Dt, (Dt, tupV [iv, .ref D4]) :: (a.R, listOf rvs.toArray kr) :: (a.P, listOf vs.toArray kp) :: (D4, listOf (List.toArray (Value.int ((c : Nat) : Int) t :: vs')) 0) :: tl, rfl, by omega, (List.forall_mem_cons.mpr ⟨.tail _ (.tail _ (.head _)), List.forall_mem_cons.mpr ⟨.head _, List.forall_mem_cons.mpr ⟨.tail _ (.head _), List.forall_mem_cons.mpr ⟨.tail _ (.tail _ (.tail _ (.head _))), List.forall_mem_cons.mpr ⟨.tail _ (.tail _ (.tail _ (.tail _ (.head _)))), fun _ h => .tail _ (.tail _ (.tail _ (.tail _ (.tail _ h))))⟩⟩⟩⟩⟩), ?_, ?_⟩⟩))))))
    · have ft := fresh_ne (a := a) hDt ⟨_, .head _⟩ ⟨_, .tail _ (.head _)⟩ ⟨_, .tail _ (.tail _ (.head _))⟩
      exact List.forall_mem_cons.mpr ⟨ft.2.1, List.forall_mem_cons.mpr ⟨D.n1, List.forall_mem_cons.mpr ⟨fun e => D.n3 e.symm, fun q hq => (ht4 q hq).2.1⟩⟩⟩
    have ft := fresh_ne (a := a) hDt ⟨_, .head _⟩ ⟨_, .tail _ (.head _)⟩ ⟨_, .tail _ (.tail _ (.head _))⟩
    have hs2 : ∀ q ∈ tl, q ∈ (Dt, tupV [iv, .ref D4]) :: (D4, listOf (List.toArray (Value.int ((c : Nat) : Int) t :: vs')) 0) :: tl := fun q hq => .tail _ (.tail _ hq)
    refine Ex.nil (K .next _ _ ⟨rvs, ovs ++ [Value.ref Dt], vs, kr, ko + 1 + 1, kp, (Dt, tupV [iv, .ref D4]) :: (D4, listOf (List.toArray (Value.int ((c : Nat) : Int) t :: vs')) 0) :: tl, rows, (i, c :: l) :: o, ⟨nm, ws⟩ :: p, n⟩ (.inl rfl) ⟨hr.mono hs2, .snoc (ho.mono hs2) (.head _) (.tail _ (.head _)) hi hI2, hp.mono hs2, hm, hg, List.forall_mem_cons.mpr ⟨hn6', h6⟩, ?_, fun q hq => hs2 q (hb q hq), List.forall_mem_cons.mpr ⟨ft, ht4⟩⟩ hf (List.forall_mem_cons.mpr ⟨rfl, List.forall_mem_cons.mpr ⟨rfl, List.forall_mem_cons.mpr ⟨rfl, List.forall_mem_nil _⟩⟩⟩) (List.forall_mem_cons.mpr ⟨.tail _ (.tail _ (.head _)), List.forall_mem_cons.mpr ⟨.head _, List.forall_mem_cons.mpr ⟨.tail _ (.tail _ (.tail _ (.head _))), List.forall_mem_cons.mpr ⟨.tail _ (.head _), List.forall_mem_cons.mpr ⟨.tail _ (.tail _ (.tail _ (.tail _ (.head _)))), fun _ h => .tail _ (.tail _ (.tail _ (.tail _ (.tail _ h))))⟩⟩⟩⟩⟩))
    show 7 * (c :: l).length + 1 + massO o + phi (⟨nm, ws⟩ :: p) ≤ 600
    rw [hll]
    omega
end
end Mine

end
section
open Mine
namespace Mine
section
variable {y : Fx} {a : RxA} {R : Flow → Loc → Led → Prop} {X : List Value → Led → Prop}
theorem rx_turn (hc : 10 ≤ y.c) (hu : 100 ≤ y.u) (D : RxD a) {c : RxS} (H : RxP a c) {t : Tx} {p' : List Tx} (hp : c.p = t :: p') (K : RxK a c.fuel R) : Ex y rwF (rxPs a) (rxN a c) (wb (nth (fb o813.1) 1)) R X := by
  have hrl := H.rl D
  have hol := H.ol
  have hpl := H.pl
  obtain ⟨rvs, ovs, pvs, kr, ko, kp, tl, rows, o, p, fuel⟩ := c
  dsimp only at hp hrl hol hpl K
  subst hp
  obtain ⟨hr, ho, hpi, ⟨rest, hma, hout⟩, hg, h6, hz, hb, hne⟩ := H
  dsimp only at hr ho hpi hma hout hg h6 hz hb hne
  obtain ⟨nm, ws⟩ := t
  cases fuel with
  | zero => cases hma
  | succ n =>
  cases hpi with
  | @snoc vs _ Dp nv Dl wsv k _ hpi m1 m2 hnm hst =>
  simp only [List.length_append, List.length_singleton] at hpl
  dsimp only at hnm hst
  have h3 : ∀ q ∈ (a.R, listOf rvs.toArray kr) :: (a.O, listOf ovs.toArray ko) :: tl, q.1 ≠ a.P := List.forall_mem_cons.mpr ⟨D.n2, List.forall_mem_cons.mpr ⟨D.n3, fun q hq => (hne q hq).2.2⟩⟩
  refine Ex.less (n' := (a.P, listOf (vs ++ [Value.ref Dp]).toArray kp) :: (a.R, listOf rvs.toArray kr) :: (a.O, listOf ovs.toArray ko) :: tl) (List.forall_mem_cons.mpr ⟨.tail _ (.tail _ (.head _)), List.forall_mem_cons.mpr ⟨.head _, List.forall_mem_cons.mpr ⟨.tail _ (.head _), fun _ h => .tail _ (.tail _ (.tail _ h))⟩⟩⟩) ?_
  refine Ex.unp2 (Ev.popL (D := a.P) (vs := vs) (v := .ref Dp) (k := kp) (rest := (a.R, listOf rvs.toArray kr) :: (a.O, listOf ovs.toArray ko) :: tl) rfl rfl h3 (by omega) ⟨Dp, nv, .ref Dl, #[], rfl, .tail _ (.tail _ (.tail _ m1)), ?_⟩)
  cases ws with
  | nil =>
    obtain rfl := strs_nil hst
    refine Ex.ifT (Tp.eqNil (vs := []) (Ep.name rfl) (.tail _ (.tail _ (.tail _ m2)))) ?_
    refine Ex.cont (K .cont _ _ ⟨rvs, ovs, vs, kr, ko, kp + 1, tl, rows, o, p', n⟩ (.inr rfl) ⟨hr, ho, hpi, ⟨rest, hma, hout⟩, hg.tail, h6, ?_, hb, hne⟩ (Nat.lt_succ_self _) (List.forall_mem_cons.mpr ⟨rfl, List.forall_mem_cons.mpr ⟨rfl, List.forall_mem_cons.mpr ⟨rfl, List.forall_mem_nil _⟩⟩⟩) (List.forall_mem_cons.mpr ⟨.tail _ (.head _), List.forall_mem_cons.mpr ⟨.tail _ (.tail _ (.head _)), List.forall_mem_cons.mpr ⟨.head _, fun _ h => .tail _ (.tail _ (.tail _ h))⟩⟩⟩))
    have : phi (⟨nm, []⟩ :: p') = 7 * 0 + 1 + phi p' := rfl
    show massO o + phi p' ≤ 600
    omega
  | cons w ws =>
    obtain ⟨tw, wv, rfl, hwv⟩ := strs_cons hst
    have hwl : wv.length = ws.length := by have := hwv.length; rw [List.length_map] at this; exact this
    have hph : phi (⟨nm, w :: ws⟩ :: p') = 7 * (ws.length + 1) + 1 + phi p' := rfl
    refine Ex.ifF (Tp.eqNil (vs := .str (T w) tw :: wv) (Ep.name rfl) (.tail _ (.tail _ (.tail _ m2)))) ?_
    refine Ex.iff (c := w == wUse) (Tp.cmp (Ep.idx (i := 0) (D := Dl) (vs := .str (T w) tw :: wv) rfl (.tail _ (.tail _ (.tail _ m2))) rfl (by decide)) Ep.str (Cop.eqC (by rw [c_use]))) (fun h => ?_) (fun h => ?_)
    · have hw := beq_iff_eq.mp h
      subst hw
      rw [ma_use] at hma
      exact rx_use D hr ho hpi ⟨rest, hma, hout⟩ hg h6 hz hb hne hol (by omega) m2 hnm hwv (Nat.lt_succ_self _) K
    · have hw := beq_eq_false_iff_ne.mp h
      have hok : OkW w := (hg _ (.head _) w (.head _)).ne hw
      have hg' : Good (⟨nm, ws⟩ :: p') := fun t ht => (List.mem_cons.mp ht).elim (fun e => e ▸ fun v hv => hg _ (.head _) v (.tail _ hv)) fun h => hg t (.tail _ h)
      refine Ex.exp (Ev.app (D := a.P) (its := vs) (k := kp + 1) rfl (.head _) (Er.cons (Ev.tup (Er.E (Ep.name (v := nv) rfl) (Er.cons (Ev.slL (i := 1) (D := Dl) (vs := .str (T w) tw :: wv) rfl (.tail _ (.tail _ (.tail _ m2))) (by simp only [List.length_cons]; omega) (fun D2 hD2 => Er.nil ⟨Nat.le_of_ble_eq_true rfl, fun Dt hDt => Er.nil ⟨.ref Dt, (Dt, tupV [nv, .ref D2]) :: (D2, listOf wv.toArray 0) :: (a.R, listOf rvs.toArray kr) :: (a.O, listOf ovs.toArray ko) :: tl, rfl, by omega, (List.forall_mem_cons.mpr ⟨.tail _ (.tail _ (.head _)), List.forall_mem_cons.mpr ⟨.head _, List.forall_mem_cons.mpr ⟨.tail _ (.head _), List.forall_mem_cons.mpr ⟨.tail _ (.tail _ (.tail _ (.head _))), List.forall_mem_cons.mpr ⟨.tail _ (.tail _ (.tail _ (.tail _ (.head _)))), fun _ h => .tail _ (.tail _ (.tail _ (.tail _ (.tail _ h))))⟩⟩⟩⟩⟩), ?_, ?_⟩⟩)))))))
      · have f3 := fresh_ne (a := a) hD2 ⟨_, .tail _ (.head _)⟩ ⟨_, .tail _ (.tail _ (.head _))⟩ ⟨_, .head _⟩
        have f4 := fresh_ne (a := a) hDt ⟨_, .tail _ (.tail _ (.head _))⟩ ⟨_, .tail _ (.tail _ (.tail _ (.head _)))⟩ ⟨_, .tail _ (.head _)⟩
        exact List.forall_mem_cons.mpr ⟨f4.2.2, List.forall_mem_cons.mpr ⟨f3.2.2, h3⟩⟩
      have f3 := fresh_ne (a := a) hD2 ⟨_, .tail _ (.head _)⟩ ⟨_, .tail _ (.tail _ (.head _))⟩ ⟨_, .head _⟩
      have f4 := fresh_ne (a := a) hDt ⟨_, .tail _ (.tail _ (.head _))⟩ ⟨_, .tail _ (.tail _ (.tail _ (.head _)))⟩ ⟨_, .tail _ (.head _)⟩
      have hs : ∀ q ∈ tl, q ∈ (Dt, tupV [nv, .ref D2]) :: (D2, listOf wv.toArray 0) :: tl := fun q hq => .tail _ (.tail _ hq)
      have hne2 : ∀ q ∈ (Dt, tupV [nv, .ref D2]) :: (D2, listOf wv.toArray 0) :: tl, q.1 ≠ a.R ∧ q.1 ≠ a.O ∧ q.1 ≠ a.P := List.forall_mem_cons.mpr ⟨f4, List.forall_mem_cons.mpr ⟨f3, hne⟩⟩
      have hpi2 : PiIn ((Dt, tupV [nv, .ref D2]) :: (D2, listOf wv.toArray 0) :: tl) (vs ++ [Value.ref Dt]) (⟨nm, ws⟩ :: p') := .snoc (hpi.mono hs) (.head _) (.tail _ (.head _)) hnm hwv
      have hph' : phi (⟨nm, ws⟩ :: p') = 7 * ws.length + 1 + phi p' := rfl
      cases ho with
      | nil =>
        rw [ma_row hw] at hma
        obtain ⟨rest', hma', rfl⟩ := Option.map_eq_some_iff.mp hma
        refine Ex.ifT (Tp.eqNil (vs := []) (Ep.name rfl) (.tail _ (.tail _ (.tail _ (.tail _ (.head _)))))) ?_
        refine Ex.exp (Ev.app (D := a.R) (its := rvs) (k := kr) rfl (.tail _ (.tail _ (.tail _ (.head _)))) (Er.cons (Ev.tup (Er.E (Ep.idx (i := 0) (D := Dl) (vs := .str (T w) tw :: wv) rfl (.tail _ (.tail _ (.tail _ (.tail _ (.tail _ m2))))) rfl (by decide)) (Er.E (Ep.name (v := nv) rfl) (Er.nil ⟨Nat.le_of_ble_eq_true rfl, fun Dr hDr => Er.nil ⟨.ref Dr, (Dr, tupV [.str (T w) tw, nv]) :: (a.P, listOf (vs ++ [Value.ref Dt]).toArray (kp + 1 + 1)) :: (a.O, listOf (List.toArray ([] : List Value)) ko) :: (Dt, tupV [nv, .ref D2]) :: (D2, listOf wv.toArray 0) :: tl, rfl, by omega, (List.forall_mem_cons.mpr ⟨.tail _ (.tail _ (.tail _ (.tail _ (.head _)))), List.forall_mem_cons.mpr ⟨.head _, List.forall_mem_cons.mpr ⟨.tail _ (.head _), List.forall_mem_cons.mpr ⟨.tail _ (.tail _ (.tail _ (.tail _ (.tail _ (.head _))))), List.forall_mem_cons.mpr ⟨.tail _ (.tail _ (.head _)), List.forall_mem_cons.mpr ⟨.tail _ (.tail _ (.tail _ (.head _))), fun _ h => .tail _ (.tail _ (.tail _ (.tail _ (.tail _ (.tail _ h)))))⟩⟩⟩⟩⟩⟩), ?_, ?_⟩⟩))))))
        · have f5 := fresh_ne (a := a) hDr ⟨_, .tail _ (.tail _ (.tail _ (.head _)))⟩ ⟨_, .tail _ (.tail _ (.tail _ (.tail _ (.head _))))⟩ ⟨_, .head _⟩
          exact List.forall_mem_cons.mpr ⟨f5.1, List.forall_mem_cons.mpr ⟨fun e => D.n2 e.symm, List.forall_mem_cons.mpr ⟨fun e => D.n1 e.symm, fun q hq => (hne2 q hq).1⟩⟩⟩
        have f5 := fresh_ne (a := a) hDr ⟨_, .tail _ (.tail _ (.tail _ (.head _)))⟩ ⟨_, .tail _ (.tail _ (.tail _ (.tail _ (.head _))))⟩ ⟨_, .head _⟩
        have hs2 : ∀ q ∈ (Dt, tupV [nv, .ref D2]) :: (D2, listOf wv.toArray 0) :: tl, q ∈ (Dr, tupV [.str (T w) tw, nv]) :: (Dt, tupV [nv, .ref D2]) :: (D2, listOf wv.toArray 0) :: tl := fun q hq => .tail _ hq
        refine Ex.cont (K .cont _ _ ⟨rvs ++ [Value.ref Dr], [], vs ++ [Value.ref Dt], kr + 1, ko, kp + 1 + 1, (Dr, tupV [.str (T w) tw, nv]) :: (Dt, tupV [nv, .ref D2]) :: (D2, listOf wv.toArray 0) :: tl, rows ++ [(.word w, nm)], [], ⟨nm, ws⟩ :: p', n⟩ (.inr rfl) ⟨.snoc (r := .word w) ((hr.mono hs).mono hs2) (.head _) ⟨tw, rfl⟩ hnm, .nil, hpi2.mono hs2, ⟨rest', hma', by rw [List.append_assoc]; exact hout⟩, hg', h6, ?_, fun q hq => hs2 q (hs q (hb q hq)), List.forall_mem_cons.mpr ⟨f5, hne2⟩⟩ (Nat.lt_succ_self _) (List.forall_mem_cons.mpr ⟨rfl, List.forall_mem_cons.mpr ⟨rfl, List.forall_mem_cons.mpr ⟨rfl, List.forall_mem_nil _⟩⟩⟩) (List.forall_mem_cons.mpr ⟨.head _, List.forall_mem_cons.mpr ⟨.tail _ (.tail _ (.tail _ (.head _))), List.forall_mem_cons.mpr ⟨.tail _ (.tail _ (.head _)), List.forall_mem_cons.mpr ⟨.tail _ (.head _), List.forall_mem_cons.mpr ⟨.tail _ (.tail _ (.tail _ (.tail _ (.head _)))), List.forall_mem_cons.mpr ⟨.tail _ (.tail _ (.tail _ (.tail _ (.tail _ (.head _))))), fun _ h => .tail _ (.tail _ (.tail _ (.tail _ (.tail _ (.tail _ h)))))⟩⟩⟩⟩⟩⟩))
        dsimp only
        omega
      | @snoc ovs o Do iv Dn ns kn i nums ho hi1 hi2 hi3 hI =>
        rw [ma_feed hw] at hma
        simp only [List.length_append, List.length_singleton] at hol
        refine Ex.ifF (Tp.cast (Tp.eqNil (vs := ovs ++ [Value.ref Do]) (Ep.name rfl) (.tail _ (.tail _ (.tail _ (.tail _ (.head _)))))) (by simp)) ?_
        refine Ex.less (n' := (a.O, listOf (ovs ++ [Value.ref Do]).toArray ko) :: (a.R, listOf rvs.toArray kr) :: (a.P, listOf (vs ++ [Value.ref Dt]).toArray (kp + 1 + 1)) :: (Dt, tupV [nv, .ref D2]) :: (D2, listOf wv.toArray 0) :: tl) (List.forall_mem_cons.mpr ⟨.tail _ (.tail _ (.tail _ (.tail _ (.head _)))), List.forall_mem_cons.mpr ⟨.tail _ (.tail _ (.tail _ (.head _))), List.forall_mem_cons.mpr ⟨.head _, List.forall_mem_cons.mpr ⟨.tail _ (.head _), List.forall_mem_cons.mpr ⟨.tail _ (.tail _ (.head _)), fun _ h => .tail _ (.tail _ (.tail _ (.tail _ (.tail _ h))))⟩⟩⟩⟩⟩) ?_
        refine rx_item hc hu D (hr.mono hs) (ho.mono hs) hpi2 ⟨rest, hma, hout⟩ hg' hok (fun i hi => h6 i (.tail _ hi)) (h6 _ (.head _)) ?_ (fun q hq => hs q (hb q hq)) hne2 (by omega) (by simp only [List.length_append, List.length_singleton]; omega) (hs _ m2) hi3 (hs _ hi1) (hs _ hi2) hI (Nat.lt_succ_self _) K
        have : massO ((i, nums) :: o) = 7 * nums.length + 1 + massO o := rfl
        omega
end
theorem s_line : Str.ofString "the line" = T [116, 104, 101, 32, 108, 105, 110, 101] := by decide +kernel
section
variable {x : Fx} {f : Fn} {m : Loc} {n : Led} {R : Flow → Loc → Led → Prop} {X : List Value → Led → Prop}
theorem Ex.swp3 {y₁ y₂ y₃ : Str} {p₁ p₂ p₃ tp pos : Pos} {k : Nat} {e : Expr} {r : List Stmt} (h : Ev x f m n e (fun v m₁ n₁ => ∃ D a b c o, v = .ref D ∧ (D, ⟨.type "tuple", none, .seq #[a, b, c], o⟩) ∈ n₁ ∧ Ex x f ((y₁, a) :: (y₂, b) :: (y₃, c) :: m₁) n₁ r R X) X)
    (hs : swapsWithSole [.Tuple [.Name y₁ p₁, .Name y₂ p₂, .Name y₃ p₃] k tp] e pos.line (x.env f) = pure false := by rfl) (hs2 : swappedStores [.Tuple [.Name y₁ p₁, .Name y₂ p₂, .Name y₃ p₃] k tp] e (x.env f) = pure (some [y₁, y₂, y₃]) := by rfl)
    (hx : (x.env f).kindOf y₁ = some .local := by rfl) (hx2 : (x.env f).kindOf y₂ = some .local := by rfl) (hx3 : (x.env f).kindOf y₃ = some .local := by rfl) : Ex x f m n (.Assign [.Tuple [.Name y₁ p₁, .Name y₂ p₂, .Name y₃ p₃] k tp] e pos :: r) R X :=
  Ex.go <| Tr.mk fun s Q E ok st q ee po => Assign_Tuple_swapped (h.run s _ E ok st (fun v m₁ n₁ h1 t1 ⟨D, a, b, c, o, hv, hm, hE⟩ ⟨⟨mm, F, km⟩, N⟩ => by
    subst hv
    refine unpackItemsN_ F N (N.isTup hm) rfl rfl fun h' F' N' => ?_
    show wpAny _ _ (assignInOrder [bindName (x.env f) y₃, bindName (x.env f) y₂, bindName (x.env f) y₁] [c, b, a]) _ _ _
    refine assignInOrder_cons (bindName_ ((Tr.store hx3 (R := fun _ m₂ n₂ => m₂ = (y₃, c) :: m₁ ∧ n₂ = n₁) (X := X) ⟨rfl, rfl⟩).run _ _ E ok ⟨⟨mm, F', km⟩, N'⟩ ?_ ee po))
    rintro _ _ _ h2 t2 ⟨rfl, e2⟩ st2
    rw [e2] at st2
    refine assignInOrder_cons (bindName_ ((Tr.store hx2 (R := fun _ m₂ n₂ => m₂ = (y₂, b) :: (y₃, c) :: m₁ ∧ n₂ = n₁) (X := X) ⟨rfl, rfl⟩).run _ _ E ok st2 ?_ ee po))
    rintro _ _ _ h3 t3 ⟨rfl, e3⟩ st3
    rw [e3] at st3
    refine assignInOrder_cons (bindName_ ((Tr.store hx (R := fun _ m₂ n₂ => m₂ = (y₁, a) :: (y₂, b) :: (y₃, c) :: m₁ ∧ n₂ = n₁) (X := X) ⟨rfl, rfl⟩).run _ _ E ok st3 ?_ ee po))
    rintro _ _ _ h4 t4 ⟨rfl, e4⟩ st4
    rw [e4] at st4
    exact assignInOrder_nil (q _ _ _ h4 t4 ⟨rfl, hE⟩ st4)) ee po) hs hs2
end
theorem g_rf : ∀ Q, nsIn (Mine.KK Q) mainGlobals (Str.ofString "_law_refusal") = some (some (.ref 806)) := by intro Q; kernel_rfl
theorem k_rf : ∀ Q, keepIn (Mine.KK Q) (.ref 806) = true := by intro Q; kernel_rfl
theorem Er.two {x : Fx} {f : Fn} {m : Loc} {n : Led} {es : List Expr} {K : List Value → Loc → Led → Prop} {X : List Value → Led → Prop} {a b : Addr} {o o' : Obj} (h1 : (a, o) ∈ n) (h2 : (b, o') ∈ n) (ho : o ≠ o') (k : a ≠ b → Er x f m n es K X) : Er x f m n es K X := fun pos => Tr.mk fun s Q E ok st q ee po => ((k fun e => ho (by
  have e1 := (st.2 _ h1).1
  have e2 := (st.2 _ h2).1
  dsimp only at e1 e2
  rw [e, e2] at e1
  exact (Option.some.inj e1).symm)) pos).run s Q E ok st q ee po
theorem list_ne_tup {vs ws : List Value} {k : Nat} : tupV vs ≠ listOf ws.toArray k := fun e => by injection e with h; injection h with h; exact absurd h (by decide)
noncomputable def RwR (a : RxA) (v : Value) (n' : Led) : Prop := ∃ D vs k', v = .ref D ∧ (D, listOf (List.toArray vs) k') ∈ n' ∧ RowsIn n' vs a.out ∧ (∀ q ∈ a.base, q ∈ n')
section
variable {y : Fx} {a : RxA} {X : List Value → Led → Prop}
theorem rw_last (c : RxS) {n : Led} (hn : ∀ q ∈ (a.R, listOf c.rvs.toArray c.kr) :: c.tl, q ∈ n) (hr : RowsIn c.tl c.rvs c.rows) (ho : c.rows ++ [(.none, theLine)] = a.out) (hb : ∀ q ∈ a.base, q ∈ c.tl) (hl : c.rvs.length ≤ 1000) : Ex y rwF (rxPs a) n ((fb o813.1).drop 3) (fun fl _ n' => RwR a (retv fl) n') X := by
  refine Ex.ret (Ev.catL (D := a.R) (vs := c.rvs) (k := c.kr) (Ep.name rfl) (Ev.lst (Er.cons (Ev.tup (Er.E Ep.none (Er.S (Ep.strT s_line) fun tl0 => Er.nil ⟨Nat.le_of_ble_eq_true rfl, fun Dt hDt => Er.nil ⟨Nat.le_of_ble_eq_true rfl, fun D1 hD1 => ⟨D1, [.ref Dt], 0, rfl, .tail _ (.tail _ (hn _ (.head _))), .head _, by show c.rvs.length + 1 ≤ 100000; omega, fun D2 hD2 => ⟨D2, _, _, rfl, .head _, ?_, ?_⟩⟩⟩⟩))))))
  · rw [← ho]
    exact .snoc (r := .none) (hr.mono fun q hq => .tail _ (.tail _ (.tail _ (hn q (.tail _ hq))))) (.tail _ (.tail _ (.head _))) rfl ⟨tl0, rfl⟩
  · exact fun q hq => .tail _ (.tail _ (.tail _ (hn q (.tail _ (hb q hq)))))
theorem rw_end (hc : 10 ≤ y.c) (hu : 100 ≤ y.u) (D : RxD a) {c : RxS} (H : RxP a c) (hp : c.p = []) : Ex y rwF (rxPs a) (rxN a c) ((fb o813.1).drop 2) (fun fl _ n' => RwR a (retv fl) n') X := by
  have hrl := H.rl D
  have hol := H.ol
  obtain ⟨rvs, ovs, pvs, kr, ko, kp, tl, rows, o, p, fuel⟩ := c
  dsimp only at hp hrl hol
  subst hp
  obtain ⟨hr, ho, hpi, ⟨rest, hma, hout⟩, hg, h6, hz, hb, hne⟩ := H
  dsimp only at hr ho hpi hma hout hg h6 hz hb hne
  have hme : maEnd o = rest := by cases fuel <;> exact Option.some.inj hma
  subst hme
  cases ho with
  | nil =>
    refine Ex.ifF (Tp.lstT (vs := []) rfl (.tail _ (.head _)) (Nat.zero_le _)) ?_
    exact rw_last ⟨rvs, [], pvs, kr, ko, kp, tl, rows, [], [], fuel⟩ (fun q hq => by cases hq with | head => exact .head _ | tail _ h => exact .tail _ (.tail _ (.tail _ h))) hr hout hb hrl
  | @snoc ovs o Do iv Dn ns kn i nums ho hi1 hi2 hi3 hI =>
    refine Ex.ifT (Tp.cast (Tp.lstT (vs := ovs ++ [Value.ref Do]) rfl (.tail _ (.head _)) (Nat.le_trans hol (by decide))) (by simp)) ?_
    have hz' : 7 * nums.length + 1 + massO o + phi [] ≤ 600 := hz
    refine Ex.exp (Ev.app (D := a.R) (its := rvs) (k := kr) rfl (.head _) (Er.cons (Ev.tup (Er.cons (Ev.dcall g_rf k_rf (Er.E (Ep.lastL (D := a.O) (vs := ovs) (v := .ref Do) (k := ko) rfl (.tail _ (.head _))) (Er.nil (Tr.con (rf_spec (news := rxN a ⟨rvs, ovs ++ [Value.ref Do], pvs, kr, ko, kp, tl, rows, (i, nums) :: o, [], fuel⟩) (.tail _ (.tail _ (.tail _ hi1))) (.tail _ (.tail _ (.tail _ hi2))) hi3 hI (by omega) (h6 _ (.head _))) trivial (fun _ h => h) (by omega) (by omega) (fun v n' ⟨hv, hsub⟩ => ⟨n', fun _ h => h, Er.S (Ep.strT s_line) fun tl0 => ?_⟩) (fun _ _ z => z.elim)))))))))
    obtain ⟨d, t1, t2, rfl, hd⟩ := hv
    refine Er.two hd (hsub _ (.head _)) list_ne_tup fun hda => Er.nil ⟨Nat.le_of_ble_eq_true rfl, fun Dt hDt => Er.nil ⟨.ref Dt, (Dt, tupV [.ref d, .str (T [116, 104, 101, 32, 108, 105, 110, 101]) tl0]) :: (d, tupV [.str (Str.ofString "refused") t1, .str (refT (i, nums)) t2]) :: tl, rfl, hrl, ?_, ?_, ?_⟩⟩
    · exact List.forall_mem_cons.mpr ⟨.tail _ (hsub _ (.head _)), List.forall_mem_cons.mpr ⟨.head _, List.forall_mem_cons.mpr ⟨.tail _ hd, fun q hq => .tail _ (hsub q (.tail _ (.tail _ (.tail _ hq))))⟩⟩⟩
    · exact List.forall_mem_cons.mpr ⟨Nat.ne_of_gt (hDt _ (hsub _ (.head _))), List.forall_mem_cons.mpr ⟨hda, fun q hq => (hne q hq).1⟩⟩
    refine rw_last ⟨rvs ++ [Value.ref Dt], [], pvs, kr + 1, ko, kp, (Dt, tupV [.ref d, .str (T [116, 104, 101, 32, 108, 105, 110, 101]) tl0]) :: (d, tupV [.str (Str.ofString "refused") t1, .str (refT (i, nums)) t2]) :: tl, rows ++ [(.bad (i, nums), theLine)], [], [], fuel⟩ (fun q hq => hq) (.snoc (r := .bad (i, nums)) (nm := theLine) (hr.mono fun q hq => .tail _ (.tail _ hq)) (.head _) ⟨d, t1, t2, rfl, .tail _ (.head _)⟩ ⟨tl0, rfl⟩) ?_ (fun q hq => .tail _ (.tail _ (hb q hq))) ?_
    · rw [List.append_assoc]
      exact hout
    · have h1 := congrArg List.length hout
      have h2 : rows.length + 2 = a.out.length := by rw [← h1]; simp [maEnd]
      have h3 := hr.length
      have h4 := D.hl
      rw [List.length_append, List.length_singleton]
      omega
end
theorem rw_spec {w : World} {news : Led} {Dw : Addr} {ws : List Wd} {wv : List Value} {k n : Nat} {out : List Row} (hm : (Dw, listOf wv.toArray k) ∈ news) (hs : StrsAre wv (ws.map T)) (hg : ∀ v ∈ ws, OkU v) (hz : phi [⟨theLine, ws⟩] ≤ 600) (hma : ma n [] [⟨theLine, ws⟩] = some out) (hol : out.length ≤ 1000) :
    Con 20 200 w 813 news True [.ref Dw] (fun v n' => ∃ D vs k', v = .ref D ∧ (D, listOf (List.toArray vs) k') ∈ n' ∧ RowsIn n' vs out ∧ (∀ q ∈ news, q ∈ n')) NoX := by
  refine' Con.of (binds := [(Str.ofString "words", .ref Dw)]) ?a ?b ?c ?d ?e ?h ?i ?j ?k ?l
  case a => k_is
  case b => k_is
  case c => exact fun s X => BindsTo.of_eq rfl
  case d => exact locs rfl
  case e => exact ⟨by omega, by omega⟩
  case i => exact rfl
  case j => exact rfl
  case k => exact rfl
  case l => decide
  intro _ y hw hc hu hcl
  show Ex y rwF _ _ (fb o813.1) _ _
  refine Ex.swp3 (Ev.tup (Er.cons (Ev.lst (Er.nil ⟨Nat.zero_le _, fun Rr hR => Er.cons (Ev.lst (Er.nil ⟨Nat.zero_le _, fun Oo hO => Er.cons (Ev.lst (Er.cons (Ev.tup (Er.S (Ep.strT s_line) fun tl0 => Er.E (Ep.name rfl) (Er.nil ⟨Nat.le_of_ble_eq_true rfl, fun Dt hDt => Er.nil ⟨Nat.le_of_ble_eq_true rfl, fun Pp hP => Er.nil ⟨Nat.le_of_ble_eq_true rfl, fun Du hDu => ⟨Du, _, _, _, _, rfl, .head _, ?_⟩⟩⟩⟩)))))⟩))⟩))))
  have hrp : ∀ q ∈ rxPs ⟨Rr, Oo, Pp, news, out⟩, look ((Str.ofString "rows", Value.ref Rr) :: (Str.ofString "opened", .ref Oo) :: (Str.ofString "pile", .ref Pp) :: [(Str.ofString "words", .ref Dw)]) q.1 = some q.2 := List.forall_mem_cons.mpr ⟨rfl, List.forall_mem_cons.mpr ⟨rfl, List.forall_mem_cons.mpr ⟨rfl, List.forall_mem_nil _⟩⟩⟩
  have a1 : ∀ q ∈ news, q.1 ≠ Rr := fun q hq => Nat.ne_of_lt (hR q hq)
  have a2 : ∀ q ∈ news, q.1 ≠ Oo := fun q hq => Nat.ne_of_lt (hO q (.tail _ hq))
  have hPm : ∀ q ∈ news, q.1 ≠ Pp := fun q hq => Nat.ne_of_lt (hP q (.tail _ (.tail _ (.tail _ hq))))
  have D : RxD ⟨Rr, Oo, Pp, news, out⟩ := ⟨Nat.ne_of_lt (hO _ (.head _)), Nat.ne_of_lt (hP _ (.tail _ (.tail _ (.head _)))), Nat.ne_of_lt (hP _ (.tail _ (.head _))), hol⟩
  have hD1 : Dt ≠ Rr ∧ Dt ≠ Oo ∧ Dt ≠ Pp := ⟨Nat.ne_of_gt (hDt _ (.tail _ (.head _))), Nat.ne_of_gt (hDt _ (.head _)), Nat.ne_of_lt (hP _ (.head _))⟩
  have hl0 : out.length ≤ 1000 := hol
  refine Ex.less (n' := rxN ⟨Rr, Oo, Pp, news, out⟩ ⟨[], [], [Value.ref Dt], 0, 0, 0, (Dt, tupV [.str (T [116, 104, 101, 32, 108, 105, 110, 101]) tl0, .ref Dw]) :: news, [], [], [⟨theLine, ws⟩], n⟩) (List.forall_mem_cons.mpr ⟨.tail _ (.tail _ (.tail _ (.tail _ (.head _)))), List.forall_mem_cons.mpr ⟨.tail _ (.tail _ (.tail _ (.head _))), List.forall_mem_cons.mpr ⟨.tail _ (.head _), List.forall_mem_cons.mpr ⟨.tail _ (.tail _ (.head _)), fun _ h => .tail _ (.tail _ (.tail _ (.tail _ (.tail _ h))))⟩⟩⟩⟩) ?_
  refine Ex.whl (fun _ => rxPs ⟨Rr, Oo, Pp, news, out⟩) (rxN ⟨Rr, Oo, Pp, news, out⟩) (RxP ⟨Rr, Oo, Pp, news, out⟩) RxS.fuel ⟨[], [], [Value.ref Dt], 0, 0, 0, (Dt, tupV [.str (T [116, 104, 101, 32, 108, 105, 110, 101]) tl0, .ref Dw]) :: news, [], [], [⟨theLine, ws⟩], n⟩ hrp (fun _ h => h) ⟨.nil, .nil, .snoc .nil (.head _) (.tail _ hm) ⟨tl0, rfl⟩ hs, ⟨out, hma, rfl⟩, ?_, List.forall_mem_nil _, ?_, fun _ h => .tail _ h, List.forall_mem_cons.mpr ⟨hD1, fun q hq => ⟨a1 q hq, a2 q hq, hPm q hq⟩⟩⟩ (fun c H => ?_)
  · exact fun t ht => List.mem_singleton.mp ht ▸ hg
  · show 0 + phi [⟨theLine, ws⟩] ≤ 600
    omega
  cases hcp : c.p with
  | nil =>
    have hv : c.pvs = [] := List.eq_nil_of_length_eq_zero (by rw [H.hp.length, hcp]; rfl)
    refine (Tp.cast (Tp.lstT (vs := c.pvs) rfl (.tail _ (.tail _ (.head _))) (Nat.le_trans H.pl (by decide))) (by rw [hv]; rfl) : Tp _ _ _ _ _ false).go ?_
    rw [if_neg Bool.false_ne_true]
    exact rw_end (by omega) (by omega) D H hcp
  | cons t p' =>
    have hv : (!c.pvs.isEmpty) = true := by
      have := H.hp.length
      rw [hcp] at this
      cases hpv : c.pvs with
      | nil => rw [hpv] at this; cases this
      | cons a l => rfl
    refine (Tp.cast (Tp.lstT (vs := c.pvs) rfl (.tail _ (.tail _ (.head _))) (Nat.le_trans H.pl (by decide))) hv : Tp _ _ _ _ _ true).go ?_
    rw [if_pos rfl]
    refine rx_turn (by omega) (by omega) D H hcp fun fl m n c' hfl H' hlt hps hl => ?_
    rcases hfl with rfl | rfl
    · exact ⟨c', H', hlt, hps, hl⟩
    · exact ⟨c', H', hlt, hps, hl⟩
end Mine

end
section
open Mine
theorem Mine.pre_Th : PySem.Challenge.rw_in0151_02 = PySem.Challenge.rw_in0151_02 ∧ Mine.KK = Mine.KK := by
  k_with_none
  k_fill
  k_with "om" => (first | with_reducible assumption | exact Nat.le_of_ble_eq_true rfl | with_reducible exact Nat.ne_of_lt (by assumption) | with_reducible exact Nat.ne_of_gt (by assumption) | with_reducible exact Nat.le_of_lt (by assumption) | with_reducible exact Nat.le_refl _ | with_reducible exact Nat.le_add_right _ _ | with_reducible exact Nat.lt_add_one _ | with_reducible exact Nat.succ_le_of_lt (by assumption) | with_reducible exact Nat.lt_of_succ_le (by assumption) | with_reducible exact Int.ofNat_lt.mpr (by assumption) | with_reducible exact Int.natCast_nonneg _ | with_reducible exact Mine.o_n (by assumption) | with_reducible exact Mine.o_l (by assumption) | with_reducible exact Mine.o_i (by assumption) (by assumption) | with_reducible exact Mine.o_k (by assumption) (by assumption) | with_reducible exact Mine.o_m (by assumption) (by assumption) | with_reducible exact Mine.o_w (by assumption) | with_reducible exact Mine.o_v (by assumption) (by assumption) (by assumption) | with_reducible exact Mine.o_s (by assumption) | with_reducible exact Mine.o_t (by assumption) | with_reducible exact Mine.o_17 (by assumption) | with_reducible exact Mine.o_y (by assumption) (by assumption) | with_reducible exact Mine.o_z (by assumption) (by assumption) | with_reducible exact Mine.o_y2 (by assumption) (by assumption) | exact Mine.o_a (a := 10000) (by with_reducible assumption) rfl | exact Mine.o_a (a := 9000) (by with_reducible assumption) rfl | exact Mine.o_a (a := 256) (by with_reducible assumption) rfl | exact Mine.o_a (a := 300) (by with_reducible assumption) rfl | exact Mine.o_a (by with_reducible assumption) rfl | exact Mine.o_b (a := 10000) (by with_reducible assumption) rfl | exact Mine.o_b (a := 9000) (by with_reducible assumption) rfl | exact Mine.o_b (a := 256) (by with_reducible assumption) rfl | exact Mine.o_b (by with_reducible assumption) rfl | exact Mine.o_c (by with_reducible assumption) rfl | exact Mine.o_d (by with_reducible assumption) rfl | exact Mine.o_e (by with_reducible assumption) rfl | exact Mine.o_f (by with_reducible assumption) rfl | exact Mine.o_g (by with_reducible assumption) rfl | exact Mine.o_h (by with_reducible assumption) rfl | exact Mine.o_1 (by with_reducible assumption) rfl | exact Mine.o_2 (by with_reducible assumption) rfl | exact Mine.o_3 (by with_reducible assumption) rfl | exact Mine.o_4 (by with_reducible assumption) rfl | with_reducible exact Mine.o_5 (by assumption) | exact Mine.o_6 (by with_reducible assumption) rfl | exact Mine.o_7 (by with_reducible assumption) rfl | exact Mine.o_12 (by with_reducible assumption) (by with_reducible assumption) rfl | exact Mine.o_13 (by with_reducible assumption) (by with_reducible assumption) rfl | exact Mine.o_14 (by with_reducible assumption) (by with_reducible assumption) rfl | exact Mine.o_15 (by with_reducible assumption) (by with_reducible assumption) rfl | with_reducible exact Mine.o_18 (by assumption) (by assumption) | with_reducible exact Mine.o_11 (by assumption) (by assumption) | with_reducible exact Mine.o_x (by assumption) (by assumption) | with_reducible exact Nat.ne_of_lt (Nat.lt_trans (by assumption) (by assumption)) | with_reducible exact Nat.ne_of_gt (Nat.lt_trans (by assumption) (by assumption)) | with_reducible exact Mine.o_r (by assumption) (by assumption) | with_reducible exact Mine.o_o (by assumption) (by assumption) | with_reducible exact Mine.o_p (by assumption) (by assumption) | with_reducible exact Mine.o_q (by assumption) (by assumption) | with_reducible exact Mine.o_u (by assumption) (by assumption) | with_reducible exact Mine.o_j (by assumption) (by assumption) | with_reducible exact Mine.o_20 (by assumption) | with_reducible exact Mine.o_21 (by assumption) | with_reducible exact Mine.o_22 (by assumption) | with_reducible exact Mine.o_23 (by assumption) | with_reducible exact Mine.o_24 (by assumption) | with_reducible exact Mine.o_28 (by assumption) | with_reducible exact Mine.o_29 (by assumption) | with_reducible exact Mine.o_31 (by assumption) | with_reducible exact Mine.o_25 (by assumption) (by assumption) (by assumption) | with_reducible exact Mine.o_26 (by assumption) (by assumption) (by assumption) | with_reducible exact Mine.o_27 (by assumption) (by assumption) | with_reducible exact Mine.o_30 (by assumption) (by assumption) | exact Mine.o_19 (by with_reducible assumption) (by with_reducible assumption) rfl | fail "om")
  k_with "my enter" => (refine' code_def ?k1_z ?k2_z ?k3_z ?k4_z ?k5_z ?kA_z ?kF_z ?kK_z ?k6_z ?k7_z ?k8_z ?k9_z ?kB_z ?_ ?c2_z ?c3_z ?c4_z ?c5_z; (case kA_z => exact rfl); (case kF_z => exact rfl); (case kK_z => first | exact rfl | assumption); (case k1_z => k_asm); (case k2_z => k_asm); (case k3_z => k_asm); (case k4_z => k_asm); (case k5_z => k_asm); (case k6_z => k_is); (case k7_z => k_is); (case k8_z => ktr_room); (case k9_z => first | exact BindsTo.of_eq rfl | exact binds_K (by k_in) rfl (by k_is) rfl rfl rfl); (case c5_z => decide); (case kB_z => exact locs rfl); (case c2_z => exact rfl); (case c3_z => exact rfl); (case c4_z => exact rfl); k_whole; intro G LL h1 FG F1 N1 B1 X1 T1; (try dsimp only); (try k_lift B1); (try k_fold))
  k_with "call builtin:str.find" => (refine Mine.find4 (by first | rfl | omega) ?_)
  k_with "truthy str" => ((with_reducible show wpAny _ _ (PySem.truthy (Value.str (Str.mk (List.toArray _)) _)) _ _ _); (refine Mine.truthy_T (by first | assumption | omega) ?_); intro _)
  k_with "truthy str" => ((with_reducible show wpAny _ _ (PySem.truthy (Value.str (Str.mk (List.toArray [_])) _)) _ _ _); (refine Mine.truthy_one ?_); intro _)
  k_with "compareOp In str str" => ((with_reducible show wpAny _ _ (compareOp CmpOp.In (Value.str (Str.mk (List.toArray [_])) _) _) _ _ _); first | refine Mine.in_ws ?_ | refine Mine.in_cm ?_ | refine Mine.in_es ?_ | refine Mine.in_dt ?_ | refine Mine.in_wc ?_ | refine Mine.in_none ?_ | refine Mine.in_qs ?_)
  k_with "inplaceOp Add str str" => ((with_reducible show wpAny _ _ (inplaceOp _ (Value.str (Str.mk (List.toArray _)) _) (Value.str (Str.mk (List.toArray _)) _)) _ _ _); (refine Mine.iadd_T (by first | omega | (simp only [List.length_append, List.length_cons, List.length_nil] at *; omega)) ?_); intro _ _)
  k_with "compareOp Eq str str" => ((with_reducible show wpAny _ _ (compareOp CmpOp.Eq (Value.str (Str.mk (List.toArray [_])) _) _) _ _ _); ((with_reducible first | refine Mine.eq_nl ?_ ?_ | refine Mine.eq_sp ?_ ?_ | refine Mine.eq_lc ?_ ?_ | refine Mine.eq_hs ?_ ?_ | refine Mine.eq_dq ?_ ?_ | refine Mine.eq_bs ?_ ?_ | refine Mine.eq_dd ?_ ?_) <;> (intro hspz; first | (exfalso; revert hspz; decide) | (subst hspz) | skip)))
  k_with "compareOp NotEq str str" => ((with_reducible show wpAny _ _ (compareOp CmpOp.NotEq (Value.str (Str.mk (List.toArray [_])) _) _) _ _ _); ((with_reducible refine Mine.ne_dd ?_ ?_) <;> (intro hspz; first | (exfalso; revert hspz; decide) | (subst hspz) | skip)))
  k_with "exec If" => refine wpAny_If ?_
  k_with "call type:ValueError" => (k_dflt (refine Mine.raise_VE ?_); intro h'z ez hmxz)
  k_with "leaving ref" => (k_dflt (refine' leave_raiseS ?k1_z (Heap.MadeExc.of ?k2_z) ?k3_z ?k4_z ?_; (case k1_z => assumption); (case k2_z => assumption); (case k3_z => assumption); (case k4_z => assumption)); intro h'z t'z R1z R2z U1z)
  k_with "subscriptTail Name Name str int" => (k_dflt (refine Mine.item_T (by omega) (by omega) ?_; intro cz s'z hsufz tkz kz))
  k_with "subscriptTail Name Name str int" => (k_dflt (refine Mine.item_H (by assumption) (by omega) ?_; intro tkz kz))
  k_with "call ref" => (k_here; (with_reducible show wpAny _ _ (call (Value.ref 554) [Value.ref _, Value.int _ _]) _ _ _); k_dflt (refine' Mine.rd1_at ?k1_z ?k2_z ?k3_z ?k4_z ?k5_z ?kK_z ?km_z ?kU_z ?kn_z ?kp_z ?kd_z ?ku_z ?_ ?_; (case k1_z => k_asm); (case k2_z => k_asm); (case k3_z => k_asm); (case k4_z => k_asm); (case k5_z => k_asm); (case kK_z => first | exact rfl | assumption); (case km_z => k_mem); (case kU_z => k_updF); (case kn_z => omega); (case kp_z => constructor <;> omega); (case kd_z => ktr_room); (case ku_z => ktr_units); all_goals (intro cz s'z hsufz h'z tk'z tz t'z F'z N'z; (try dsimp only at N'z); (try k_sweep))))
  k_with "call ref" => (k_here; (try simp only [List.nil_append, List.cons_append, List.append_nil]); (with_reducible show wpAny _ _ (call (Value.ref 562) [Value.ref _]) _ _ _); k_dflt (refine' Mine.rl_at ?k1_z ?k2_z ?k3_z ?k4_z ?k5_z ?kK_z ?km_z ?kU_z ?kn_z ?kp_z ?kd_z ?ku_z ?_; (case k1_z => k_asm); (case k2_z => k_asm); (case k3_z => k_asm); (case k4_z => k_asm); (case k5_z => k_asm); (case kK_z => first | exact rfl | assumption); (case km_z => k_mem); (case kU_z => k_updF); (case kn_z => omega); (case kp_z => constructor <;> omega); (case kd_z => ktr_room); (case ku_z => ktr_units); (intro xz h'z tk'z tz t'z F'z N'z; (try dsimp only at N'z); (try k_sweep))))
  k_with "exec While Constant cons nil" => refine Mine.Halt.out ?_
  k_with "KswEnd" => refine Mine.Halt.out ?_
  k_with "truthy ref" => (k_here; k_dflt (refine' Mine.dq_truthy_N ?N_z ?m_z ?f_z ?_; (case N_z => k_asm); (case m_z => k_mem); (case f_z => first | decide | omega | (simp only [List.length_cons, List.length_nil]; omega)); k_whole); intro _; (try simp only [List.isEmpty_cons, List.isEmpty_nil, Bool.not_false, Bool.not_true]))
  k_with "getMethod ref" => (k_here; (with_reducible show wpAny _ _ (getMethod (Value.ref _) (PySem.Str.ofString "appendleft") _) _ _ _); k_dflt (refine' Mine.dq_method ?N_z ?m_z Mine.slot_dq_appendleft Mine.type_dq_appendleft ?_; (case N_z => k_asm); (case m_z => k_mem)))
  k_with "getMethod ref" => (k_here; (with_reducible show wpAny _ _ (getMethod (Value.ref _) (PySem.Str.ofString "popleft") _) _ _ _); k_dflt (refine' Mine.dq_method ?N_z ?m_z Mine.slot_dq_popleft Mine.type_dq_popleft ?_; (case N_z => k_asm); (case m_z => k_mem)))
  k_with "call builtin:collections.deque.appendleft" => (k_here; k_dflt (refine' Mine.dq_appendleft ?k1_z ?k2_z ?k3_z ?z_z ?_; (case k1_z => k_asm); (case k2_z => k_asm); (case k3_z => k_upd); (case z_z => first | decide | omega)); intro h'z F'z N'z; (try k_sweep))
  k_with "call builtin:collections.deque.popleft" => (k_here; k_dflt (refine' Mine.dq_popleft ?k1_z ?k2_z ?k3_z ?z_z ?_; (case k1_z => k_asm); (case k2_z => k_asm); (case k3_z => k_upd); (case z_z => first | decide | omega)); intro h'z F'z N'z; (try k_sweep))
  k_with "compareOp In str str" => ((with_reducible show wpAny _ _ (compareOp CmpOp.In (Value.str (Mine.ES.str _) _) _) _ _ _); (rename Mine.ES => ezz; cases ezz <;> dsimp only [Mine.ES.str] at *))
  k_with "compareOp In str str" => ((with_reducible show wpAny _ _ (compareOp CmpOp.In (Value.str (Mine.ES.str _) _) _) _ _ _); (rename Mine.ES => ezz; cases ezz <;> dsimp only [Mine.ES.str] at *); all_goals (try (exfalso; (have hqz := (by assumption : Mine.ES.sp = Mine.ES.sp → _ ≤ _) rfl); omega)))
  k_with "my enterT" => (refine' Mine.code_defSX ?k1_z ?k2_z ?k3_z ?k4_z ?k5_z ?kA_z ?k6_z ?k7_z ?k8_z ?k9_z ?kB_z ?_ ?cK_z ?c2_z ?c3_z ?c4_z ?c5_z; (case kA_z => exact rfl); (case k2_z => k_asm); (case k1_z => k_asm); (case k3_z => k_asm); (case k4_z => k_asm); (case k5_z => k_asm); (case k6_z => k_is); (case k7_z => k_is); (case k8_z => ktr_room); (case k9_z => first | exact binds_K (by k_in) rfl (by k_is) rfl rfl rfl | exact BindsTo.of_eq rfl); (case kB_z => exact locs rfl); (case cK_z => first | exact rfl | assumption); (case c2_z => exact rfl); (case c3_z => exact rfl); (case c4_z => exact rfl); (case c5_z => decide); k_whole; intro G LL h1 FG F1 N1 B1 X1 T1 D'; (try dsimp only); (try k_lift B1); (try k_fold))
  exact ⟨rfl, rfl⟩

namespace Mine
noncomputable abbrev tlF : Fn := fnO o794.1 794
noncomputable def hdB : Stmt → List Stmt
  | .Try _ (.ExceptHandler _ _ b _ :: _) _ _ _ => b
  | _ => []
noncomputable def hdP : Stmt → Pos
  | .Try _ (.ExceptHandler _ _ _ p :: _) _ _ _ => p
  | _ => ⟨0, 0, 0, 0⟩
theorem th_walk {w : World} {p : Program} {loose : List Str} {mean : ExcName → Option Value} {mg mb : Str → Option Value} {dp un : Nat} {gd : Option (List Code)} {cn : Str} {cs : Scope} {L0 a : Addr} {ccd : Value} {cl : List (Str × Addr)} {base g : Heap} {L e t : Addr} {m : Str → Option Value} {msg : Str} {tm : Tok} {news news₂ : Led} {s : Shared} {Q : Flow → Shared → Prop} {E : Value → Shared → Prop} {E2 : Value → Shared → Prop}
  (B : Below (ktrTop dp un gd cn cs L0 a ccd cl []) base [envX cn cs L0 a ccd cl] g) (F : Fr g L s.heap (fun y => if y = Str.ofString "fault" then some (.ref e) else m y)) (X : (Mine.KK w.params).In g) (N2 : News g L s.heap news₂) (G : Got news₂ e t (.type "ValueError") [.str msg tm]) (N : News g L s.heap news) (T : Top p loose mean mg mb g)
  (hk : cs.kind = .function) (hr : dp + 5 < recursionLimit) (hun : un + 50 < cLine)
  (k : ∀ h' tk' D tr m', (∀ q ∈ news, @LT.lt Nat _ q.1 D) → Fr g L h' m' → (∀ y, y ≠ Str.ofString "word" → y ≠ Str.ofString "fault" → m' y = m y) → m' (Str.ofString "word") = some (.ref D) → News g L h' ((D, tupV [.str (Str.ofString "refused") tr, .str msg tm]) :: news) → Q .next { s with heap := h', toks := tk' }) :
  wpAny (model PySem.Challenge.pw_in0151_02 w) (((ktrTop dp un gd cn cs L0 a ccd cl []).deeper (envOf tlF.cn tlF.cs L tlF.a tlF.ccd)).mark (some (.ref e))) (execs (hdB (nth (wb (nth (fb o794.1) 1)) 0)) (envOf tlF.cn tlF.cs L tlF.a tlF.ccd))
    (fun f s₄ => wpAny (model PySem.Challenge.pw_in0151_02 w) ((ktrTop dp un gd cn cs L0 a ccd cl []).deeper (envOf tlF.cn tlF.cs L tlF.a tlF.ccd)) (do bindName (envOf tlF.cn tlF.cs L tlF.a tlF.ccd) (Str.ofString "fault") .none; unbindBehindTheSuite (envOf tlF.cn tlF.cs L tlF.a tlF.ccd) (Str.ofString "fault") (hdP (nth (wb (nth (fb o794.1) 1)) 0))) (fun _ s₅ => Q f s₅) E s₄) E2 s := by
  k_steps
  refine k _ _ _ _ _ (by with_reducible assumption) (by with_reducible assumption) ?_ ?_ (by with_reducible assumption)
  · intro y h1 h2
    rw [if_neg h2, if_neg h1, if_neg h2]
  · rw [if_neg (by decide), if_pos rfl]
section
variable {α β : Type} {x : Fx} {f : Fn} {m : Loc} {n : Led}
noncomputable def Fx.on (x : Fx) (g : Heap) : Fx := { x with G := g }
structure Gd (x : Fx) (f : Fn) (g : Heap) : Prop where
  ok : (x.on g).Ok f
  T : KtsTurn (x.outer.filterMap (·.frame)) x.G g
  D : KtsDicts (x.outer.filterMap (·.frame)) g
structure Tg {α : Type} (x : Fx) (f : Fn) (m : Loc) (n : Led) (t : Sem α) (R : α → Loc → Led → Prop) : Prop where
  mk ::
  run : ∀ (g : Heap) (s : Shared) (Q : α → Shared → Prop) (E : Value → Shared → Prop), Gd x f g → Kn (x.on g) m n s.heap →
    (∀ a m' n' g' h' tk', R a m' n' → Gd x f g' → Kn (x.on g') m' n' h' → Q a { s with heap := h', toks := tk' }) → PassesOwn x.M (x.A f) (x.env f) E → wpAny x.M (x.A f) t Q E s
noncomputable abbrev Xg (x : Fx) (f : Fn) (m : Loc) (n : Led) (ts : List Stmt) (R : Flow → Loc → Led → Prop) : Prop := Tg x f m n (execs ts (x.env f)) R
theorem Tg.of {t : Sem α} {R : α → Loc → Led → Prop} (h : ∀ g, Tr (x.on g) f m n t R NoX) : Tg x f m n t R :=
  Tg.mk fun g s Q E G st q po => (h g).run s Q E G.ok st (fun a m' n' h' tk' r st' => q a m' n' g h' tk' r G st') (fun _ _ _ _ _ z => z.elim) po
theorem Tg.weak {m' : Loc} {n' : Led} {t : Sem α} {R : α → Loc → Led → Prop} (hm : ∀ p ∈ m', look m p.1 = some p.2) (hn : ∀ q ∈ n', q ∈ n) (h : Tg x f m' n' t R) : Tg x f m n t R :=
  Tg.mk fun g s Q E G st => h.run g s Q E G (st.weak hm hn)
theorem Xg.st {a : Stmt} {r : List Stmt} {R : Flow → Loc → Led → Prop} (h : Tg x f m n (exec a (x.env f)) (fun fl m₁ n₁ => fl = .next ∧ Xg x f m₁ n₁ r R)) : Xg x f m n (a :: r) R :=
  Tg.mk fun g s Q E G st q po => wpAny_execs_cons (h.run g s _ E G st (fun fl m₁ n₁ g' h' tk' z G' st' => by
    obtain ⟨rfl, z⟩ := z
    exact z.run g' _ Q E G' st' q po) po)
noncomputable def WPg (x : Fx) (f : Fn) {σ : Type} (ps : σ → Loc) (led : σ → Led) (P : σ → Prop) (μ : σ → Nat) (c : σ) : Flow → Loc → Led → Prop
  | .next, m', n' => ∃ c', P c' ∧ μ c' < μ c ∧ (∀ p ∈ ps c', look m' p.1 = some p.2) ∧ (∀ q ∈ led c', q ∈ n')
  | _, _, _ => False
theorem Xg.whl {σ : Type} {test : Expr} {body r : List Stmt} {pos : Pos} {R : Flow → Loc → Led → Prop} (ps : σ → Loc) (led : σ → Led) (P : σ → Prop) (μ : σ → Nat) (c₀ : σ)
    (hm : ∀ p ∈ ps c₀, look m p.1 = some p.2) (hn : ∀ q ∈ led c₀, q ∈ n) (hp : P c₀)
    (turn : ∀ c, P c → Tg x f (ps c) (led c) (isTrue test (x.env f) (eval test (x.env f))) (fun b m₁ n₁ => if b = true then Xg x f m₁ n₁ body (WPg x f ps led P μ c) else Xg x f m₁ n₁ r R)) :
    Xg x f m n (.While test body [] pos :: r) R := Tg.mk fun g s Q E G st q po => by
  refine wpAny_execs_cons (wpAny_While (codeAny_whileLoop (fun k s' => ∃ (c : σ) (g' h' : Heap) (tk' : Nat), s' = { s with heap := h', toks := tk' } ∧ μ c = k ∧ P c ∧ Gd x f g' ∧ Kn (x.on g') (ps c) (led c) h') ?_ (μ c₀) ⟨c₀, g, s.heap, s.toks, rfl, rfl, hp, G, st.weak hm hn⟩))
  rintro k s' ⟨c, g', h', tk', rfl, rfl, hP, G', st'⟩
  refine wpAny_mono ((turn c hP).run g' _ (fun b s₂ => if b = true then wpAny x.M (x.A f) (execs body (x.env f)) (fun fl s₃ => match fl with
      | .next => ∃ m, m < μ c ∧ ∃ (c : σ) (g' h' : Heap) (tk' : Nat), s₃ = { s with heap := h', toks := tk' } ∧ μ c = m ∧ P c ∧ Gd x f g' ∧ Kn (x.on g') (ps c) (led c) h'
      | _ => False) E s₂ else wpAny x.M (x.A f) (execs r (x.env f)) Q E s₂) E G' st' ?_ po) ?_ po
  · intro b m₁ n₁ g₁ h₁ t₁ hb G₁ st₁
    cases b with
    | false =>
      simp only [Bool.false_eq_true, if_false] at hb ⊢
      exact hb.run g₁ _ Q E G₁ st₁ q po
    | true =>
      simp only [if_true] at hb ⊢
      refine hb.run g₁ _ _ E G₁ st₁ (fun fl m₂ n₂ g₂ h₂ t₂ hr G₂ st₂ => ?_) po
      cases fl with
      | next =>
        obtain ⟨c', h3, h4, h5, h6⟩ := hr
        exact ⟨_, h4, c', g₂, h₂, t₂, rfl, rfl, h3, G₂, st₂.weak h5 h6⟩
      | _ => exact hr.elim
  · intro b s₂ hb
    cases b with
    | false =>
      simp only [Bool.false_eq_true, if_false] at hb ⊢
      exact wpAny_execs_nil hb
    | true =>
      simp only [if_true] at hb ⊢
      refine wpAny_mono hb (fun fl s₃ h₃ => ?_) po
      cases fl with
      | next => exact h₃
      | _ => exact h₃.elim
end
structure Gx (x : Fx) : Prop where
  ex : ∃ dp un cn cs L0 a ccd cl, x.A₀ = ktrTop dp un x.gd cn cs L0 a ccd cl [] ∧ x.outer = [envX cn cs L0 a ccd cl] ∧ x.dp = dp + 1 ∧ x.un = un + 3 ∧ cs.kind = .function
  cl : x.cl = []
  XB : (Mine.KK x.w.params).In x.base
  TB : Top x.p x.loose x.mean x.mg x.mb x.base
theorem tl_try {x : Fx} (GX : Gx x) {m : Loc} {n : Led} {dd uu : Nat} {a C d : Addr} {es : List DictEntry} {k : Nat} {sl : Array (Option Value)} {Rv : Value → Led → Prop} {RE : List Value → Led → Prop} {r : List Stmt} {R : Flow → Loc → Led → Prop}
    (hm : look m (Str.ofString "lexer") = some (.ref a)) (hf : look m (Str.ofString "fault") = none) (h1 : (a, (⟨.ref C, some d, .plain, sl⟩ : Obj)) ∈ n) (h2 : (d, dictOf es k) ∈ n) (hc : ∀ P, methIn (Mine.KK P) C (Str.ofString "get_token") 704 = true) (hl : getL (Str.ofString "get_token") es = some none)
    (Cn : Con dd uu x.w 704 n True [.ref a] Rv RE) (h5 : dd ≤ x.c) (hu5 : uu ≤ x.u) (h6 : 10 ≤ x.c) (hu6 : 100 ≤ x.u)
    (ret : ∀ v n', Rv v n' → Xg x tlF ((Str.ofString "word", v) :: m) n' r R)
    (exc : ∀ es n', RE es n' → ∃ msg tm, es = [.str msg tm] ∧ ∀ D tr, (∀ q ∈ n', @LT.lt Nat _ q.1 D) → Xg x tlF ((Str.ofString "word", .ref D) :: m) ((D, tupV [.str (Str.ofString "refused") tr, .str msg tm]) :: n') r R) :
    Xg x tlF m n (nth (wb (nth (fb o794.1) 1)) 0 :: r) R := Tg.mk fun g s Q E G st q po => by
  obtain ⟨⟨dp0, un0, cn, cs, L0, a0, ccd, cl, e1, e2, e3, e4, hk⟩, ecl, XB, TB⟩ := GX
  obtain ⟨w, p, loose, mean, mg, mb, dp, un, c, u, gd, xcl, outer, A₀, base, G0, L⟩ := x
  dsimp only at e1 e2 e3 e4 ecl XB TB Cn h5 hu5 h6 hu6
  subst e1 e2 e3 e4 ecl
  refine wpAny_execs_cons (wpAny_Try_except (wpAny_execs_cons (wpAny_Assign_Name (MethodCall_ ((Ep.name (v := .ref a) (x := Fx.on _ g) (f := tlF) (m := m) (n := n) hm).use G.ok st (fun v g1 t1 hv st1 => ?_) PassesOwn.looking)))))
  subst hv
  refine (Tr.meth (x := Fx.on _ g) h1 h2 hc hl (R := fun p m' n' => p = (.ref 704, [.ref a]) ∧ m' = m ∧ n' = n) (X := NoX) ⟨rfl, rfl, rfl⟩).use G.ok st1 (fun p g2 t2 hv st2 => ?_) PassesOwn.looking
  subst hv
  obtain ⟨⟨mm, F, km⟩, N⟩ := st2
  refine callWith_K0 (G.ok.X.keeps F.keep) (methIn_keep (hc w.params)) ?_
  have hd1 := G.ok.hd
  have hd2 := G.ok.hu
  refine Cn p loose mean mg mb _ _ gd tlF.cn tlF.cs tlF.a tlF.ccd [] _ _ base g L mm _ _ _ G.ok.B F G.ok.X N G.ok.T G.ok.k trivial (by show dp0 + 1 + dd < _; have : dp0 + 1 + c < recursionLimit := hd1; omega) (by show un0 + 3 + uu < _; have : un0 + 3 + u < cLine := hd2; omega) (fun v h' tk' n' r' F' N' => ?_) (fun e t g' h' tk' es' n' r' F' RS _ U => ?_)
  · refine (Tr.store (x := Fx.on _ g) (f := tlF) (m := m) (n := n') (y := Str.ofString "word") (v := v) rfl (R := fun _ m₂ n₂ => m₂ = (Str.ofString "word", v) :: m ∧ n₂ = n') (X := NoX) ⟨rfl, rfl⟩).run _ _ _ G.ok ⟨⟨mm, F', km⟩, N'⟩ (fun u m₂ n₂ h2 t2 e st3 => ?_) (fun _ _ _ _ _ z => z.elim) PassesOwn.looking
    obtain ⟨rfl, rfl⟩ := e
    exact wpAny_execs_nil (wpAny_execs_nil ((ret v n₂ r').run g _ Q E G st3 q po))
  · obtain ⟨msg, tm, rfl, hx⟩ := exc es' n' r'
    refine caught_SB (T' := "ValueError") RS F' G.ok.B U XB TB G.D G.T (by k_is) PyProof.Rows.Boot.«ValueError» (by decide) PySem.F.isExc_ValueError PySem.F.notTuple_ValueError (by kts_sub) (fun h2 g2 news₂ tk2 T2 F2 N2 Got2 N2' K2 X2 P2 D2 => ?_)
    refine th_walk K2 F2 X2 N2 Got2 N2' P2 hk (by have : dp0 + 1 + c < recursionLimit := hd1; omega) (by have : un0 + 3 + u < cLine := hd2; omega) (fun h3 tk3 D tr m' hlt F3 e1 e2 N3 => ?_)
    refine (hx D tr hlt).run g2 _ Q E ⟨⟨K2, X2, P2, G.ok.k, hd1, hd2⟩, T2, D2⟩ ⟨⟨m', F3, fun y v e => ?_⟩, N3⟩ q po
    rw [look_cons] at e
    dsimp only at e
    split at e
    · next hz => rw [hz, e2]; exact e
    · next hz =>
      rw [e1 y hz (fun hy => by rw [hy, hf] at e; cases e)]
      exact km y v e
end Mine

end
section
open Mine
namespace Mine
section
variable {prog : Program} {w : World} {A A₀ : Around} {base h₀ : Heap} {L a f : Addr} {m : Str → Option Value} {cn : Str} {cs : Scope} {ccd : Value} {cl : List (Str × Addr)} {s : Shared} {news : List (Addr × Obj)} {K : Frag}
  {p : Program} {loose : List Str} {mean : ExcName → Option Value} {mg mb : Str → Option Value}
theorem enterX (B : Below A₀ base [] h₀) (F : Fr h₀ L s.heap m) (N : News h₀ L s.heap news) (hA : A.frames = some [envX cn cs L a ccd cl]) (hck : cs.kind = .function) :
    ∃ oL es ep, (hideAll s.heap (news.map (·.1))).get? L = some oL ∧ oL.data = .dict es ep ∧ (∀ (sl : Array (Option Value)) h', h'.get? L = some { oL with slots := sl } → Heap.Ns h' L m) ∧
      h₀.StaysIn (hideAll s.heap (news.map (·.1))) ∧ Below A base [envX cn cs L a ccd cl] (hideAll s.heap (news.map (·.1))) := by
  obtain ⟨oL, es, ep, h1, h2, _, h4, h5, B2⟩ := kts_enter (A := ktrTop 0 0 none cn cs L a ccd [] []) B F N rfl hck
  exact ⟨oL, es, ep, h1, h2, h4, h5, ⟨hA, B2.stays, B2.frames⟩⟩
theorem backX {g g' h' : Heap} {L' : Addr} {m' : Str → Option Value} {news' : List (Addr × Obj)} {oL : Obj} (F : Fr h₀ L s.heap m) (hg : g.get? L = some oL) (hn : ∀ (sl : Array (Option Value)) h', h'.get? L = some { oL with slots := sl } → Heap.Ns h' L m) (st : h₀.StaysIn g)
    (T : KtsTurn ([envX cn cs L a ccd cl].filterMap (·.frame)) g g') (F' : Fr g' L' h' m') (N' : News g' L' h' news') : Fr h₀ L h' m ∧ News h₀ L h' news' := by
  have none0 : h₀.get? L = none := kts_self F
  obtain ⟨sl, hs⟩ := T.up hg
  have up : ∀ b o, h₀.get? b = some o → g'.get? b = some o := fun b o e => T.other b o (st b o e) fun q => by
    have q' : b = L := by simpa using q
    rw [q', none0] at e
    exact nomatch e
  refine ⟨⟨hn sl _ (F'.keep _ _ hs), fun b o e => F'.keep b o (up b o e), F.above⟩, fun q hq => ?_⟩
  obtain ⟨n1, _, n3⟩ := N' q hq
  refine ⟨n1, fun e => ?_, ?_⟩
  · rw [e, hs] at n3
    exact nomatch n3
  · cases e : h₀.get? q.1 with
    | none => rfl
    | some o =>
      rw [up _ _ e] at n3
      exact nomatch n3
theorem code_defSX {R : Result → Shared → Prop} {name qual : Str} {params : Arguments} {body : List Stmt} {scope : Scope} {dV kV doc pm cdv ct oc : Value} {an od : Option Addr} {osl : Array (Option Value)} {args : Args} {binds : List (Str × Value)}
    (B : Below A₀ base [] h₀) (F : Fr h₀ L s.heap m) (X₀ : K.In h₀) (N : News h₀ L s.heap news) (T : Top p loose mean mg mb h₀) (hA : A.frames = some [envX cn cs L a ccd cl])
    (ho : K.lookup f = some ⟨oc, od, .func (fnOf name qual params body scope dV kV doc pm an cdv ct), osl⟩) (hcd : codeIn K cdv qual = true) (hroom : A.depth < recursionLimit)
    (hbind : BindsTo s (fnOf name qual params body scope dV kV doc pm an cdv ct) args binds) (hloc : ∀ y ∈ binds, scope.names.lookup y.1 = some .local)
    (h : ∀ g L' h₁, Fr h₀ L g m → Fr g L' h₁ (fun y => binds.reverse.lookup y) → News g L' h₁ news → Below A base [envX cn cs L a ccd cl] g → K.In g → Top p loose mean mg mb g → KtsDicts ([envX cn cs L a ccd cl].filterMap (·.frame)) g →
      wpAny (model prog w) (A.deeper (envOf qual scope L' f cdv)) (execs body (envOf qual scope L' f cdv))
        (fun fl s' => LeaveS0 ([envX cn cs L a ccd cl].filterMap (·.frame)) h₀ L m g R (match fl with | .ret v => v | _ => .none) s')
        (fun e s' => wpAny (model prog w) (A.deeper (envOf qual scope L' f cdv)) (leaving (envOf qual scope L' f cdv) e) (fun _ s'' => R (.error e) s'') (fun e' s'' => R (.error e') s'') s')
        { s with heap := h₁, toks := s.toks + binds.length })
    (hck : cs.kind = .function) (hco : scope.isCoroutine = false) (hgen : scope.isGenerator = false) (hk : scope.kind = .function)
    (hcell : ∀ x ∈ scope.names, x.2 ≠ .cell) : codeAny (model prog w) A (.call (.ref f) args) R s := by
  have X := X₀.keeps F.keep
  obtain ⟨oL, es, ep, hg, hd, hn, st, B2⟩ := enterX (cl := cl) B F N hA hck
  refine codeAny_call_def (fd := fnOf name qual params body scope dV kV doc pm an cdv ct) (body := body) (binds := binds) hroom (X _ _ ho) rfl (T.nolimit.keeps F.keep) (codeRec_of X hcd) rfl hbind hcell hloc (fun h₁ hns hk₁ => ?_) hco hgen hk
  have FG : Fr h₀ L (hideAll s.heap (news.map (·.1))) m := ⟨hn oL.slots _ hg, st, F.above⟩
  have F1 : Fr (hideAll s.heap (news.map (·.1))) s.heap.objs.size h₁ (fun y => binds.reverse.lookup y) := ⟨hns, fun b o e => hk₁ b o (of_hideAll _ e), Nat.le_of_eq (hideAll_size _ _)⟩
  have N1 : News (hideAll s.heap (news.map (·.1))) s.heap.objs.size h₁ news := fun q hq => ⟨hk₁ _ _ (N q hq).1, Nat.ne_of_lt (Heap.lt_size (N q hq).1), hideAll_none _ (List.mem_map_of_mem hq)⟩
  have D1 : KtsDicts ([envX cn cs L a ccd cl].filterMap (·.frame)) (hideAll s.heap (news.map (·.1))) := fun b hb => by
    have e : b = L := by simpa using hb
    rw [e]
    exact ⟨oL, es, ep, hg, hd⟩
  refine wpAny_mono (h _ s.heap.objs.size h₁ FG F1 N1 B2 (X₀.keeps st) (T.keeps st) D1) (fun fl s' hl => ?_) fun _ _ y => y
  obtain ⟨g', L', m', news', T', F', N', k⟩ := hl
  obtain ⟨z1, z2⟩ := backX (cl := cl) F hg hn st T' F' N'
  exact k z1 z2
end
end Mine

end
section
open Mine
namespace Mine
theorem iadd_list {prog : Program} {w : World} {A : Around} {E : Value → Shared → Prop} {s : Shared} {Q : Value → Shared → Prop} {l b : Addr} {its its2 : List Value} {k k2 : Nat} (ha : s.heap.get? l = some (listOf its.toArray k)) (hb : s.heap.get? b = some (listOf its2.toArray k2)) (hz : its.length + its2.length ≤ 100000)
    (h : ∀ h', Heap.SameBut l s.heap h' → (∃ k', h'.get? l = some (listOf (its ++ its2).toArray k')) → Q (.ref l) { s with heap := h' }) : wpAny (model prog w) A (inplaceOp .Add (.ref l) (.ref b)) Q E s := by
  unfold inplaceOp
  refine wpAny_holding ?_
  have hT : s.TypeIs (.ref l) "list" := ⟨_, ha, rfl⟩
  have hTb : s.TypeIs (.ref b) "list" := ⟨_, hb, rfl⟩
  have hfi : fillsInplaceSlot (.type "list") "add" (Operator.Add == .Add) = pure false := by
    unfold fillsInplaceSlot
    show (typeLookup (.type "list") (dunderI "add") >>= fun fi => pure (fi.isSome && !isSeqSlot fi)) = pure false
    rw [PySem.F.slot_list_iadd.lookup]
    rfl
  have hsi : seqSlot? (.type "list") (dunderI "add") = pure (some (.builtin "list.__iadd__")) := PySem.seqSlot_of PySem.F.slot_list_iadd.lookup rfl
  refine wpAny_bind (wpAny_typeOf hT (wpAny_bind (wpAny_of_eq hfi ?_)))
  show wpAny _ A (if false = true then _ else _) Q E s
  rw [if_neg Bool.false_ne_true]
  refine wpAny_bind (binaryOp1_none (nm := "add") hT hTb noFill_list_add ?_)
  refine wpAny_bind (wpAny_of_eq hsi ?_)
  refine wpAny_bind (wpAny_rule ?_)
  have hzz : its.toArray.size + its2.toArray.size ≤ 100000 := by rw [List.size_toArray, List.size_toArray]; exact hz
  refine call_meets PySem.F.slot_list_iadd hT PySem.F.entry_list_iadd (PySem.F.args_list_iadd_2 _ _) (AutoSeq1.list___iadd___list_list_0 l its.toArray k b its2.toArray k2 ?_ (by rw [sizeLine_eq]; omega) (by rw [sizeLine_eq]; omega)) ⟨ha, hb, ?_⟩
  · have : Builtin.List.listTooLong (its.toArray.size + its2.toArray.size) = false := decide_eq_false (by rw [sizeLine_eq]; omega)
    rw [this, Bool.and_false]
    exact Bool.false_ne_true
  · exact h _ (Heap.SameBut.update ..) ⟨_, (Heap.get?_update_self _ ha rfl).trans (congrArg (fun a => some (listOf a _)) (List.append_toArray ..))⟩
noncomputable def rangeO (n : Nat) (t u v : Tok) : Obj := { cls := .type "range", dict := none, data := .fields #[.int 0 t, .int ((n : Nat) : Int) u, .int 1 v], slots := #[] }
theorem g_range : ∀ Q, nsIn (Mine.KK Q) mainGlobals (Str.ofString "range") = some none := by intro Q; kernel_rfl
section
variable {x : Fx} {f : Fn} {m : Loc} {n : Led} {R : Flow → Loc → Led → Prop} {X : List Value → Led → Prop}
theorem Ex.augL {y : Str} {p pos : Pos} {e : Expr} {r : List Stmt} {D : Addr} (hy : look m y = some (.ref D))
    (h : Ev x f m n e (fun v m₁ n₁ => ∃ D2 its its2 k k2 rest, v = .ref D2 ∧ (D2, listOf (List.toArray its2) k2) ∈ n₁ ∧ (∀ q ∈ (D, listOf (List.toArray its) k) :: rest, q ∈ n₁) ∧ (∀ q ∈ rest, q.1 ≠ D) ∧ its.length + its2.length ≤ 100000 ∧ ∀ k', Ex x f ((y, .ref D) :: m₁) ((D, listOf (its ++ its2).toArray k') :: rest) r R X) X)
    (hx : (x.env f).kindOf y = some .local := by rfl) : Ex x f m n (.AugAssign (.Name y p) .Add e pos :: r) R X :=
  Ex.go <| Tr.mk fun s Q E ok st q ee po => wpAny_AugAssign_Name (by
    obtain ⟨⟨mm, F, km⟩, N⟩ := st
    refine wpAny_loadName_local ok.k hx F.ns (km _ _ hy) (h.run _ _ E ok ⟨⟨mm, F, km⟩, N⟩ ?_ ee po)
    rintro v m₁ n₁ h1 t1 ⟨D2, its, its2, k, k2, rest, rfl, hm2, hsub, hne, hz, hk⟩ ⟨⟨mm1, F1, km1⟩, N1⟩
    have N2 : News x.G x.L h1 ((D, listOf its.toArray k) :: rest) := fun q hq => N1 q (hsub q hq)
    have hD := N2 _ (.head _)
    refine iadd_list hD.1 (N1 _ hm2).1 hz fun h' hs ho => ?_
    obtain ⟨k', ho⟩ := ho
    refine (Tr.store hx (R := fun _ m₂ n₂ => m₂ = (y, .ref D) :: m₁ ∧ n₂ = (D, listOf (its ++ its2).toArray k') :: rest) (X := X) ⟨rfl, rfl⟩).run _ _ E ok ⟨⟨mm1, F1.change hs hD.2.1 hD.2.2, km1⟩, N2.setHead hne hs ho⟩ ?_ ee po
    rintro _ _ _ h'' tk'' ⟨e3, e4⟩ st''
    rw [e3, e4] at st''
    exact q _ _ _ h'' tk'' ⟨rfl, hk k'⟩ st'')
theorem Ev.rng {p pos : Pos} {e : Expr} {k : Nat} {R : Value → Loc → Led → Prop} (hE : Ep x f m n e (IsI (k : Nat))) (h : ∀ r t u v, (∀ q ∈ n, @LT.lt Nat _ q.1 r) → R (.ref r) m ((r, rangeO k t u v) :: n))
    (he : eval (.Call (.Name (Str.ofString "range") p) [e] [] pos) (x.env f) = (do callWith pos (← eval (.Name (Str.ofString "range") p) (x.env f)) [] (backTo pos (starEach [e] (x.env f))) (backToKw pos (keywordEach [] (x.env f)))) := by rfl)
    (hs : starEach [e] (x.env f) = (false, eval e (x.env f)) :: starEach [] (x.env f) := by rfl) (hx : (x.env f).kindOf (Str.ofString "range") = some .globalImplicit := by rfl) : Ev x f m n (.Call (.Name (Str.ofString "range") p) [e] [] pos) R X :=
  Ev.callT g_range boot_range (by decide) (Er.cons (hE.go fun v hv => Er.nil (Tr.mk fun s Q E ok st q _ _ => by
    obtain ⟨t, rfl⟩ := hv
    obtain ⟨⟨mm, F, km⟩, N⟩ := st
    exact call_range_1 (q _ m _ _ _ (h s.heap.objs.size _ _ _ fun z hz => Heap.lt_size (N z hz).1) ⟨⟨mm, F.push _, km⟩, List.forall_mem_cons.mpr ⟨⟨Heap.get?_push_size _ rfl, Nat.ne_of_gt F.ns.lt, next_is_new F⟩, fun z hz => ⟨Heap.get?_push_of_some _ (N z hz).1, (N z hz).2⟩⟩⟩))) hs) he hs rfl hx
theorem Ex.forR {σ : Type} {y : Str} {yp pos : Pos} {iter : Expr} {body r : List Stmt} {k : Nat} (ps : σ → Loc) (led : σ → Led) (P : Nat → σ → Prop) (c₀ : σ) (hk : k ≤ 1000)
    (hi : Ev x f m n iter (fun v m₁ n₁ => (∃ D t u w, v = .ref D ∧ (D, rangeO k t u w) ∈ n₁) ∧ (∀ p ∈ ps c₀, look m₁ p.1 = some p.2) ∧ (∀ q ∈ led c₀, q ∈ n₁)) X) (hp : P 0 c₀)
    (turn : ∀ i v c own, i < k → IsI (i : Nat) v → OwnOff own ((led c).map (·.1)) → P i c → Ex x f ((y, v) :: ps c) (led c ++ own) body (FPost x f ps led P i own r R X) X)
    (done : ∀ c, P k c → Ex x f (ps c) (led c) r R X) (hx : (x.env f).kindOf y = some .local := by rfl) (hs : ∀ v, foldedSetIterable iter (x.env f) v = pure v := by intro _; rfl) :
    Ex x f m n (.For (.Name y yp) iter body [] pos :: r) R X := by
  refine Ex.st (R₁ := fun fl m₁ n₁ => match fl with | .next => Ex x f m₁ n₁ r R X | fl => R fl m₁ n₁) (Tr.mk fun s Q E ok st q ee po => ?_) (fun _ _ h => h) (fun fl _ _ hne h => by cases fl <;> first | exact absurd rfl hne | exact h)
  have st0 := st
  obtain ⟨⟨mm, F, km⟩, N⟩ := st
  refine For_invVF (h₀ := x.G) F hx (by have := ok.k; show ((f.cs.kind == .class) || ((f.cs.kind == .module) && _)) = false; rw [this]; rfl) (hi.run s _ E ok st0 ?_ ee po) hs po
  rintro v m₀ n₀ h₀ t₀ ⟨⟨D, t, u, w, rfl, hD⟩, hm, hn⟩ ⟨⟨mm₀, F₀, km₀⟩, N₀⟩
  have hsz : Builtin.Range.rangeSize 0 ((k : Nat) : Int) 1 = ((k : Nat) : Int) := by rw [rangeSize_one]; split <;> omega
  refine wpAny_pyIter_range (N₀ _ hD).1 (small_one (by omega) (by omega) (by omega) (by omega)) ?_
  have W : Walks PySem.Challenge.pw_in0151_02 x.w (x.A f) h₀.objs.size [h₀.objs.size] [h₀.objs.size] k (fun i v => i < k ∧ ∃ t, v = .int (0 + (i : Nat) * 1) t) (fun i h => IsRangeIter h h₀.objs.size (0 + (i : Nat) * 1) ((k : Int) - (i : Nat)) 1) := (Walks.range rfl _ 0 1 k).bound
  refine kdr_loop (news := led c₀) (fun i mm nx => ∃ c : σ, nx = led c ∧ (∀ p ∈ ps c, mm p.1 = some p.2) ∧ P i c) W (fun _ h => h) (fun _ h => h) ?_ ?_ ?_ ?_ (by show IsRangeIter _ _ _ _ _; rw [hsz]; simpa using Heap.get?_push_size _ rfl) (F₀.push _) (fun p hp => ⟨Heap.get?_push_of_some _ (N₀ p (hn p hp)).1, (N₀ p (hn p hp)).2⟩) ⟨c₀, rfl, fun p hp => km₀ _ _ (hm p hp), hp⟩ ?_ ?_
  · intro i h hi b hb
    rw [List.mem_singleton.mp hb]
    exact ⟨_, hi⟩
  · intro hm
    exact absurd F₀.ns.lt ((List.mem_singleton.mp hm) ▸ Nat.lt_irrefl _)
  · intro b hb
    rw [List.mem_singleton.mp hb]
    exact next_is_new F₀
  · intro p hp hI
    exact absurd (Heap.lt_size (N₀ p (hn p hp)).1) ((List.mem_singleton.mp hI) ▸ Nat.lt_irrefl _)
  · rintro i v m₁ nx h tk own hi ⟨_, tv, rfl⟩ hoff ⟨c, rfl, hk, hP⟩ F₁ N₁
    have e1 : (0 : Int) + (i : Int) * 1 = ((i : Nat) : Int) := by omega
    rw [e1] at F₁
    refine (turn i (.int ((i : Nat) : Int) tv) c own hi ⟨tv, rfl⟩ hoff hP).run _ _ E ok ⟨⟨_, F₁, fun z u e => ?_⟩, N₁⟩ ?_ (fun e h' tk' es n' hx hz => ee e h' tk' es n' hx hz) po
    · rw [look_cons] at e
      dsimp only at e ⊢
      split at e
      · next hz => rw [if_pos hz]; exact e
      · next hz => rw [if_neg hz]; exact look_of hk z u e
    · intro fl m₂ n₂ h₂ t₂ hr st₂
      cases fl with
      | ret v => exact q _ m₂ n₂ h₂ t₂ hr st₂
      | brk => exact q _ m₂ n₂ h₂ t₂ hr st₂
      | next =>
        obtain ⟨c', h3, h5, h6, h7, h8⟩ := hr
        obtain ⟨⟨mm₂, F₂, k₂⟩, N₂⟩ := st₂
        exact InvEndG.intro F₂ N₂ ⟨c', rfl, fun p hp => k₂ _ _ (h5 p hp), h3⟩ h8 h6 h7
      | cont =>
        obtain ⟨c', h3, h5, h6, h7, h8⟩ := hr
        obtain ⟨⟨mm₂, F₂, k₂⟩, N₂⟩ := st₂
        exact InvEndG.intro F₂ N₂ ⟨c', rfl, fun p hp => k₂ _ _ (h5 p hp), h3⟩ h8 h6 h7
  · rintro m₁ nx h tk ⟨c, rfl, hk, hP⟩ F₁ N₁
    exact q .next _ _ h tk (done c hP) ⟨⟨m₁, F₁, look_of hk⟩, N₁⟩
end
theorem Bo.powN {a b : Nat} (hab : (Builtin.Int.intBits (a : Int) : Int) * (b : Int) ≤ 2 ^ 27) : ∀ u v, IsI a u → IsI b v → Fi (binaryOp .Pow u v) (IsI ((a ^ b : Nat) : Int)) := by
  rintro _ _ ⟨t, rfl⟩ ⟨t', rfl⟩ w A E s Q _ q
  refine pow_int (by omega) hab ?_
  rw [show ((a : Int) ^ (b : Int).toNat) = ((a ^ b : Nat) : Int) by rw [Int.toNat_natCast]; exact (Int.natCast_pow a b).symm]
  exact q _ _ ⟨_, rfl⟩
theorem Bo.divN {a b : Nat} (hb : b ≠ 0) (ha : b < 1000000000) : ∀ u v, IsI a u → IsI b v → Fi (binaryOp .FloorDiv u v) (IsI ((a / b : Nat) : Int)) := by
  rintro _ _ ⟨t, rfl⟩ ⟨t', rfl⟩ w A E s Q _ q
  refine floordiv_int (by omega) ?_ (hp := Or.inl (PyProof.noPylong_small (by omega)))
  rw [show ((a : Int).fdiv (b : Int)) = ((a / b : Nat) : Int) by rw [Int.fdiv_eq_ediv_of_nonneg _ (by omega)]; rfl]
  exact q _ _ ⟨_, rfl⟩
end Mine

end
section
open Mine
namespace Mine
noncomputable def cstS : Expr → Option Str
  | .Constant (.str z) _ _ => some z
  | _ => none
noncomputable def litL : Expr → Option (List Str)
  | .List es _ => es.mapM cstS
  | _ => none
theorem cstS_inv {e : Expr} {z : Str} (h : cstS e = some z) : ∃ k p, e = .Constant (.str z) k p := by
  unfold cstS at h
  split at h
  · cases h; exact ⟨_, _, rfl⟩
  · cases h
theorem litL_inv {e : Expr} {zs : List Str} (h : litL e = some zs) : ∃ es p, e = .List es p ∧ es.mapM cstS = some zs := by
  unfold litL at h
  split at h
  · exact ⟨_, _, rfl, h⟩
  · cases h
section
variable {x : Fx} {f : Fn} {m : Loc} {X : List Value → Led → Prop}
theorem Er.csts {n : Led} : ∀ (es : List Expr) (zs : List Str) (K : List Value → Loc → Led → Prop), es.mapM cstS = some zs → (∀ vs, StrsAre vs zs → K vs m n) → Er x f m n es K X := by
  intro es
  induction es with
  | nil => intro zs K h k; cases h; exact Er.nil (k [] .nil)
  | cons e es ih =>
    intro zs K h k
    rw [List.mapM_cons] at h
    obtain ⟨z, h1, h2⟩ := Option.bind_eq_some_iff.mp h
    obtain ⟨zs', h3, h4⟩ := Option.bind_eq_some_iff.mp h2
    cases h4
    obtain ⟨c, p, rfl⟩ := cstS_inv h1
    exact Er.S Ep.str fun t => ih zs' _ h3 fun vs hv => k _ (.cons _ t hv)
noncomputable def LitsIn (n : Led) (Ds : List Value) (zss : List (List Str)) : Prop := Ds.length = zss.length ∧ ∀ (i : Nat) (zs : List Str), zss[i]? = some zs → ∃ D vs k, Ds[i]? = some (.ref D) ∧ (D, listOf (List.toArray vs) k) ∈ n ∧ StrsAre vs zs
theorem Er.lits : ∀ (es : List Expr) (n : Led) (zss : List (List Str)) (K : List Value → Loc → Led → Prop), es.mapM litL = some zss → (∀ zs ∈ zss, zs.length ≤ 1000) → (∀ Ds ext, (∀ q ∈ ext, ∀ p ∈ n, @LT.lt Nat _ p.1 q.1) → LitsIn (ext ++ n) Ds zss → K Ds m (ext ++ n)) → Er x f m n es K X := by
  intro es
  induction es with
  | nil => intro n zss K h _ k; cases h; exact Er.nil (k [] [] (List.forall_mem_nil _) ⟨rfl, fun i zs h => by cases h⟩)
  | cons e es ih =>
    intro n zss K h hz k
    rw [List.mapM_cons] at h
    obtain ⟨z, h1, h2⟩ := Option.bind_eq_some_iff.mp h
    obtain ⟨zs', h3, h4⟩ := Option.bind_eq_some_iff.mp h2
    cases h4
    obtain ⟨es', p, rfl, h5⟩ := litL_inv h1
    refine Er.cons (Ev.lst (Er.csts es' z _ h5 fun vs hvs => ⟨by have := hvs.length; rw [this]; exact hz z (.head _), fun D hD => ?_⟩))
    refine ih ((D, listOf vs.toArray 0) :: n) zs' _ h3 (fun zs h => hz zs (.tail _ h)) fun Ds ext hext hL => ?_
    have := k (.ref D :: Ds) (ext ++ [(D, listOf vs.toArray 0)]) ?_ ?_
    · rw [List.append_assoc] at this; exact this
    · intro q hq p hp
      rcases List.mem_append.mp hq with h | h
      · exact hext q h p (.tail _ hp)
      · rw [List.mem_singleton.mp h]; exact hD p hp
    · rw [List.append_assoc]
      refine ⟨by simp [hL.1], fun i zs hi => ?_⟩
      cases i with
      | zero =>
        have e : z = zs := by simpa using hi
        subst e
        exact ⟨D, vs, 0, rfl, List.mem_append_right _ (.head _), hvs⟩
      | succ i => exact hL.2 i zs hi
theorem Ev.subT {e i : Expr} {pos : Pos} {R : Value → Loc → Led → Prop} {n : Led} (h : Ev x f m n e (fun v m₁ n₁ => ∃ D vs j w, v = .ref D ∧ (D, tupV vs) ∈ n₁ ∧ Ep x f m₁ n₁ i (IsI ((j : Nat) : Int)) ∧ vs[j]? = some w ∧ vs.length ≤ 1000 ∧ R w m₁ n₁) X)
    (hs : ∀ (D : Addr) (j : Nat) (u : Tok), subscripted i false (.ref D) (.int (j : Nat) u) = operate [.ref D, .int (j : Nat) u] (getItem (.ref D) (.int (j : Nat) u)) := by intros; with_unfolding_all rfl) : Ev x f m n (.Subscript e i pos) R X :=
  Tr.mk fun s Q E ok st q ee po => Subscript_ (h.run s _ E ok st (fun v m₁ n₁ h1 t1 hv st1 => by
    obtain ⟨D, vs, j, w, rfl, hm, hi, hj, hl, hR⟩ := hv
    refine hi.use ok st1 (fun u h2 t2 hu st2 => ?_) po
    obtain ⟨tu, rfl⟩ := hu
    exact tup_at st2.2 hm hj hl (q _ _ _ _ _ hR st2) (hs _ _ _)) ee po)
end
end Mine

end
section
open Mine
namespace Mine
noncomputable def figW : List (List Wd) := [[[48]], [[49]], [[50]], [[51]], [wUse, wX, [50]], [wUse, [55], [51]], [wUse], [wX], [[50, 54, 48]], [wUse, wUse, [49], [52]]]
noncomputable def figZ : List (List Str) := [[Str.ofString "0"], [Str.ofString "1"], [Str.ofString "2"], [Str.ofString "3"], [Str.ofString "use", Str.ofString "x", Str.ofString "2"], [Str.ofString "use", Str.ofString "7", Str.ofString "3"], [Str.ofString "use"], [Str.ofString "x"], [Str.ofString "260"], [Str.ofString "use", Str.ofString "use", Str.ofString "1", Str.ofString "4"]]
theorem figZ_eq : figZ = figW.map (·.map T) := by decide +kernel
theorem figW_ok : ∀ (i : Nat), i < 10 → ∃ ws, figW[i]? = some ws ∧ ws.length ≤ 4 ∧ ∀ w ∈ ws, OkU w := by
  have ok : ∀ w ∈ figW.flatten, OkU w := by
    intro w hw
    have : w = wUse ∨ w ∈ goodW.map (·.1) := by
      revert w
      decide +kernel
    exact this.imp id fun h => by obtain ⟨q, hq, e⟩ := List.mem_map.mp h; exact ⟨q, hq, e⟩
  intro i hi
  have hl : i < figW.length := hi
  refine ⟨figW[i], List.getElem?_eq_getElem hl, ?_, fun w hw => ok w (List.mem_flatten.mpr ⟨_, List.getElem_mem hl, hw⟩)⟩
  have : ∀ l ∈ figW, l.length ≤ 4 := by decide
  exact this _ (List.getElem_mem hl)
structure WdS where
  vs : List Value
  k : Nat
  ws : List Wd
noncomputable def WdR (news : Led) (v : Value) (n' : Led) : Prop := ∃ (D : Addr) (vs : List Value) (k : Nat) (ws : List Wd), v = .ref D ∧ (D, listOf (List.toArray vs) k) ∈ n' ∧ StrsAre vs (ws.map T) ∧ ws.length ≤ 20 ∧ (∀ w ∈ ws, OkU w) ∧ (∀ q ∈ news, q ∈ n')
theorem strs_app {vs ws : List Value} {ys zs : List Str} (h : StrsAre vs ys) (h2 : StrsAre ws zs) : StrsAre (vs ++ ws) (ys ++ zs) := by
  induction h with
  | nil => exact h2
  | cons y t _ ih => exact .cons y t ih
theorem wd_spec {w : World} {news : Led} {num : Nat} {tn : Tok} : Con 10 60 w 754 news True [.int ((num : Nat) : Int) tn] (WdR news) NoX := by
  refine' Con.of (binds := [(Str.ofString "number", .int ((num : Nat) : Int) tn)]) ?a ?b ?c ?d ?e ?h ?i ?j ?k ?l
  case a => k_is
  case b => k_is
  case c => exact fun s X => BindsTo.of_eq rfl
  case d => exact locs rfl
  case e => exact ⟨by omega, by omega⟩
  case i => exact rfl
  case j => exact rfl
  case k => exact rfl
  case l => decide
  intro _ y hw hc hu hcl
  show Ex y (fnO o754.1 754) _ _ (fb o754.1) _ _
  refine Ex.asK (Ev.lst (Er.nil ⟨Nat.zero_le _, fun D hD => ?_⟩))
  have hne : ∀ q ∈ news, q.1 ≠ D := fun q hq => Nat.ne_of_lt (hD q hq)
  refine Ex.forR (σ := WdS) (k := 5) (fun _ => [(Str.ofString "words", .ref D), (Str.ofString "number", .int ((num : Nat) : Int) tn)]) (fun c => (D, listOf c.vs.toArray c.k) :: news) (fun i c => StrsAre c.vs (c.ws.map T) ∧ c.ws.length ≤ 4 * i ∧ ∀ w ∈ c.ws, OkU w) ⟨[], 0, []⟩ (by decide)
    (Ev.rng Ep.int fun r t u v hr => ⟨⟨r, t, u, v, rfl, .head _⟩, List.forall_mem_cons.mpr ⟨rfl, List.forall_mem_cons.mpr ⟨rfl, List.forall_mem_nil _⟩⟩, fun q hq => .tail _ hq⟩) ⟨.nil, Nat.le_refl _, List.forall_mem_nil _⟩ ?_ ?_
  · rintro i v c own hi ⟨ti, rfl⟩ hoff ⟨h1, h2, h3⟩
    have hio : ∀ q ∈ own, q.1 ≠ D := fun q hq => hoff q hq D (.head _)
    refine Ex.asI (i := ((num / 10 ^ i % 10 : Nat) : Int)) (Ep.bin (Ep.bin (Ep.nameI rfl) (Ep.bin Ep.int (Ep.nameI rfl) (Bo.powN (a := 10) (b := i) ?_)) (Bo.divN ?_ ?_)) Ep.int (Bo.modN (by decide))) fun tf => ?_
    · have : i ≤ 4 := by omega
      have e : Builtin.Int.intBits ((10 : Nat) : Int) = 4 := by decide +kernel
      rw [e]
      omega
    · exact Nat.ne_of_gt (Nat.pow_pos (by decide))
    · have : i ≤ 4 := by omega
      have : 10 ^ i ≤ 10 ^ 4 := Nat.pow_le_pow_right (by decide) this
      omega
    obtain ⟨ws, hws, hwl, hwo⟩ := figW_ok (num / 10 ^ i % 10) (Nat.mod_lt _ (by decide))
    have hzs : (figW.map (·.map T))[num / 10 ^ i % 10]? = some (ws.map T) := by rw [List.getElem?_map, hws]; rfl
    refine Ex.augL (D := D) rfl (Ev.subT (Ev.tup (Er.lits _ _ (figW.map (·.map T)) _ (by rw [← figZ_eq]; kernel_rfl) (by decide) fun Ds ext hext hL => ?_)))
    obtain ⟨hLl, hL⟩ := hL
    obtain ⟨D2, vs2, k2, e1, e2, e3⟩ := hL _ _ hzs
    have hl2 : vs2.length = ws.length := by have := e3.length; rw [List.length_map] at this; exact this
    have hl1 : c.vs.length = c.ws.length := by have := h1.length; rw [List.length_map] at this; exact this
    refine ⟨by rw [hLl]; decide, fun Dt hDt => ⟨Dt, Ds, _, _, rfl, .head _, Ep.nameI rfl, e1, by rw [hLl]; decide, D2, c.vs, vs2, c.k, k2, news ++ own, rfl, .tail _ e2, fun q hq => .tail _ (List.mem_append_right _ hq), ?_, by omega, fun k' => ?_⟩⟩
    · exact fun q hq => (List.mem_append.mp hq).elim (hne q) (hio q)
    refine Ex.nil ⟨⟨c.vs ++ vs2, k', c.ws ++ ws⟩, ⟨?_, ?_, ?_⟩, ?_, ?_, ?_, ?_⟩
    · rw [List.map_append]; exact strs_app h1 e3
    · rw [List.length_append]; omega
    · exact fun w hw => (List.mem_append.mp hw).elim (h3 w) (hwo w)
    · exact List.forall_mem_cons.mpr ⟨rfl, List.forall_mem_cons.mpr ⟨rfl, List.forall_mem_nil _⟩⟩
    · exact List.forall_mem_cons.mpr ⟨.head _, fun q hq => .tail _ (List.mem_append_left _ hq)⟩
    · exact fun q hq => .tail _ (List.mem_append_right _ hq)
    · exact hoff
  · rintro c ⟨h1, h2, h3⟩
    exact Ex.ret ((Ep.name (v := .ref D) rfl).go fun v hv => ⟨D, c.vs, c.k, c.ws, hv, .head _, h1, by omega, h3, fun q hq => .tail _ hq⟩)
end Mine

end
section
open Mine
namespace Mine
theorem OkU.wd {w : Wd} (h : OkU w) : w ≠ [] ∧ (∀ c ∈ w, isC c = true) ∧ w.length ≤ 3 ∧ (∀ c ∈ w, c ≠ 39 ∧ c ≠ 10) := by
  have : w ∈ wUse :: goodW.map (·.1) := h.elim (fun e => e ▸ .head _) fun ⟨q, hq, e⟩ => .tail _ (List.mem_map.mpr ⟨q, hq, e⟩)
  revert w
  intro w _ hw
  have key : ∀ w ∈ wUse :: goodW.map (·.1), w ≠ [] ∧ (∀ c ∈ w, isC c = true) ∧ w.length ≤ 3 ∧ (∀ c ∈ w, c ≠ 39 ∧ c ≠ 10) := by decide +kernel
  exact key w hw
noncomputable def spW (w : Wd) (i : Nat) : List Nat := match i % 4 with
  | 0 => w ++ [32]
  | 1 => [39] ++ w ++ [39, 10]
  | 2 => w ++ [35, 117, 115, 101, 32, 50, 10]
  | _ => [92] ++ w ++ [9]
noncomputable def lineT : Nat → List Wd → List (List Nat)
  | _, [] => []
  | i, w :: ws => spW w i :: lineT (i + 1) ws
theorem spW_len (w : Wd) (i : Nat) : (spW w i).length ≤ w.length + 7 := by
  unfold spW
  split <;> simp only [List.length_append, List.length_cons, List.length_nil] <;> omega
theorem sp_spell {w : Wd} {s : List Nat} {ws : List Wd} (i : Nat) (h : OkU w) (hs : Spell s ws) : Spell (spW w i ++ s) (w :: ws) := by
  obtain ⟨h1, h2, _, h4⟩ := h.wd
  refine Spell.word h1 (fun line => ?_) hs
  unfold spW
  split
  · rw [List.append_assoc]; exact run_bare h1 h2 rfl line
  · have := run_quote (s := s) (z := 10) h4 rfl line
    simpa using this
  · have := run_hash (s := s) (a := [117, 115, 101, 32, 50, 10]) h1 h2 (fun s => rfl) line
    simpa using this
  · cases w with
    | nil => exact absurd rfl h1
    | cons c w =>
      have := run_esc (s := s) (z := 9) (h4 c (.head _)).2 (fun d hd => h2 d (.tail _ hd)) rfl line
      simpa using this
theorem line_spell : ∀ (ws : List Wd) (i : Nat), (∀ w ∈ ws, OkU w) → Spell (lineT i ws).flatten ws := by
  intro ws
  induction ws with
  | nil => exact fun _ _ => Spell.end0
  | cons w ws ih =>
    intro i h
    exact sp_spell i (h w (.head _)) (ih (i + 1) fun v hv => h v (.tail _ hv))
theorem line_len : ∀ (ws : List Wd) (i : Nat), (∀ w ∈ ws, OkU w) → ((lineT i ws).map List.length).sum ≤ 10 * ws.length := by
  intro ws
  induction ws with
  | nil => exact fun _ _ => Nat.le_refl _
  | cons w ws ih =>
    intro i h
    have := ih (i + 1) fun v hv => h v (.tail _ hv)
    have h1 := (h w (.head _)).wd.2.2.1
    have h2 := spW_len w i
    show (spW w i).length + ((lineT (i + 1) ws).map List.length).sum ≤ 10 * (ws.length + 1)
    omega
theorem lineT_snoc (w : Wd) : ∀ (ws : List Wd) (i : Nat), lineT i (ws ++ [w]) = lineT i ws ++ [spW w (i + ws.length)] := by
  intro ws
  induction ws with
  | nil => exact fun _ => rfl
  | cons v ws ih =>
    intro i
    show spW v i :: lineT (i + 1) (ws ++ [w]) = spW v i :: (lineT (i + 1) ws ++ [spW w (i + (ws.length + 1))])
    rw [ih (i + 1), show i + 1 + ws.length = i + (ws.length + 1) by omega]
section
variable {x : Fx} {f : Fn} {m : Loc} {n : Led}
theorem Ep.addT {l r : Expr} {pos : Pos} {a b : List Nat} (hl : Ep x f m n l (IsS (T a))) (hr : Ep x f m n r (IsS (T b))) (hz : a.length + b.length ≤ 1000000) : Ep x f m n (.BinOp l .Add r pos) (IsS (T (a ++ b))) :=
  T_app a b ▸ Ep.bin hl hr (Bo.addS (by rw [T_len, T_len]; omega))
end
theorem sd_spec {w : World} {news : Led} {wd : Wd} {i : Nat} {tw ti : Tok} (h : OkU wd) : Con 5 40 w 761 news True [.str (T wd) tw, .int ((i : Nat) : Int) ti] (fun v n' => IsS (T (spW wd i)) v ∧ (∀ q ∈ news, q ∈ n')) NoX := by
  refine' Con.of (binds := [(Str.ofString "word", .str (T wd) tw), (Str.ofString "place", .int ((i : Nat) : Int) ti)]) ?a ?b ?c ?d ?e ?h ?i ?j ?k ?l
  case a => k_is
  case b => k_is
  case c => exact fun s X => BindsTo.of_eq rfl
  case d => exact locs rfl
  case e => exact ⟨by omega, by omega⟩
  case i => exact rfl
  case j => exact rfl
  case k => exact rfl
  case l => decide
  intro _ y hw hc hu hcl
  show Ex y (fnO o761.1 761) _ _ (fb o761.1) _ _
  have hl := h.wd.2.2.1
  refine Ex.ret (Ev.subT (Ev.tup (Er.S (Ep.addT (Ep.nameS rfl) (Ep.strT (l := [32]) (by decide +kernel)) (by simp only [List.length_cons, List.length_nil]; omega)) fun t0 => Er.S (Ep.addT (Ep.addT (Ep.strT (l := [39]) (by decide +kernel)) (Ep.nameS rfl) (by simp only [List.length_cons, List.length_nil]; omega)) (Ep.strT (l := [39, 10]) (by decide +kernel)) (by simp only [List.length_append, List.length_cons, List.length_nil]; omega)) fun t1 => Er.S (Ep.addT (Ep.nameS rfl) (Ep.strT (l := [35, 117, 115, 101, 32, 50, 10]) (by decide +kernel)) (by simp only [List.length_cons, List.length_nil]; omega)) fun t2 => Er.S (Ep.addT (Ep.addT (Ep.strT (l := [92]) (by decide +kernel)) (Ep.nameS rfl) (by simp only [List.length_cons, List.length_nil]; omega)) (Ep.strT (l := [9]) (by decide +kernel)) (by simp only [List.length_append, List.length_cons, List.length_nil]; omega)) fun t3 =>
    Er.nil ⟨Nat.le_of_ble_eq_true rfl, fun D hD => ?_⟩)))
  have hi : Ep y (fnO o761.1 761) [(Str.ofString "place", .int ((i : Nat) : Int) ti), (Str.ofString "word", .str (T wd) tw)] ((D, tupV [.str (T (wd ++ [32])) t0, .str (T ([39] ++ wd ++ [39, 10])) t1, .str (T (wd ++ [35, 117, 115, 101, 32, 50, 10])) t2, .str (T ([92] ++ wd ++ [9])) t3]) :: news) (match nth (fb o761.1) 0 with | .Return (some (.Subscript _ e _)) _ => e | _ => .Constant .none 0 ⟨0, 0, 0, 0⟩) (IsI ((i % 4 : Nat) : Int)) := Ep.bin (Ep.nameI rfl) Ep.int (Bo.modN (by decide))
  have hlt : i % 4 < 4 := Nat.mod_lt _ (by decide)
  have hsp : ∃ t, ([.str (T (wd ++ [32])) t0, .str (T ([39] ++ wd ++ [39, 10])) t1, .str (T (wd ++ [35, 117, 115, 101, 32, 50, 10])) t2, .str (T ([92] ++ wd ++ [9])) t3] : List Value)[i % 4]? = some (.str (T (spW wd i)) t) := by
    unfold spW
    match hj : i % 4, hlt with
    | 0, _ => exact ⟨t0, rfl⟩
    | 1, _ => exact ⟨t1, rfl⟩
    | 2, _ => exact ⟨t2, rfl⟩
    | 3, _ => exact ⟨t3, rfl⟩
  obtain ⟨t, hsp⟩ := hsp
  exact ⟨D, _, _, _, rfl, .head _, hi, hsp, Nat.le_of_ble_eq_true rfl, ⟨t, rfl⟩, fun q hq => .tail _ hq⟩
end Mine

end
section
open Mine
namespace Mine
theorem call_ofC {dd uu : Nat} {w : World} {fa : Addr} {news : Led} {vs : List Value} {R : Value → Led → Prop}
    {name qual : Str} {params : Arguments} {body : List Stmt} {scope : Scope} {dV kV doc pm cdv ct oc : Value} {an od : Option Addr} {osl : Array (Option Value)} {binds : List (Str × Value)}
    (ho : (Mine.KK w.params).lookup fa = some ⟨oc, od, .func (fnOf name qual params body scope dV kV doc pm an cdv ct), osl⟩) (hcd : codeIn (Mine.KK w.params) cdv qual = true)
    (hbind : ∀ s : Shared, (Mine.KK w.params).In s.heap → BindsTo s (fnOf name qual params body scope dV kV doc pm an cdv ct) ⟨vs, []⟩ binds) (hloc : ∀ y ∈ binds, scope.names.lookup y.1 = some .local)
    (hnd : ((cellsFrom 0 scope.names []).map (·.1)).Nodup) (hdu : 0 < dd ∧ 2 < uu) (hco : scope.isCoroutine = false) (hgen : scope.isGenerator = false) (hk : scope.kind = .function)
    {p : Program} {loose : List Str} {mean : ExcName → Option Value} {mg mb : Str → Option Value} {dp un : Nat} {gd : Option (List Code)} {cn : Str} {cs : Scope} {a : Addr} {ccd : Value} {cl : List (Str × Addr)} {outer : List Env} {A₀ : Around} {base h₀ : Heap} {L : Addr} {m : Str → Option Value} {s : Shared} {Q E : Value → Shared → Prop}
    (B : Below A₀ base outer h₀) (F : Fr h₀ L s.heap m) (X : (Mine.KK w.params).In h₀) (N : News h₀ L s.heap news) (T : Top p loose mean mg mb h₀) (hck : cs.kind = .function) (hdp : dp + dd < recursionLimit) (hun : un + uu < cLine)
    (h : ∀ (x : Fx) (cells : Led), x.w = w → x.c = dd - 1 → x.u = uu - 3 → x.cl = cellsFrom (x.L + 1) scope.names [] → CellsAre (fun _ => none) x.cl cells → (∀ q ∈ news, @LT.lt Nat _ q.1 x.L) → (∀ b o, h₀.get? b = some o → x.G.get? b = some o) → Ex x ⟨qual, scope, fa, cdv⟩ binds.reverse (cells ++ news) body (fun fl _ n' => R (retv fl) n') NoX)
    (ret : ∀ (v : Value) (h' : Heap) (tk' : Nat) (n' : Led), R v n' → Fr h₀ L h' m → News h₀ L h' n' → Q v { s with heap := h', toks := tk' }) :
    wpAny (model PySem.Challenge.pw_in0151_02 w) (ktrTop dp un gd cn cs L a ccd cl outer) (call (.ref fa) vs) Q E s := by
  have hall : (binds.all fun y => scope.names.lookup y.1 == some .local || scope.names.lookup y.1 == some .cell) = true := List.all_eq_true.mpr fun y hy => by rw [hloc y hy]; rfl
  refine wpAny_call (code_defC (env := envX cn cs L a ccd cl) (outer := outer) B F X N T rfl rfl hck ho hcd ?_ (hbind s (X.keeps F.keep)) hall hnd ?_ hco hgen hk)
  · show dp < recursionLimit
    omega
  intro G LL h1 tk cells FG F1 N1 Y1 B1 X1 T1 l1
  have hloc' : ∀ p ∈ binds, (envOfC qual scope LL fa cdv).kindOf p.1 = some .local := hloc
  have hC : bindC (envOfC qual scope LL fa cdv).kindOf binds (fun _ => none) = fun _ => none := by
    clear F1 Y1 hbind h
    have : ∀ (l : List (Str × Value)) (m0 : Str → Option Value), (∀ p ∈ l, (envOfC qual scope LL fa cdv).kindOf p.1 = some .local) → bindC (envOfC qual scope LL fa cdv).kindOf l m0 = m0 := by
      intro l
      induction l with
      | nil => intro m0 _; rfl
      | cons q r ih => intro m0 hq; obtain ⟨n, v⟩ := q; unfold bindC; rw [if_pos (hq (n, v) (.head _))]; exact ih m0 fun z hz => hq z (.tail _ hz)
    exact this binds _ hloc'
  rw [hC] at Y1
  refine (h ⟨w, p, loose, mean, mg, mb, dp + 1, un + 3, dd - 1, uu - 3, gd, cellsFrom (LL + 1) scope.names [], envX cn cs L a ccd cl :: outer, _, base, G, LL⟩ cells rfl rfl rfl rfl Y1 l1 FG.keep).run _ _ _ ⟨B1, X1, T1, hk, (by show dp + 1 + (dd - 1) < recursionLimit; omega), (by show un + 3 + (uu - 3) < cLine; omega)⟩ ⟨⟨_, F1, fun y v e => ?_⟩, N1⟩ ?_ (fun _ _ _ _ _ z => z.elim) PassesOwn.leaving
  · rw [bindL_all hloc', e]
  · rintro fl m' n' h' tk' r ⟨⟨mm, F', _⟩, N'⟩
    exact ⟨LL, mm, n', F', N', fun F₂ N₂ => by
      have := ret (retv fl) h' tk' n' r F₂ N₂
      cases fl <;> exact this⟩
section
variable {x : Fx} {f : Fn} {m : Loc} {n : Led} {R : Flow → Loc → Led → Prop} {X : List Value → Led → Prop}
theorem Ep.nameC {y : Str} {pos : Pos} {c : Addr} {o : Obj} {v : Value} (hc : x.cl.lookup y = some c) (hm : (c, o) ∈ n) (ho : o.data = .cell (some v)) (hx : (x.env f).kindOf y = some .cell := by rfl) (hd : (y == ("__debug__" : Str)) = false := by decide) : Ep x f m n (.Name y pos) (· = v) :=
  Tr.finS (V := (· = v)) (fun s mm Q E ok F km N q => nameX_C N hc hm ho (q v s.toks rfl) ok.k hx hd) fun v h => ⟨h, rfl, rfl⟩
theorem Ex.setv {y name : Str} {yp ap pos : Pos} {e : Expr} {r : List Stmt} {a : Addr} (h : Ev x f m n e (fun v m₁ n₁ => Ep x f m₁ n₁ (.Name y yp) (· = .ref a) ∧ Tr x f m₁ n₁ (setAttr (.ref a) name v) (fun _ m' n' => Ex x f m' n' r R X) X) X)
    (hs : swapsWith e (some (.Attribute (.Name y yp) name ap)) pos.line (x.env f) = pure false := by rfl) : Ex x f m n (.Assign [.Attribute (.Name y yp) name ap] e pos :: r) R X :=
  Ex.go <| Tr.mk fun s Q E ok st q ee po => plainObj_wpAny_Assign_Attribute (h.run s _ E ok st (fun v m₁ n₁ h1 t1 hv st1 => by
    refine hv.1.use ok st1 (fun v0 h2 t2 hv0 st2 => ?_) po
    subst hv0
    exact hv.2.run _ _ E ok st2 (fun _ m' n' h' tk' z st3 => q _ _ _ h' tk' ⟨rfl, z⟩ st3) ee po) ee po) hs
theorem Ev.lamb {params : Arguments} {body : Expr} {scope : Scope} {pos : Pos} {P c : Addr} {ps : Array Value} {rest : Led} {clos : List (Str × Addr)} {R : Value → Loc → Led → Prop} (C : CodeHd x.G c P) (hcd : f.ccd = .ref c) (hn : ∀ q ∈ (P, tabObj ps) :: rest, q ∈ n) (hne : ∀ q ∈ rest, q.1 ≠ P) (ht : TriplesOk ps.toList) (hnf : codeAmong pos ps.toList = none)
    (hcl : closureFor scope (x.env f) = pure clos) (hdef : defaultsOf params (x.env f) = ([], []))
    (h : ∀ g c' oc vs t pm ct ps', ps' = ps ++ #[rawInt pos.line, rawInt pos.col, .ref c'] → oc.data = .fields vs → vs[1]? = some (.str ((x.env f).qual ++ "<lambda>") t) → (∀ q ∈ (P, tabObj ps) :: rest, @LT.lt Nat _ q.1 c') → @LT.lt Nat _ c' g → R (.ref g) m ((g, kla_obj "<lambda>" ((x.env f).qual ++ "<lambda>") params body scope clos pm c' ct) :: (c', oc) :: (P, tabObj ps') :: rest)) :
    Ev x f m n (.Lambda params body scope pos) R X := Tr.mk fun s Q E ok st q ee po => by
  obtain ⟨⟨mm, F, km⟩, N⟩ := st
  refine kla_eval hdef (kla_nest F (fun q hq => N q (hn q hq)) ok.T C hcd (UpdF.head hne) ht hnf hcl fun g c' oc vs t ct h' tk F' N' h1 h2 h3 h4 => ?_)
  exact q _ m _ h' tk (h g c' oc vs t _ ct _ rfl h1 h2 h3 h4) ⟨⟨mm, F', km⟩, N'⟩
end
end Mine

end
section
open Mine
namespace Mine
section
variable {x : Fx} {f : Fn} {m : Loc} {n : Led} {R : Value → Loc → Led → Prop} {X : List Value → Led → Prop}
theorem Ev.slG {y : Str} {yp p cp pos : Pos} {c i : Nat} {D : Addr} {vs : List Value} {ns : List Int} (hy : look m y = some (.ref D)) (hl : x.G.IsList D vs.toArray) (hI : IntsAre vs ns) (hz : vs.length ≤ 100000)
    (h : ∀ D' ws, IntsAre ws (ns.take i) → (∀ q ∈ n, @LT.lt Nat _ q.1 D') → R (.ref D') m ((D', listOf (List.toArray ws) 0) :: n)) (hx : (x.env f).kindOf y = some .local := by rfl) (hd : (y == ("__debug__" : Str)) = false := by decide)
    (hs : ∀ b, subscripted (.Slice Option.none (some (.Constant (.int (i : Nat)) c cp)) Option.none p) false (.ref D) (.ref b) = operate [.ref b, .ref D] (getItem (.ref D) (.ref b)) := by intros; with_unfolding_all rfl)
    (ht : ∀ r, letTemporaryGo (.Name y yp) (.ref D) r = pure () := by intros; with_unfolding_all rfl) : Ev x f m n (.Subscript (.Name y yp) (.Slice Option.none (some (.Constant (.int (i : Nat)) c cp)) Option.none p) pos) R X :=
  Tr.mk fun s Q E ok st q ee po => Subscript_ ((Ep.name hy hx hd).use ok st (fun v0 h1 t1 e0 st1 => by
    subst e0
    refine wpAny_Slice (evalPart_none_step (evalPart_some_step (wpAny_Constant_int (evalPart_none_step ?_))))
    obtain ⟨⟨mm, F, km⟩, N⟩ := st1
    have hl' : h1.IsList D vs.toArray := by
      obtain ⟨o, e, r⟩ := hl
      exact ⟨o, F.keep _ _ e, r⟩
    have hu : IntsAre (slicePick vs.toArray Option.none (some ((i : Nat) : Int)) Option.none).toList (ns.take i) := kmk_upto hI (by omega)
    exact kmk_slice F N hl' .none (.int (i : Nat) _) (fun D' h' F' N' hlt => q _ _ _ h' _ (h D' _ hu hlt) ⟨⟨mm, F', km⟩, by rw [Array.toArray_toList]; exact N'⟩) (hs _) ht (by rw [sizeLine_eq, List.size_toArray]; omega)) po)
end
section
variable {x : Fx} {f : Fn} {m : Loc} {n : Led} {R : Flow → Loc → Led → Prop} {X : List Value → Led → Prop}
theorem Ex.forV {σ : Type} {y : Str} {yp pos : Pos} {iter : Expr} {body r : List Stmt}
    (hi : Ev x f m n iter (fun v m₁ n₁ => ∃ (l : Addr) (vs : List Value) (nn : Nat) (ps : σ → Loc) (led : σ → Led) (P : Nat → σ → Prop) (c₀ : σ), v = .ref l ∧ (∀ i c, P i c → (l, listOf vs.toArray nn) ∈ led c) ∧ (∀ p ∈ ps c₀, look m₁ p.1 = some p.2) ∧ (∀ q ∈ led c₀, q ∈ n₁) ∧ P 0 c₀ ∧
      (∀ i v c own, vs[i]? = some v → OwnOff own ((led c).map (·.1)) → P i c → Ex x f ((y, v) :: ps c) (led c ++ own) body (FPost x f ps led P i own r R X) X) ∧ (∀ c, P vs.length c → Ex x f (ps c) (led c) r R X)) X) (hx : (x.env f).kindOf y = some .local := by rfl) (hs : ∀ v, foldedSetIterable iter (x.env f) v = pure v := by intro _; rfl) :
    Ex x f m n (.For (.Name y yp) iter body [] pos :: r) R X := by
  refine Ex.st (R₁ := fun fl m₁ n₁ => match fl with | .next => Ex x f m₁ n₁ r R X | fl => R fl m₁ n₁) (Tr.mk fun s Q E ok st q ee po => ?_) (fun _ _ h => h) (fun fl _ _ hne h => by cases fl <;> first | exact absurd rfl hne | exact h)
  have st0 := st
  obtain ⟨⟨mm, F, km⟩, N⟩ := st
  refine For_invVF (h₀ := x.G) F hx (by have := ok.k; show ((f.cs.kind == .class) || ((f.cs.kind == .module) && _)) = false; rw [this]; rfl) (hi.run s _ E ok st0 ?_ ee po) hs po
  rintro v m₀ n₀ h₀ t₀ ⟨l, vs, nn, ps, led, P, c₀, rfl, hl, hm, hn, hp, turn, done⟩ ⟨⟨mm₀, F₀, km₀⟩, N₀⟩
  refine kdl_iter (news := led c₀) (fun i mm nx => ∃ c : σ, nx = led c ∧ (∀ p ∈ ps c, mm p.1 = some p.2) ∧ P i c) rfl (hl 0 c₀ hp) F₀ (fun q hq => N₀ q (hn q hq)) ⟨c₀, rfl, fun p hp => km₀ _ _ (hm p hp), hp⟩ ?_ ?_
  · rintro i v m₁ nx h tk own hv hoff _ ⟨c, rfl, hk, hP⟩ F₁ N₁
    refine (turn i v c own hv hoff hP).run _ _ E ok ⟨⟨_, F₁, fun z u e => ?_⟩, N₁⟩ ?_ (fun e h' tk' es n' hx hz => ee e h' tk' es n' hx hz) po
    · rw [look_cons] at e
      dsimp only at e ⊢
      split at e
      · next hz => rw [if_pos hz]; exact e
      · next hz => rw [if_neg hz]; exact look_of hk z u e
    · intro fl m₂ n₂ h₂ t₂ hr st₂
      cases fl with
      | ret v => exact q _ m₂ n₂ h₂ t₂ hr st₂
      | brk => exact q _ m₂ n₂ h₂ t₂ hr st₂
      | next =>
        obtain ⟨c', h3, h5, h6, h7, h8⟩ := hr
        obtain ⟨⟨mm₂, F₂, k₂⟩, N₂⟩ := st₂
        exact InvEndG.intro F₂ N₂ ⟨hl _ _ h3, c', rfl, fun p hp => k₂ _ _ (h5 p hp), h3⟩ h8 h6 h7
      | cont =>
        obtain ⟨c', h3, h5, h6, h7, h8⟩ := hr
        obtain ⟨⟨mm₂, F₂, k₂⟩, N₂⟩ := st₂
        exact InvEndG.intro F₂ N₂ ⟨hl _ _ h3, c', rfl, fun p hp => k₂ _ _ (h5 p hp), h3⟩ h8 h6 h7
  · rintro m₁ nx h tk ⟨c, rfl, hk, hP⟩ F₁ N₁
    exact q .next _ _ h tk (done c hP) ⟨⟨m₁, F₁, look_of hk⟩, N₁⟩
end
theorem Bo.mod5 {a : Int} {b : Nat} (hb : b ≠ 0) : ∀ u v, IsI a u → IsI (b : Nat) v → Fi (binaryOp .Mod u v) (IsI ((a.fmod b).toNat : Nat)) := by
  rintro _ _ ⟨t, rfl⟩ ⟨t', rfl⟩ w A E s Q _ q
  refine mod_int (by omega) ?_
  rw [show (a.fmod (b : Int)) = (((a.fmod b).toNat : Nat) : Int) by rw [Int.toNat_of_nonneg (Int.fmod_nonneg_of_pos _ (by omega))]]
  exact q _ _ ⟨_, rfl⟩
theorem fmod_lt {a : Int} {b : Nat} (hb : b ≠ 0) : (a.fmod b).toNat < b := by
  have := Int.fmod_lt_of_pos a (b := (b : Int)) (by omega)
  have := Int.fmod_nonneg_of_pos a (b := (b : Int)) (by omega)
  omega
theorem Bo.mul3 {a : Nat} : ∀ u v, IsI a u → IsI 31627 v → Fi (binaryOp .Mult u v) (IsI ((a * 31627 : Nat) : Int)) := by
  rintro _ _ ⟨t, rfl⟩ ⟨t', rfl⟩ w A E s Q _ q
  refine PyProof.Rows.mul_int ?_ (PySem.IntMulOk.of_right (by decide))
  rw [show ((a : Int) * 31627) = ((a * 31627 : Nat) : Int) by omega]
  exact q _ _ ⟨_, rfl⟩
noncomputable abbrev lawF (fa : Addr) (fc : Value) : Fn := ⟨(fnO o818.1 818).cn, (fnO o818.1 818).cs, fa, fc⟩
noncomputable def lawW : List Wd := [[55], wUse, wX, [50], [52, 48], [49], [51], [48], [56], [53], [49], [54], [51], wUse, [51], [48]]
noncomputable def lawZ : List Str := [Str.ofString "7", Str.ofString "use", Str.ofString "x", Str.ofString "2", Str.ofString "40", Str.ofString "1", Str.ofString "3", Str.ofString "0", Str.ofString "8", Str.ofString "5", Str.ofString "1", Str.ofString "6", Str.ofString "3", Str.ofString "use", Str.ofString "3", Str.ofString "0"]
theorem lawZ_eq : lawZ = lawW.map T := by decide +kernel
theorem lawW_ok : ∀ w ∈ lawW, OkU w := by
  intro w hw
  have : w = wUse ∨ w ∈ goodW.map (·.1) := by
    revert w
    decide +kernel
  exact this.imp id fun h => by obtain ⟨q, hq, e⟩ := List.mem_map.mp h; exact ⟨q, hq, e⟩
structure LwS where
  D : Addr
  vs : List Value
  k : Nat
  ws : List Wd
  oc : Obj
theorem g_wd : ∀ Q, nsIn (Mine.KK Q) mainGlobals (Str.ofString "_law_words") = some (some (.ref 754)) := by intro Q; kernel_rfl
theorem k_wd : ∀ Q, keepIn (Mine.KK Q) (.ref 754) = true := by intro Q; kernel_rfl
theorem law_loop {fa : Addr} {fc : Value} {x : Fx} {R : Flow → Loc → Led → Prop} {X : List Value → Led → Prop} (hc : 500 ≤ x.c) (hu : 5000 ≤ x.u) (hcl : x.cl = [(Str.ofString "words", x.L + 1)]) {l : Addr} {vs : List Value} {ns : List Int} (hl : x.G.IsList l vs.toArray) (hI : IntsAre vs ns) (hlen : ns.length ≤ 63) {o : Obj} (ho : o.data = .cell none) (h7 : @LT.lt Nat _ 782 x.L)
    (K : ∀ (m : Loc) (D : Addr) (wvs : List Value) (k : Nat) (ws : List Wd) (o' : Obj), o'.data = .cell (some (.ref D)) → StrsAre wvs (ws.map T) → (∀ w ∈ ws, OkU w) → ws.length ≤ 76 → @LT.lt Nat _ (x.L + 1) D → Ex x (lawF fa fc) m [(x.L + 1, o'), (D, listOf wvs.toArray k), (782, tabObj #[])] ((fb o818.1).drop 2) R X) :
    Ex x (lawF fa fc) [(Str.ofString "script", .ref l)] [(x.L + 1, o), (782, tabObj #[])] (fb o818.1) R X := by
  have h7' : @LT.lt Nat _ 782 (x.L + 1) := Nat.lt_succ_of_lt h7
  refine Ex.asC (c := x.L + 1) (by rw [hcl]; rfl) (Ev.lst (Er.csts _ lawZ _ (by kernel_rfl) fun vs0 hvs0 => ⟨by have := hvs0.length; rw [this]; decide, fun D0 hD0 => ?_⟩))
  have d0 : @LT.lt Nat _ (x.L + 1) D0 := hD0 _ (.head _)
  refine ⟨o, _, [(D0, listOf vs0.toArray 0), (782, tabObj #[])], List.forall_mem_cons.mpr ⟨.tail _ (.head _), List.forall_mem_cons.mpr ⟨.head _, List.forall_mem_cons.mpr ⟨.tail _ (.tail _ (.head _)), List.forall_mem_nil _⟩⟩⟩, List.forall_mem_cons.mpr ⟨Nat.ne_of_gt d0, List.forall_mem_cons.mpr ⟨Nat.ne_of_lt h7', List.forall_mem_nil _⟩⟩, ho, fun o' ho' => ?_⟩
  refine Ex.forV (σ := LwS) (Ev.slG (i := 3) rfl hl hI (by have := hI.length; omega) fun Dl ws3 hI3 hDl => ?_)
  have dl : @LT.lt Nat _ (x.L + 1) Dl := hDl _ (.head _)
  have hl3 : ws3.length ≤ 3 := by rw [hI3.length]; exact List.length_take_le _ _
  refine ⟨Dl, ws3, 0, fun _ => [], fun c => [(x.L + 1, c.oc), (c.D, listOf c.vs.toArray c.k), (Dl, listOf ws3.toArray 0), (782, tabObj #[])], fun i c => c.oc.data = .cell (some (.ref c.D)) ∧ StrsAre c.vs (c.ws.map T) ∧ c.ws.length ≤ 16 + 20 * i ∧ (∀ w ∈ c.ws, OkU w) ∧ @LT.lt Nat _ (x.L + 1) c.D, ⟨D0, vs0, 0, lawW, o'⟩, rfl, fun i c _ => .tail _ (.tail _ (.head _)), List.forall_mem_nil _,
    List.forall_mem_cons.mpr ⟨.tail _ (.head _), List.forall_mem_cons.mpr ⟨.tail _ (.tail _ (.head _)), List.forall_mem_cons.mpr ⟨.head _, List.forall_mem_cons.mpr ⟨.tail _ (.tail _ (.tail _ (.head _))), List.forall_mem_nil _⟩⟩⟩⟩, ⟨ho', lawZ_eq ▸ hvs0, Nat.le_refl _, lawW_ok, d0⟩, ?_, ?_⟩
  · rintro i v c own hv hoff ⟨h1, h2, h3, h4, h5⟩
    obtain ⟨z, tz, rfl⟩ : ∃ (z : Int) (t : Tok), v = Value.int z t := by
      clear hl3 hoff h3
      have : ∀ (us : List Value) (ks : List Int), IntsAre us ks → ∀ (i : Nat) (v : Value), us[i]? = some v → ∃ (z : Int) (t : Tok), v = Value.int z t := by
        intro us ks h
        induction h with
        | nil => intro i v e; cases e
        | cons n t _ ih => intro i v e; cases i with | zero => exact ⟨n, t, by simpa using e.symm⟩ | succ i => exact ih i v e
      exact this _ _ hI3 i v hv
    have hi3 : i < 3 := Nat.lt_of_lt_of_le (List.getElem?_eq_some_iff.mp hv).1 hl3
    have hlw : c.vs.length = c.ws.length := by have := h2.length; rw [List.length_map] at this; exact this
    have e5 : Builtin.Int.intBits ((10 : Nat) : Int) = 4 := by decide +kernel
    refine Ex.asC (c := x.L + 1) (by rw [hcl]; rfl) (Ev.catL (D := c.D) (vs := c.vs) (k := c.k) (Ep.nameC (c := x.L + 1) (by rw [hcl]; rfl) (.head _) h1) (Ev.dcall g_wd k_wd (Er.I (i := (((z.fmod ((10 ^ 5 : Nat) : Int)).toNat * 31627 % 10 ^ 5 : Nat) : Int)) (Ep.bin (Ep.bin (Ep.bin (Ep.intI (Ep.nameI rfl)) (Ep.bin Ep.int Ep.int (Bo.powN (a := 10) (b := 5) (by rw [e5]; decide))) (Bo.mod5 (by decide))) Ep.int Bo.mul3) (Ep.bin Ep.int Ep.int (Bo.powN (a := 10) (b := 5) (by rw [e5]; decide))) (Bo.modN (by decide))) fun t => Er.nil (Tr.con (wd_spec (news := [(x.L + 1, c.oc), (c.D, listOf c.vs.toArray c.k), (Dl, listOf ws3.toArray 0), (782, tabObj #[])] ++ own)) trivial (fun _ h => h) (by omega) (by omega) (fun v n' hv => ⟨n', fun _ h => h, ?_⟩) (fun _ _ z => z.elim)))))
    obtain ⟨D2, vs2, k2, ws2, rfl, g1, g2, g3, g4, hsub⟩ := hv
    have hl2 : vs2.length = ws2.length := by have := g2.length; rw [List.length_map] at this; exact this
    refine ⟨D2, vs2, k2, rfl, hsub _ (.tail _ (.head _)), g1, by omega, fun D' hD' => ⟨c.oc, _, (D', listOf (c.vs ++ vs2).toArray 0) :: (Dl, listOf ws3.toArray 0) :: (782, tabObj #[]) :: own, ?_, ?_, h1, fun o2 ho2 => Ex.nil ⟨⟨D', c.vs ++ vs2, 0, c.ws ++ ws2, o2⟩, ⟨ho2, ?_, ?_, ?_, ?_⟩, List.forall_mem_nil _, ?_, ?_, ?_⟩⟩⟩
    · exact List.forall_mem_cons.mpr ⟨.tail _ (hsub _ (.head _)), List.forall_mem_cons.mpr ⟨.head _, List.forall_mem_cons.mpr ⟨.tail _ (hsub _ (.tail _ (.tail _ (.head _)))), List.forall_mem_cons.mpr ⟨.tail _ (hsub _ (.tail _ (.tail _ (.tail _ (.head _))))), fun q hq => .tail _ (hsub _ (List.mem_append_right _ hq))⟩⟩⟩⟩
    · exact List.forall_mem_cons.mpr ⟨Nat.ne_of_gt (hD' _ (hsub _ (.head _))), List.forall_mem_cons.mpr ⟨Nat.ne_of_gt dl, List.forall_mem_cons.mpr ⟨Nat.ne_of_lt h7', fun q hq => hoff q hq _ (.head _)⟩⟩⟩
    · rw [List.map_append]; exact strs_app h2 g2
    · rw [List.length_append]; omega
    · exact fun w hw => (List.mem_append.mp hw).elim (h4 w) (g4 w)
    · exact hD' _ (hsub _ (.head _))
    · exact List.forall_mem_cons.mpr ⟨.head _, List.forall_mem_cons.mpr ⟨.tail _ (.head _), List.forall_mem_cons.mpr ⟨.tail _ (.tail _ (.head _)), List.forall_mem_cons.mpr ⟨.tail _ (.tail _ (.tail _ (.head _))), List.forall_mem_nil _⟩⟩⟩⟩
    · exact fun q hq => .tail _ (.tail _ (.tail _ (.tail _ hq)))
    · intro q hq b hb
      rcases List.mem_cons.mp hb with rfl | hb
      · exact hoff q hq _ (.head _)
      rcases List.mem_cons.mp hb with rfl | hb
      · exact Nat.ne_of_lt (hD' q (hsub q (List.mem_append_right _ hq)))
      · exact hoff q hq b (.tail _ (.tail _ hb))
  · rintro c ⟨h1, h2, h3, h4, h5⟩
    exact Ex.less (n' := [(x.L + 1, c.oc), (c.D, listOf c.vs.toArray c.k), (782, tabObj #[])]) (List.forall_mem_cons.mpr ⟨.head _, List.forall_mem_cons.mpr ⟨.tail _ (.head _), List.forall_mem_cons.mpr ⟨.tail _ (.tail _ (.tail _ (.head _))), List.forall_mem_nil _⟩⟩⟩) (K _ c.D c.vs c.k c.ws c.oc h1 h2 h4 (by omega) h5)
end Mine

end
section
open Mine
namespace Mine
open LCg in
section
variable {prog : Program} {w : World} {A : Around} {E : Value → Shared → Prop} {s : Shared} {h₀ : Heap} {L : Addr} {m : Str → Option Value} {env : Env} {elt : PySem.Expr} {x x₂ : Str} {scope : Scope} {cl : List (Str × Addr)} {S : List (Addr × Obj) → Prop} {P : Nat → Value → Prop} {Fin : List Value → List (Addr × Obj) → Prop} {n : Nat} {news : List (Addr × Obj)}
theorem compEnd_mono {s₁ : Shared} {I C D : Addr} {oI oC oD : Obj} {r r' : Value → List (Addr × Obj) → Prop} {y : Value} {s₂ : Shared} (hr : ∀ y n, r y n → r' y n) (h : LCg.CompEnd h₀ L m s₁ I oI C oC D oD S r y s₂) : LCg.CompEnd h₀ L m s₁ I oI C oC D oD S r' y s₂ := by
  obtain ⟨h', tk, n', e, F, N, off, hS, hr'⟩ := h
  exact ⟨h', tk, n', e, F, N, off, hS, hr _ _ hr'⟩
theorem comp_inv (J : Nat → List Value → List (Addr × Obj) → Prop) (h0 : J 0 [] news)
    (step : ∀ i ys nw, i < n → J i ys nw → ∀ v I oI C oC D m₂ h tk (E' : Value → Shared → Prop), P i v → LCg.NsObj oC m₂ → m₂ x = some v → Fr h₀ L h m → News h₀ L h ((I, oI) :: (C, oC) :: (D, LCg.lst ys) :: nw) → LCg.Off3 I C D nw → ((@Ne Nat I C) ∧ (@Ne Nat I D) ∧ (@Ne Nat C D)) →
      wpAny (model prog w) A (eval elt (compEnvC scope cl C env)) (LCg.CompEnd h₀ L m { s with heap := h, toks := tk } I oI C oC D (LCg.lst ys) S (fun y nw' => J (i + 1) (ys ++ [y]) nw')) E' { s with heap := h, toks := tk })
    (fin : ∀ ys nw, J n ys nw → Fin ys nw) : LCg.CompRest prog w A h₀ L m env elt x scope cl s S P Fin n 0 [] news := by
  have key : ∀ (j i : Nat) (ys : List Value) (nw : List (Addr × Obj)), i + j = n → J i ys nw → LCg.CompRest prog w A h₀ L m env elt x scope cl s S P Fin j i ys nw := by
    intro j
    induction j with
    | zero =>
      intro i ys nw hi hJ
      have e : i = n := by omega
      subst e
      exact LCg.CompRest.zero (fin ys nw hJ)
    | succ j ih =>
      intro i ys nw hi hJ
      refine LCg.CompRest.succ ?_
      intro v I oI C oC D m₂ h tk E' hv hC hx F N off ne
      exact wpAny_mono (step i ys nw (by omega) hJ v I oI C oC D m₂ h tk E' hv hC hx F N off ne) (fun y s₂ hq => compEnd_mono (fun y n' hJ' => ih (i + 1) _ _ (by omega) hJ') hq) fun _ _ e => e
  exact key n 0 [] news (by omega) h0
end
end Mine

end
section
open Mine
namespace Mine
open LCg in
section
theorem g_sd : ∀ Q, nsIn (Mine.KK Q) mainGlobals (Str.ofString "_law_spelled") = some (some (.ref 761)) := by intro Q; kernel_rfl
theorem k_sd : ∀ Q, keepIn (Mine.KK Q) (.ref 761) = true := by intro Q; kernel_rfl
theorem off1_mem {D : Addr} : ∀ {l : List (Addr × Obj)}, Off1 D l → ∀ p ∈ l, p.1 ≠ D := by
  intro l
  induction l with
  | nil => exact fun _ p hp => nomatch hp
  | cons a l ih => exact fun h => List.forall_mem_cons.mpr ⟨h.1, ih h.2⟩
theorem sp_comp {fa : Addr} {fc : Value} {x : Fx} {m : Loc} {n : Led} {X : List Value → Led → Prop} {R : Value → Loc → Led → Prop} (hc : 10 ≤ x.c) (hu : 100 ≤ x.u) (hcl : x.cl = [(Str.ofString "words", x.L + 1)]) {D : Addr} {wvs : List Value} {k : Nat} {ws : List Wd} {o' : Obj} (hm : (x.L + 1, o') ∈ n) (ho : o'.data = .cell (some (.ref D))) (hD : (D, listOf wvs.toArray k) ∈ n) (hs : StrsAre wvs (ws.map T)) (hok : ∀ w ∈ ws, OkU w) (hlen : ws.length ≤ 76)
    (hR : ∀ Dc ys k', StrsAre ys ((lineT 0 ws).map T) → (∀ q ∈ n, q.1 ≠ Dc) → R (.ref Dc) m ((Dc, listOf (List.toArray ys) k') :: n)) :
    Ev x (lawF fa fc) m n (match nth (fb o818.1) 2 with | .Assign _ (.Call _ (e :: _) _ _) _ => e | _ => .Constant .none 0 ⟨0, 0, 0, 0⟩) R X := Tr.mk fun s Q E ok st q ee po => by
  have hwl : wvs.length = ws.length := by have := hs.length; rw [List.length_map] at this; exact this
  have st0 := st
  obtain ⟨⟨mm, F, km⟩, N⟩ := st
  refine ListComp_U (cl := [(Str.ofString "words", x.L + 1)]) F (by show closureFor _ (envX _ _ _ _ _ x.cl) = _; rw [hcl]; rfl) (by decide) rfl (by decide) rfl ?_
  have T0 := topRead_of ok.T
  refine Call_ (nameX_B F ok.X T0 (g_range x.w.params) boot_range (by decide) ?_ ok.k rfl (by decide)) rfl
  refine PyProof.Rows.callWith_type1 (args_cons ?_ rfl) rfl rfl
  refine Call_ (nameX_B F ok.X T0 (g_len x.w.params) b_len (by decide) ?_ ok.k rfl (by decide)) rfl
  refine PyProof.Rows.callWith_builtin1 (args_cons (nameX_C (c := x.L + 1) N (by rw [hcl]; rfl) hm ho ?_ ok.k rfl (by decide)) rfl) rfl rfl
  refine args_nil (len_list (items := wvs.toArray) ⟨_, (N _ hD).1, rfl, _, rfl⟩ (by rw [List.size_toArray]; omega) ?_)
  rw [List.size_toArray]
  refine args_nil (call_range_1 ?_)
  have hsz : Builtin.Range.rangeSize 0 ((wvs.length : Nat) : Int) 1 = ((wvs.length : Nat) : Int) := by rw [rangeSize_one]; split <;> omega
  refine CompSrc.range (news := n) rfl (F.push _) (fun z hz => ⟨Heap.get?_push_of_some _ (N z hz).1, (N z hz).2⟩) (IsRange.new ..) (small_one (by omega) (by omega) (by omega) (by omega)) hsz (by rw [sizeLine_eq]; omega) fun g => ?_
  refine comp_inv (fun i ys nw => nw = n ∧ StrsAre ys ((lineT 0 (ws.take i)).map T)) ⟨rfl, .nil⟩ ?_ ?_
  · rintro i ys nw hi ⟨rfl, hJ⟩ v I oI C oC D2 m₂ h tk E' ⟨tv, rfl⟩ hC hx F₂ N₂ off ne
    have hi' : i < ws.length := hwl ▸ hi
    have e0 : (0 : Int) + (i : Int) = ((i : Nat) : Int) := by omega
    rw [e0] at hx
    have Nn : News x.G x.L h nw := fun z hz => N₂ z (.tail _ (.tail _ (.tail _ hz)))
    have hns : h.Ns C m₂ := hC.ns (N₂ _ (.tail _ (.head _))).1
    obtain ⟨tw, hw⟩ : ∃ t, wvs[i]? = some (.str (T ws[i]) t) := by
      have : ∀ (us : List Value) (zs : List Str), StrsAre us zs → ∀ (i : Nat) (z : Str), zs[i]? = some z → ∃ t, us[i]? = some (.str z t) := by
        intro us zs h
        induction h with
        | nil => intro i z e; cases e
        | cons y t _ ih => intro i z e; cases i with | zero => exact ⟨t, by simpa using e⟩ | succ i => exact ih i z e
      exact this _ _ hs i _ (by rw [List.getElem?_map, List.getElem?_eq_getElem hi']; rfl)
    have hwo : OkU ws[i] := hok _ (List.getElem_mem hi')
    refine Call_ (PySem.Calls.Name_function_global rfl rfl (PySem.Calls.loadGlobal_global (env := compEnvC _ _ C (x.env (lawF fa fc))) (T0.g.keeps F₂.keep) (mg_of ok.X T0.g (g_sd x.w.params)) ?_) (by decide)) rfl
    refine callWith_K ok.X (k_sd _) (args_cons (Subscript_ (ldCellK (c := x.L + 1) rfl ⟨o', Nn.get hm, ho⟩ (ldVarK hns hx (kim_list Nn hD rfl rfl (by omega) (by omega) (x := .str (T ws[i]) tw) (by simpa using hw) (args_cons (ldVarK hns hx (args_nil ⟨ok.X.keeps F₂.keep, ?_⟩) rfl rfl (by decide)) rfl)) rfl rfl (by decide)) rfl rfl (by decide))) rfl) rfl rfl
    have hd1 := ok.hd
    have hd2 := ok.hu
    refine sd_spec hwo x.p x.loose x.mean x.mg x.mb x.dp x.un x.gd (lawF fa fc).cn (lawF fa fc).cs (lawF fa fc).a (lawF fa fc).ccd x.cl x.outer x.A₀ x.base x.G x.L mm _ _ _ ok.B F₂ ok.X N₂ ok.T ok.k trivial (by omega) (by omega) (fun v h' tk' n' hv F' N' => ?_) (fun _ _ _ _ _ _ _ z => z.elim)
    obtain ⟨⟨tv, rfl⟩, hsub⟩ := hv
    refine CompEnd.intro F' N' nw hsub off trivial ⟨rfl, ?_⟩
    have e : ws.take (i + 1) = ws.take i ++ [ws[i]] := by rw [List.take_add_one, List.getElem?_eq_getElem hi']; rfl
    rw [e, lineT_snoc, List.map_append, List.length_take, Nat.zero_add, Nat.min_eq_left (Nat.le_of_lt hi')]
    exact strs_app hJ (.cons _ tv .nil)
  · rintro ys nw ⟨rfl, hJ⟩
    rw [hwl, List.take_length] at hJ
    intro Dc h tk F₂ N₂ off
    exact q _ m _ h tk (hR Dc ys ys.length hJ fun z hz => off1_mem off z hz) ⟨⟨mm, F₂, km⟩, N₂⟩
end
end Mine

end
section
open Mine
namespace Mine
open PySem.SeqAt
section
variable {A : Around} {s : Shared}
theorem eqAt_str (x : Str) (t u : Tok) : EqAt A s (.str x t) (.str x u) true := by
  have := EqAt.str_str (A := A) (s := s) x t x u
  rwa [beq_self_eq_true] at this
theorem eqAt_tup2 {d d' : Addr} {a b a' b' : Value} (h : s.heap.get? d = some (tupV [a, b])) (h' : s.heap.get? d' = some (tupV [a', b'])) (hu : A.units + 4 < cLine)
    (e1 : EqAt A.in1 s a a' true) (e2 : EqAt A.in1 s b b' true) : EqAt A s (.ref d) (.ref d') true := by
  by_cases e : d = d'
  · rw [e]; exact EqAt.same _
  · have := RcAt.tuples (A := A) (s := s) (l := d) (b := d') (items := #[a, b]) (items2 := #[a', b']) (e := fun _ => true) ⟨_, h, rfl, _, rfl⟩ ⟨_, h', rfl, _, rfl⟩ (by omega) (fun j h1 h2 => by
      match j, h1, h2 with
      | 0, _, _ => exact e1
      | 1, _, _ => exact e2
      | j + 2, h1, _ => exact absurd h1 (by simp))
    exact EqAt.of_refs e this
theorem nm_eq {nm : Option Wd} {v v' : Value} (h : NmV nm v) (h' : NmV nm v') : EqAt A s v v' true := by
  cases nm with
  | none => cases h; cases h'; exact EqAt.same _
  | some w => obtain ⟨t, rfl⟩ := h; obtain ⟨t', rfl⟩ := h'; exact eqAt_str _ _ _
theorem wv_eq {h₀ : Heap} {L : Addr} {n : Led} (N : News h₀ L s.heap n) {v v' : Value} {r : Res} (h : WvIn n v r) (h' : WvIn n v' r) (hu : A.units + 8 < cLine) : EqAt A s v v' true := by
  cases r with
  | word w => obtain ⟨t, rfl⟩ := h; obtain ⟨t', rfl⟩ := h'; exact eqAt_str _ _ _
  | none => cases h; cases h'; exact EqAt.same _
  | bad i => obtain ⟨d, t1, t2, rfl, hd⟩ := h; obtain ⟨d', t1', t2', rfl, hd'⟩ := h'; exact eqAt_tup2 (N _ hd).1 (N _ hd').1 (by omega) (eqAt_str _ _ _) (eqAt_str _ _ _)
theorem rows_get {n : Led} {vs : List Value} {rows : List Row} (h : RowsIn n vs rows) : ∀ (i : Nat) (v : Value), vs[i]? = some v → ∃ (a : Addr) (wv nv : Value) (r : Res) (nm : Option Wd), v = .ref a ∧ rows[i]? = some (r, nm) ∧ (a, tupV [wv, nv]) ∈ n ∧ WvIn n wv r ∧ NmV nm nv := by
  induction h with
  | nil => intro i v e; simp at e
  | @snoc vs rows D wv nv r nm hr ha hw hn ih =>
    intro i v e
    have hl := hr.length
    by_cases hi : i < vs.length
    · rw [List.getElem?_append_left hi] at e
      obtain ⟨a', wv', nv', r', nm', h1, h2, h3, h4, h5⟩ := ih i v e
      exact ⟨a', wv', nv', r', nm', h1, by rw [List.getElem?_append_left (by omega)]; exact h2, h3, h4, h5⟩
    · have hi' : i = vs.length := by
        have : i < (vs ++ [Value.ref D]).length := (List.getElem?_eq_some_iff.mp e).1
        simp at this
        omega
      subst hi'
      have e2 : v = .ref D := by simpa using e.symm
      exact ⟨D, wv, nv, r, nm, e2, by rw [hl]; simp, ha, hw, hn⟩
theorem eq_rows {prog : Program} {w : World} {E : Value → Shared → Prop} {Q : Value → Shared → Prop} {h₀ : Heap} {L : Addr} {n : Led} (N : News h₀ L s.heap n) {l l' : Addr} {vs vs' : List Value} {k k' : Nat} {rows : List Row} (hl : (l, listOf vs.toArray k) ∈ n) (hl' : (l', listOf vs'.toArray k') ∈ n)
    (h : RowsIn n vs rows) (h' : RowsIn n vs' rows) (hu : A.units + 16 < cLine) (hQ : Q (.bool true) s) : wpAny (model prog w) A (compareOp .Eq (.ref l) (.ref l')) Q E s := by
  have hlen : vs.length = vs'.length := h.length.trans h'.length.symm
  have := RcAt.lists (A := A) (s := s) (e := fun _ => true) ⟨_, (N _ hl).1, rfl, _, rfl⟩ ⟨_, (N _ hl').1, rfl, _, rfl⟩ (by simpa using hlen) (by omega) (fun j h1 h2 => by
    have h1' : j < vs.length := by simpa using h1
    have h2' : j < vs'.length := by simpa using h2
    obtain ⟨a, wv, nv, r, nm, e1, o1, m1, d1, b1⟩ := rows_get h j vs[j] (List.getElem?_eq_getElem h1')
    obtain ⟨a', wv', nv', r', nm', e1', o1', m1', d1', b1'⟩ := rows_get h' j vs'[j] (List.getElem?_eq_getElem h2')
    rw [o1] at o1'
    cases o1'
    have g1 : vs.toArray[j] = .ref a := by simpa using e1
    have g2 : vs'.toArray[j] = .ref a' := by simpa using e1'
    rw [g1, g2]
    exact eqAt_tup2 (N _ m1).1 (N _ m1').1 (by show A.units + 1 + 4 < cLine; omega) (wv_eq N d1 d1' (by show A.units + 1 + 1 + 8 < cLine; omega)) (nm_eq b1 b1'))
  have e3 : ((List.range vs.toArray.size).all fun _ => true) = true := List.all_eq_true.mpr fun _ _ => rfl
  rw [e3] at this
  exact this prog w E Q hQ
end
theorem TR.len {p : List Tx} {rows : List Row} (h : TR p rows) : rows.length ≤ phi p + 2 := by
  induction h with
  | fin _ => exact Nat.le_add_left _ _
  | @cons p r p' rows g hr h ih =>
    cases r with
    | none => exact absurd rfl hr
    | word w =>
      have := g.ph
      dsimp only [cost] at this
      show rows.length + 1 ≤ _
      omega
    | bad i =>
      obtain ⟨nm, rfl, _⟩ := g.go
      cases h with
      | fin _ => exact Nat.le_add_left _ _
      | cons g' hr' _ => exact absurd g'.stuck hr'
end Mine

end
section
open Mine
namespace Mine
theorem Cop.inSN {y : Str} : Cop .IsNot (IsS y) (· = .none) true := fun _ _ _ s _ _ _ h1 h2 q => by obtain ⟨t, h1⟩ := h1; subst h1 h2; exact isnot_str_none (q s.toks)
theorem get_step {w : World} {K : Nat} (G : GetOK w K) (h9 : K ≤ 900) : GetOK w (K + 1) := by
  intro X S tl p A Gd hK D L
  refine' Con.of (binds := [(Str.ofString "self", .ref X.x)]) ?a ?b ?c ?d ?e ?h ?i ?j ?k ?l
  case a => k_is
  case b => k_is
  case c => exact fun s X => BindsTo.of_eq rfl
  case d => exact locs rfl
  case e => unfold dOf uOf; exact ⟨by omega, by omega⟩
  case i => exact rfl
  case j => exact rfl
  case k => exact rfl
  case l => decide
  intro _ y hw hc hu hcl
  have hK' : phi p ≤ K := Nat.le_of_lt_succ hK
  obtain ⟨tu, hsu⟩ := L.su
  show Ex y gtF _ (plN X S tl) (fb o704.1) _ _
  cases A with
  | @mk t ts A hl =>
  refine Ex.ifF (Tp.cast (Tp.dq (D := X.pb) (c := S.dn) (vs := []) (Ep.lxm (P := lpOf X S) (c := lvS S) rfl (.head _) (.tail _ (.head _)) la_pushback lo_pushback) (.tail _ (.tail _ (.tail _ (.tail _ (.head _))))) (by decide)) rfl) ?_
  refine Ex.asK (Ev.meth0 (fa := 711) (Ep.name rfl) (.head _) (.tail _ (.head _)) lm_rt ll_rt (Tr.con (rtw_spec D A) trivial (fun _ h => h) (by rw [hc]; unfold dOf; omega) (by rw [hu]; unfold uOf; omega) (fun v n' hv => ?_) (fun _ _ z => z.elim)))
  obtain ⟨S1, hr, rfl⟩ := hv
  refine ⟨_, fun _ h => h, ?_⟩
  refine Ex.ifT (Tp.cmp (Vl := IsS (T wUse)) (Ep.mono (Ep.lxm (v := X.su) (P := lpOf X S1) (c := lvS S1) rfl (.head _) (.tail _ (.head _)) la_source lo_source (by rw [hsu]; rfl)) fun z hz => ⟨tu, hz.trans hsu⟩) Ep.none Cop.inSN) ?_
  have D1 := hr.1.dis D
  have hl1 : LosA S1.los ts := by rw [hr.1.los]; exact hl
  have hinit : ∃ k, Gk2 X tl (t :: ts) ⟨k, S1, v⟩ ∨ (k = 2 ∧ GkU X tl (t :: ts) ⟨k, S1, v⟩) := by
    obtain ⟨n, ws⟩ := t
    obtain ⟨_, hr⟩ := hr
    cases ws with
    | nil =>
      obtain ⟨rfl, A1⟩ := hr
      cases ts with
      | nil => exact ⟨0, .inl (.inl ⟨rfl, .none, _, .fin, rfl, fun h => (by obtain ⟨_, h⟩ := h; cases h), .mk A1 hl1, D1⟩)⟩
      | cons t2 ts2 => exact ⟨1, .inl (.inr ⟨rfl, rfl, n, t2, ts2, rfl, hl1, D1⟩)⟩
    | cons wd ws =>
      obtain ⟨hv, hst, A1⟩ := hr
      by_cases h : wd = wUse
      · subst h
        exact ⟨2, .inr ⟨rfl, hv, n, ws, ts, rfl, A1, hl1, D1⟩⟩
      · exact ⟨0, .inl (.inl ⟨rfl, .word wd, _, .word h, hv, fun _ => hst, .mk A1 hl1, D1⟩)⟩
  obtain ⟨k, hinit⟩ := hinit
  refine Ex.whl (σ := GkS) (gkps X) (fun c => plN X c.S tl) (fun c => Gk2 X tl (t :: ts) c ∨ (c.k = 2 ∧ GkU X tl (t :: ts) c)) (fun c => c.k) ⟨k, S1, v⟩
    (List.forall_mem_cons.mpr ⟨rfl, List.forall_mem_cons.mpr ⟨rfl, List.forall_mem_nil _⟩⟩) (fun _ h => h) hinit ?_
  rintro ⟨k, S2, v2⟩ hP
  have hsrc : ∀ {p1 p2 : Pos}, Ep y gtF (gkps X ⟨k, S2, v2⟩) (plN X S2 tl) (.Attribute (.Name (Str.ofString "self") p1) (Str.ofString "source") p2) (IsS (T wUse)) := Ep.mono (Ep.lxm (v := X.su) (P := lpOf X S2) (c := lvS S2) rfl (.head _) (.tail _ (.head _)) la_source lo_source (by rw [hsu]; rfl)) fun z hz => ⟨tu, hz.trans hsu⟩
  rcases hP with hP | ⟨rfl, hP⟩
  · refine (Tp.cmp (b := false) (Vl := (· = v2)) (Ep.name rfl) hsrc ?_).go ?_
    · rcases GkS.ne_use hP with h | ⟨wd, ⟨tv, h⟩, hne⟩
      · have h : v2 = .none := h
        subst h
        exact Cop.eqNS
      · have h : v2 = .str (T wd) tv := h
        subst h
        exact Cop.eqC (beq_eq_false_iff_ne.mpr hne)
    · rw [if_neg (by decide)]
      exact gk_tail G hw hc hu hK' h9 Gd L (List.forall_mem_cons.mpr ⟨rfl, List.forall_mem_cons.mpr ⟨rfl, List.forall_mem_nil _⟩⟩) hP
  · refine (Tp.cmp (b := true) (Vl := IsS (T wUse)) (Ep.mono (Ep.name rfl) fun z hz => by rw [hz]; exact hP.1) hsrc (Co.eqC (beq_self_eq_true _))).go ?_
    rw [if_pos rfl]
    refine gk_use G hw hc hu hK' h9 Gd L hP (fun m c' h0 h1 h2 => ⟨c', .inl h0, ?_, h2, fun _ h => h⟩) (fun es n' h => h)
    show c'.k < 2
    rw [h1]
    exact Nat.zero_lt_two
theorem get_ok {w : World} : ∀ K, K ≤ 901 → GetOK w K := by
  intro K
  induction K with
  | zero => exact fun _ X S tl p _ _ h => absurd h (Nat.not_lt_zero _)
  | succ K ih => exact fun h => get_step (ih (by omega)) (by omega)
end Mine

end
section
open Mine
namespace Mine
section
variable {α : Type} {x : Fx} {f : Fn} {m : Loc} {n : Led}
theorem Xg.cut {a r : List Stmt} {R : Flow → Loc → Led → Prop} (h : ∀ g, Ex (x.on g) f m n a (fun fl m₁ n₁ => fl = .next ∧ Xg x f m₁ n₁ r R) NoX) : Xg x f m n (a ++ r) R := Tg.mk fun g s Q E G st q po => by
  rw [execs_app]
  refine wpAny_bind ((h g).run s _ E G.ok st (fun fl m₁ n₁ h' tk' hX st' => ?_) (fun _ _ _ _ _ z => z.elim) po)
  obtain ⟨rfl, hX⟩ := hX
  exact hX.run g _ Q E G st' q po
theorem Cop.isnN {v : Value} : Cop .IsNot (· = v) (· = .none) (!(v == .none)) := fun _ _ _ s _ _ _ h1 h2 q => by subst h1 h2; exact isnot_none_gen (q s.toks)
theorem Ep.lastT {y : Str} {yp p1 p2 p3 cp pos : Pos} {c c2 i : Nat} {D D2 : Addr} {vs ws : List Value} {k : Nat} {v : Value} (hy : look m y = some (.ref D)) (hm : (D, listOf (vs ++ [Value.ref D2]).toArray k) ∈ n) (hm2 : (D2, tupV ws) ∈ n) (hv : ws[i]? = some v) (hl : ws.length ≤ 1000) (hx : (x.env f).kindOf y = some .local := by rfl) (hd : (y == ("__debug__" : Str)) = false := by decide)
    (hs : ∀ u, subscripted (.UnaryOp .USub (.Constant (.int 1) c p1) p2) false (.ref D) (.int (-1) u) = operate [.ref D, .int (-1) u] (getItem (.ref D) (.int (-1) u)) := by intros; with_unfolding_all rfl) (ht : ∀ z, letTemporaryGo (.Name y yp) (.ref D) z = pure () := by intros; with_unfolding_all rfl)
    (hs2 : ∀ u, subscripted (.Constant (.int (i : Nat)) c2 cp) false (.ref D2) (.int (i : Nat) u) = operate [.ref D2, .int (i : Nat) u] (getItem (.ref D2) (.int (i : Nat) u)) := by intros; with_unfolding_all rfl) :
    Ep x f m n (.Subscript (.Subscript (.Name y yp) (.UnaryOp .USub (.Constant (.int 1) c p1) p2) p3) (.Constant (.int (i : Nat)) c2 cp) pos) (· = v) :=
  Tr.mk fun s Q E ok st q ee po => Subscript_ ((Ep.lastL hy hm hx hd hs ht).use ok st (fun v0 h1 t1 e0 st1 => (Ep.int (i := (i : Nat)) (k := c2) (pos := cp)).use ok st1 (fun u h2 t2 hu st2 => by
    obtain ⟨tu, e1⟩ := hu
    subst e0 e1
    exact tup_at st2.2 hm2 hv hl (q _ _ _ _ _ ⟨rfl, rfl, rfl⟩ st2) (hs2 _)) po) po)
end
noncomputable def wt : Stmt → Expr
  | .While t _ _ _ => t
  | _ => .Constant .none 0 ⟨0, 0, 0, 0⟩
noncomputable def Open (rows : List Row) : Prop := rows = [] ∨ ∃ r0 r nm, rows = r0 ++ [(r, nm)] ∧ r ≠ .none
noncomputable def Ended (rows : List Row) : Prop := ∃ r0 nm, rows = r0 ++ [(.none, nm)]
structure ToS where
  S : PS
  p : List Tx
  rows : List Row
  rvs : List Value
  kr : Nat
  tl : Led
  k : Nat
noncomputable def ToK (p0 p : List Tx) (rows : List Row) (k : Nat) : Prop :=
  (Open rows ∧ (k = phi p + 2 ∨ k = 1 ∧ ∃ nm, p = [⟨nm, []⟩]) ∧ (∀ rs, TR p rs → TR p0 (rows ++ rs))) ∨ (k = 0 ∧ Ended rows ∧ TR p0 rows)
theorem to_next {p0 p p' : List Tx} {rows : List Row} {k : Nat} {r : Res} (h : ToK p0 p rows k) (hk : k ≠ 0) (g : GetR p r p') : ∃ k', k' < k ∧ ToK p0 p' (rows ++ [(r, nmOf p')]) k' := by
  rcases h with ⟨_, h2, h3⟩ | ⟨h, _⟩
  · cases r with
    | none => exact ⟨0, Nat.pos_of_ne_zero hk, .inr ⟨rfl, ⟨rows, _, rfl⟩, h3 _ (.fin g)⟩⟩
    | word w =>
      have nx : ∀ rs, TR p' rs → TR p0 ((rows ++ [(.word w, nmOf p')]) ++ rs) := fun rs h => by rw [List.append_assoc]; exact h3 _ (.cons g (fun h => nomatch h) h)
      rcases h2 with rfl | ⟨rfl, nm, rfl⟩
      · have := g.ph
        dsimp only [cost] at this
        exact ⟨phi p' + 2, by omega, .inl ⟨.inr ⟨rows, _, _, rfl, fun h => nomatch h⟩, .inl rfl, nx⟩⟩
      · exact nomatch g.stuck
    | bad i =>
      have nx : ∀ rs, TR p' rs → TR p0 ((rows ++ [(.bad i, nmOf p')]) ++ rs) := fun rs h => by rw [List.append_assoc]; exact h3 _ (.cons g (fun h => nomatch h) h)
      rcases h2 with rfl | ⟨rfl, nm, rfl⟩
      · obtain ⟨nm, e, _⟩ := g.go
        exact ⟨1, by omega, .inl ⟨.inr ⟨rows, _, _, rfl, fun h => nomatch h⟩, .inr ⟨rfl, nm, e⟩, nx⟩⟩
      · exact nomatch g.stuck
  · exact absurd h hk
noncomputable def toPs (X : LX) (R : Addr) : Loc := [(Str.ofString "rows", .ref R), (Str.ofString "lexer", .ref X.x)]
noncomputable def toN (X : LX) (R : Addr) (c : ToS) : Led := plN X c.S ((R, listOf c.rvs.toArray c.kr) :: c.tl)
structure ToP (X : LX) (R : Addr) (base : Led) (p0 : List Tx) (c : ToS) : Prop where
  A : Abs c.S c.p
  G : Good c.p
  D : Dis X c.S ((R, listOf c.rvs.toArray c.kr) :: c.tl)
  L : LamL X c.tl
  hr : RowsIn c.tl c.rvs c.rows
  hR : ∀ q ∈ c.tl, q.1 ≠ R
  hl : c.rows.length + c.k ≤ 800
  ph : phi c.p ≤ phi p0
  hs : ToK p0 c.p c.rows c.k
  hb : ∀ q ∈ base, q ∈ c.tl
theorem wv_none {n : Led} {v : Value} {r : Res} (h : WvIn n v r) : (r = .none ∧ (v == .none) = true) ∨ (r ≠ .none ∧ (v == .none) = false) := by
  cases r with
  | word w => obtain ⟨t, rfl⟩ := h; exact .inr ⟨(fun h => nomatch h), rfl⟩
  | none => cases h; exact .inl ⟨rfl, rfl⟩
  | bad i => obtain ⟨d, t1, t2, rfl, _⟩ := h; exact .inr ⟨(fun h => nomatch h), rfl⟩
theorem to_test {y : Fx} {X : LX} {R : Addr} {n tl : Led} {rvs : List Value} {rows : List Row} {k : Nat} (h : RowsIn tl rvs rows) (hR : (R, listOf rvs.toArray k) ∈ n) (hn : ∀ q ∈ tl, q ∈ n) : ∃ b, Tp y tlF (toPs X R) n (wt (nth (fb o794.1) 1)) b ∧ (b = true → Open rows) ∧ (b = false → Ended rows) := by
  cases h with
  | nil => exact ⟨true, Tp.L (TL.orT (Tp.eqNil (vs := []) (Ep.name rfl) hR)), fun _ => .inl rfl, fun h => nomatch h⟩
  | @snoc vs rows D wv nv r nm h1 h2 h3 h4 =>
    refine ⟨!(wv == .none), Tp.L (TL.orF (Tp.cast (Tp.eqNil (vs := vs ++ [.ref D]) (Ep.name rfl) hR) (by simp)) (TL.or1 (Tp.cmp (Ep.lastT (vs := vs) rfl hR (hn _ h2) (i := 0) rfl (Nat.le_of_ble_eq_true rfl)) Ep.none Cop.isnN))), fun h => ?_, fun h => ?_⟩
    · rcases wv_none h3 with ⟨e, h5⟩ | ⟨e, h5⟩
      · rw [h5] at h; cases h
      · exact .inr ⟨rows, r, nm, rfl, e⟩
    · rcases wv_none h3 with ⟨e, h5⟩ | ⟨e, h5⟩
      · exact ⟨rows, nm, by rw [e]⟩
      · rw [h5] at h; cases h
section
variable {x : Fx} {X : LX} {R : Addr} {base : Led} {p0 : List Tx}
theorem to_app {c : ToS} {S' : PS} {p' : List Tx} {tl' n'' : Led} {v : Value} {r : Res} {k' : Nat} (H : ToP X R base p0 c) (hA : Abs S' p') (hG : Good p') (hD : Dis X S' ((R, listOf c.rvs.toArray c.kr) :: tl')) (hsub : ∀ q ∈ c.tl, q ∈ tl') (hR : ∀ q ∈ tl', q.1 ≠ R) (hv : WvIn tl' v r) (hn : ∀ q ∈ plN X S' ((R, listOf c.rvs.toArray c.kr) :: tl'), q ∈ n'') (hk : k' < c.k) (hs : ToK p0 p' (c.rows ++ [(r, nmOf p')]) k') (hph : phi p' ≤ phi p0) :
    Xg x tlF ((Str.ofString "word", v) :: toPs X R) n'' ((wb (nth (fb o794.1) 1)).drop 1) (WPg x tlF (fun _ => toPs X R) (toN X R) (ToP X R base p0) (·.k) c) := by
  cases hA with
  | @mk t ts hc hlos =>
  have hl := H.hl
  have hRa : R ∉ adr X S' := hD.ne _ (.head _)
  have hrl := H.hr.length
  have hin : handedIn S'.nv = true := by
    have := hc.nm
    cases hnm : t.nm with
    | none => rw [hnm] at this; rw [show S'.nv = .none from this]; rfl
    | some w => rw [hnm] at this; obtain ⟨tn, e⟩ := this; rw [e]; rfl
  refine Tg.of fun g => Ex.less hn (Ex.exp (Ev.app (D := R) (its := c.rvs) (k := c.kr) rfl (plN_tl _ (.head _)) (Er.cons (Ev.tup (Er.E (Ep.name rfl) (Er.E (Ep.lxm (v := S'.nv) (P := lpOf X S') (c := lvS S') rfl (.head _) (.tail _ (.head _)) la_infile lo_infile hin) (Er.nil ⟨Nat.le_of_ble_eq_true rfl, fun Dt hDt => Er.nil ⟨.ref Dt, (Dt, tupV [v, S'.nv]) :: plN X S' tl', rfl, by omega, ?_, ?_, ?_⟩⟩)))))))
  · exact List.forall_mem_cons.mpr ⟨.tail _ (plN_tl _ (.head _)), List.forall_mem_cons.mpr ⟨.head _, fun q hq => .tail _ (plN_sub (fun _ h => .tail _ h) q hq)⟩⟩
  · exact List.forall_mem_cons.mpr ⟨Nat.ne_of_gt (hDt _ (plN_tl _ (.head _))), plN_ne (hD.ne _ (.head _)) hR⟩
  refine Ex.nil ⟨⟨S', t :: ts, c.rows ++ [(r, t.nm)], c.rvs ++ [Value.ref Dt], c.kr + 1, (Dt, tupV [v, S'.nv]) :: tl', k'⟩, ⟨.mk hc hlos, hG, ?_, H.L.mono fun q hq => .tail _ (hsub q hq), .snoc (H.hr.mono fun q hq => .tail _ (hsub q hq)) (.head _) ?_ hc.nm, ?_, ?_, hph, hs, fun q hq => .tail _ (hsub q (H.hb q hq))⟩, hk, ?_, ?_⟩
  · exact (hD.tail.cons (fresh_adr fun q hq => hDt q (plN_sub (fun _ h => .tail _ h) q hq))).cons hRa
  · exact hv.mono fun q hq => .tail _ hq
  · exact List.forall_mem_cons.mpr ⟨Nat.ne_of_gt (hDt _ (plN_tl _ (.head _))), hR⟩
  · show (c.rows ++ [(r, t.nm)]).length + k' ≤ 800
    rw [List.length_append, List.length_singleton]
    omega
  · exact List.forall_mem_cons.mpr ⟨rfl, List.forall_mem_cons.mpr ⟨rfl, List.forall_mem_nil _⟩⟩
  · show ∀ q ∈ plN X S' ((R, _) :: (Dt, _) :: tl'), q ∈ _
    intro q hq
    rcases List.mem_cons.mp (plN_in q hq) with e | h
    · exact e ▸ .head _
    rcases List.mem_cons.mp (plN_in q h) with e | h
    · exact e ▸ .tail _ (.head _)
    · exact .tail _ (.tail _ h)
theorem to_turn (GX : Gx x) (hc : dOf p0 + 10 ≤ x.c) (hu : uOf p0 + 100 ≤ x.u) (hp0 : phi p0 ≤ 700) {c : ToS} (H : ToP X R base p0 c) (hk : c.k ≠ 0) :
    Xg x tlF (toPs X R) (toN X R c) (wb (nth (fb o794.1) 1)) (WPg x tlF (fun _ => toPs X R) (toN X R) (ToP X R base p0) (·.k) c) := by
  have hph := H.ph
  refine tl_try GX (a := X.x) (C := 743) rfl rfl (.head _) (.tail _ (.head _)) lm_get ll_get (get_ok 901 (Nat.le_refl _) X c.S ((R, listOf c.rvs.toArray c.kr) :: c.tl) c.p H.A H.G (by omega) H.D (H.L.mono fun _ h => .tail _ h)) (by unfold dOf at hc ⊢; omega) (by unfold uOf at hu ⊢; omega) (by unfold dOf at hc; omega) (by unfold uOf at hu; omega) (fun v n' hv => ?_) (fun es n' hx => ?_)
  · obtain ⟨S', r, p', hg, hv, _, A', D', hs⟩ := hv
    obtain ⟨k', h1, h2⟩ := to_next H.hs hk hg
    refine to_app H A' (hg.gd H.G).1 D' (fun _ h => h) H.hR ?_ hs h1 h2 (by have := hg.ph; omega)
    cases r with
    | word w => exact hv
    | none => exact hv
    | bad i => exact hv.elim
  · obtain ⟨S', i, p', tm, hg, A', D', rfl, hs⟩ := hx
    obtain ⟨k', h1, h2⟩ := to_next H.hs hk hg
    refine ⟨_, tm, rfl, fun D tr hD => ?_⟩
    refine to_app (r := .bad i) (tl' := (D, tupV [.str (Str.ofString "refused") tr, .str (refT i) tm]) :: c.tl) H A' (hg.gd H.G).1 ?_ (fun _ h => .tail _ h) ?_ ⟨D, tr, tm, rfl, .head _⟩ ?_ h1 h2 (by have := hg.ph; omega)
    · exact (D'.tail.cons (fresh_adr fun q hq => hD q (hs q (plN_sub (fun _ h => .tail _ h) q hq)))).cons (D'.ne _ (.head _))
    · exact List.forall_mem_cons.mpr ⟨Nat.ne_of_gt (hD _ (hs _ (plN_tl _ (.head _)))), H.hR⟩
    · intro q hq
      rcases List.mem_cons.mp (plN_in q hq) with e | h
      · exact e ▸ .tail _ (hs _ (plN_tl _ (.head _)))
      rcases List.mem_cons.mp (plN_in q h) with e | h
      · exact e ▸ .head _
      · exact .tail _ (hs _ (plN_sub (fun _ h => .tail _ h) q h))
noncomputable def ToRet (p0 : List Tx) (base : Led) (v : Value) (n' : Led) : Prop := ∃ D vs k' rows, v = .ref D ∧ (D, listOf (List.toArray vs) k') ∈ n' ∧ RowsIn n' vs rows ∧ TR p0 rows ∧ (∀ q ∈ base, q ∈ n')
theorem to_body (GX : Gx x) {S : PS} {tl : Led} (hc : dOf p0 + 10 ≤ x.c) (hu : uOf p0 + 100 ≤ x.u) (hp0 : phi p0 ≤ 700) (A : Abs S p0) (G : Good p0) (D : Dis X S tl) (L : LamL X tl) :
    Xg x tlF [(Str.ofString "lexer", .ref X.x)] (plN X S tl) (fb o794.1) (fun fl _ n' => ToRet p0 tl (retv fl) n') := by
  show Xg x tlF _ _ ([nth (fb o794.1) 0] ++ (fb o794.1).drop 1) _
  refine Xg.cut fun g => Ex.asg (R₁ := fun v m₁ n₁ => ∃ R, v = .ref R ∧ m₁ = [(Str.ofString "lexer", .ref X.x)] ∧ n₁ = (R, listOf (List.toArray []) 0) :: plN X S tl ∧ ∀ q ∈ plN X S tl, @LT.lt Nat _ q.1 R) (Ev.lst (Er.nil ⟨Nat.zero_le _, fun R hR => ⟨R, rfl, rfl, rfl, hR⟩⟩)) fun v m₁ n₁ hv => ?_
  obtain ⟨R, rfl, rfl, rfl, hR⟩ := hv
  refine Ex.nil ⟨rfl, Tg.weak (m' := toPs X R) (n' := toN X R ⟨S, p0, [], [], 0, tl, phi p0 + 2⟩) (List.forall_mem_cons.mpr ⟨rfl, List.forall_mem_cons.mpr ⟨rfl, List.forall_mem_nil _⟩⟩) plN_in ?_⟩
  refine Xg.whl (fun _ => toPs X R) (toN X R) (ToP X R tl p0) (·.k) ⟨S, p0, [], [], 0, tl, phi p0 + 2⟩ (List.forall_mem_cons.mpr ⟨rfl, List.forall_mem_cons.mpr ⟨rfl, List.forall_mem_nil _⟩⟩) (fun _ h => h) ⟨A, G, D.cons (fresh_adr hR), L, .nil, fun q hq => Nat.ne_of_lt (hR q (plN_tl q hq)), ?_, Nat.le_refl _, .inl ⟨.inl rfl, .inl rfl, fun _ h => h⟩, fun _ h => h⟩ fun c H => ?_
  · show 0 + (phi p0 + 2) ≤ 800
    omega
  refine Tg.of fun g => ?_
  obtain ⟨b, ht, h1, h2⟩ := to_test (y := x.on g) (X := X) (n := toN X R c) H.hr (plN_tl _ (.head _)) (fun q hq => plN_tl _ (.tail _ hq))
  refine ht.go ?_
  cases b with
  | true =>
    rw [if_pos rfl]
    refine to_turn GX hc hu hp0 H fun hk => ?_
    rcases H.hs with ⟨_, h, _⟩ | ⟨_, ⟨r0, nm, he⟩, _⟩
    · rcases h with h | ⟨h, _⟩ <;> omega
    · rcases h1 rfl with e | ⟨r1, r, nm', e, hr⟩
      · rw [e] at he
        simp at he
      · rw [e] at he
        have := (List.append_inj' he rfl).2
        injection this with e1
        injection e1 with e1
        exact hr e1
  | false =>
    rw [if_neg Bool.false_ne_true]
    refine Tg.of fun g => Ex.ret ((Ep.name (v := .ref R) rfl).go fun v hv => ?_)
    obtain ⟨r0, nm, he⟩ := h2 rfl
    rcases H.hs with ⟨h, _, _⟩ | ⟨_, _, hT⟩
    · rcases h with e | ⟨r1, r, nm', e, hr⟩
      · rw [e] at he
        simp at he
      · rw [e] at he
        have := (List.append_inj' he rfl).2
        injection this with e1
        injection e1 with e1
        exact absurd e1 hr
    · exact ⟨R, c.rvs, c.kr, c.rows, hv, plN_tl _ (.head _), H.hr.mono fun q hq => plN_tl _ (.tail _ hq), hT, fun q hq => plN_tl _ (.tail _ (H.hb q hq))⟩
end
theorem told_spec {w : World} {X : LX} {S : PS} {tl : Led} {p0 : List Tx} (hp0 : phi p0 ≤ 540) (A : Abs S p0) (G : Good p0) (D : Dis X S tl) (Lm : LamL X tl)
    {p : Program} {loose : List Str} {mean : ExcName → Option Value} {mg mb : Str → Option Value} {dp un : Nat} {gd : Option (List Code)} {cn : Str} {cs : Scope} {a : Addr} {ccd : Value} {cl : List (Str × Addr)} {A₀ : Around} {base h₀ : Heap} {L : Addr} {m : Str → Option Value} {s : Shared} {Q E : Value → Shared → Prop}
    (hB : Below A₀ base [] h₀) (hF : Fr h₀ L s.heap m) (hX : (Mine.KK w.params).In h₀) (hN : News h₀ L s.heap (plN X S tl)) (hT : Top p loose mean mg mb h₀) (hXB : (Mine.KK w.params).In base) (hTB : Top p loose mean mg mb base) (hk : cs.kind = .function)
    (hdp : dp + 600 < recursionLimit) (hun : un + 6510 < cLine)
    (ret : ∀ v h' tk' n', ToRet p0 tl v n' → Fr h₀ L h' m → News h₀ L h' n' → Q v { s with heap := h', toks := tk' }) :
    wpAny (model PySem.Challenge.pw_in0151_02 w) (ktrTop dp un gd cn cs L a ccd cl []) (call (.ref 794) [.ref X.x]) Q E s := by
  refine wpAny_call (code_defSX (binds := [(Str.ofString "lexer", .ref X.x)]) hB hF hX hN hT rfl (by k_is) (by k_is) (Nat.lt_of_le_of_lt (Nat.le_add_right _ _) hdp) (BindsTo.of_eq rfl) (locs rfl) (fun g L' h₁ FG F1 N1 B1 X1 T1 D1 => ?_) hk rfl rfl rfl (by decide))
  refine (to_body (x := ⟨w, p, loose, mean, mg, mb, dp + 1, un + 3, 595, 6500, gd, [], [envX cn cs L a ccd cl], ktrTop dp un gd cn cs L a ccd cl [], base, g, L'⟩) ⟨⟨dp, un, cn, cs, L, a, ccd, cl, rfl, rfl, rfl, rfl, hk⟩, rfl, hXB, hTB⟩ (by show 40 + phi p0 + 10 ≤ 595; omega) (by show 400 + 11 * phi p0 + 100 ≤ 6500; omega) (Nat.le_trans hp0 (by decide)) A G D Lm).run g _ _ _ ⟨⟨B1, X1, T1, rfl, by show dp + 1 + 595 < recursionLimit; omega, by show un + 3 + 6500 < cLine; omega⟩, KtsTurn.refl, D1⟩ ⟨⟨_, F1, fun _ _ e => e⟩, N1⟩ (fun fl m' n' g' h' tk' hR G' st' => ?_) PassesOwn.leaving
  obtain ⟨⟨mm, F', _⟩, N'⟩ := st'
  refine leaveS0_ F' N' G'.T fun F2 N2 => ?_
  have := ret (retv fl) h' tk' n' hR F2 N2
  cases fl <;> exact this
end Mine

end
section
open Mine
namespace Mine
noncomputable def dents (hs : Nat → Int) (ts : Nat → Tok) (vs : Nat → Value) : List Str → List DictEntry
  | [] => []
  | y :: r => ⟨hs 0, .str y (ts 0), vs 0⟩ :: dents (fun i => hs (i + 1)) (fun i => ts (i + 1)) (fun i => vs (i + 1)) r
noncomputable def dvals (vs : Nat → Value) : Ds → Prop
  | [] => True
  | p :: r => p.2 (vs 0) ∧ dvals (fun i => vs (i + 1)) r
noncomputable def fcons {α : Type} (a : α) (f : Nat → α) : Nat → α
  | 0 => a
  | i + 1 => f i
theorem DI.fn {l : Ds} {es : List DictEntry} (H : DI l es) : ∃ (hs : Nat → Int) (ts : Nat → Tok) (vs : Nat → Value), es = dents hs ts vs (l.map (·.1)) ∧ dvals vs l := by
  induction H with
  | nil => exact ⟨fun _ => 0, fun _ => 0, fun _ => .none, rfl, trivial⟩
  | @cons y V h t v l es hv H ih =>
    obtain ⟨hs, ts, vs, h1, h2⟩ := ih
    exact ⟨fcons h hs, fcons t ts, fcons v vs, congrArg (_ :: ·) h1, hv, h2⟩
noncomputable def vtok : Value → Tok
  | .str _ t => t
  | .int _ t => t
  | _ => 0
theorem IsS.tok {z : Str} {v : Value} (h : IsS z v) : v = .str z (vtok v) := let ⟨_, e⟩ := h; e ▸ rfl
theorem IsI.tok {i : Int} {v : Value} (h : IsI i v) : v = .int i (vtok v) := let ⟨_, e⟩ := h; e ▸ rfl
theorem dcons {h : Int} {k v v' : Value} {l l' : List DictEntry} (e : v = v') (e' : l = l') : (⟨h, k, v⟩ : DictEntry) :: l = ⟨h, k, v'⟩ :: l' := e ▸ e' ▸ rfl
noncomputable abbrev lexDs2 (iv rd hk : Value) (sio pb fs : Addr) : Ds := [(Str.ofString "instream", (· = .ref sio)), (Str.ofString "infile", (· = iv)), (Str.ofString "posix", (· = .bool true)), (Str.ofString "eof", (· = .none)), (Str.ofString "commenters", IsS (Str.ofString "#")), (Str.ofString "wordchars", IsS wcs), (Str.ofString "whitespace", IsS (Str.ofString " \t\r\n")), (Str.ofString "whitespace_split", (· = .bool false)), (Str.ofString "quotes", IsS (Str.ofString "'\"")), (Str.ofString "escape", IsS (Str.ofString "\\")), (Str.ofString "escapedquotes", IsS (Str.ofString "\"")), (Str.ofString "state", IsS (Str.ofString " ")), (Str.ofString "pushback", (· = .ref pb)), (Str.ofString "lineno", IsI 1), (Str.ofString "debug", IsI 0), (Str.ofString "token", IsS (Str.ofString "")), (Str.ofString "filestack", (· = .ref fs)), (Str.ofString "source", IsS (Str.ofString "use")), (Str.ofString "_punctuation_chars", IsS (Str.ofString "")), (Str.ofString "read", (· = rd)), (Str.ofString "sourcehook", (· = hk))]
theorem s_use : Str.ofString "use" = T wUse := by decide +kernel
theorem s_emp : Str.ofString "" = T [] := by decide +kernel
theorem lex_lit {iv rd hk : Value} {sio pb fs : Addr} {es : List DictEntry} (H : DI (lexDs2 iv rd hk sio pb fs) es) : ∃ (hs : Nat → Int) (ts tc : Nat → Tok) (tst tl tt tu : Tok), ∀ (x ld sd : Addr) (hs2 : Nat → Int) (ts2 : Nat → Tok) (r : List Nat) (t1 t2 : Tok), dictOf es es.length = lexP ⟨x, ld, sio, sd, pb, fs, iv, .str (T wUse) tu, rd, hk, hs, ts, hs2, ts2, tc, r, t1, t2⟩ ⟨St.ws.val tst, 1, tl, T [], tt⟩ := by
  obtain ⟨hs, ts, vs, e, h0, h1, h2, h3, h4, h5, h6, h7, h8, h9, h10, h11, h12, h13, h14, h15, h16, h17, h18, h19, h20, _⟩ := H.fn
  subst e
  refine ⟨hs, ts, fun i => vtok (vs i), vtok (vs 11), vtok (vs 13), vtok (vs 15), vtok (vs 17), fun x ld sd hs2 ts2 r t1 t2 => congrArg (fun l => dictOf l 21) (dcons h0 (dcons h1 (dcons h2 (dcons h3 (dcons (IsS.tok h4) (dcons (IsS.tok h5) (dcons (IsS.tok h6) (dcons h7 (dcons (IsS.tok h8) (dcons (IsS.tok h9) (dcons (IsS.tok h10) (dcons (IsS.tok h11) (dcons h12 (dcons (IsI.tok h13) (dcons (IsI.tok h14) (dcons ((IsS.tok h15).trans (congrArg (fun z => Value.str z (vtok (vs 15))) s_emp)) (dcons h16 (dcons ((IsS.tok h17).trans (congrArg (fun z => Value.str z (vtok (vs 17))) s_use)) (dcons (IsS.tok h18) (dcons h19 (dcons h20 rfl)))))))))))))))))))))⟩
structure LexR (r : List Nat) (news : Led) (v : Value) (n' : Led) : Prop where
  ex : ∃ (X : LX) (S : PS) (tl : Led), v = .ref X.x ∧ S.s.r = r ∧ S.s.pos = 0 ∧ S.st = .ws ∧ NmV theLine S.nv ∧ S.los = [] ∧ Dis X S tl ∧ LamL X tl ∧ (∀ q ∈ news, q ∈ tl) ∧ (∃ ps, (782, tabObj ps) ∈ tl) ∧ (∀ q ∈ plN X S tl, q ∈ n')
theorem Tr.setD2 {x : Fx} {f : Fn} {m : Loc} {n : Led} {l : Ds} {k : Nat} {a C d : Addr} {name : Str} {v : Value} {V : Value → Prop} {es : List DictEntry} {X : List Value → Led → Prop} (hi : (a, instObj C d) ∈ n) (hd : ∀ q ∈ n, q.1 ≠ d) (hO : ∀ Q, setIn (Mine.KK Q) C name = true) (H : DI l es) (hz : es.length ≤ k) (hk : k < 1000) (hv : V v) {R : Unit → Loc → Led → Prop}
    (h : ∀ es', DI (dput name V l) es' → es'.length ≤ k + 1 → R () m ((d, dictOf es' es'.length) :: n)) : Tr x f m ((d, dictOf es es.length) :: n) (setAttr (.ref a) name v) R X := Tr.mk fun s Q E ok st q _ _ => by
  obtain ⟨⟨mm, F, km⟩, N⟩ := st
  obtain ⟨h1, h2, h3, h4⟩ := setIn_of (hO x.w.params)
  have hp := @putN_len es name (PyData.keyHash x.w.params name) (.str name (s.toks + 1)) v
  exact set_dict F ok.X N (InstAt.of_news N (.tail _ hi) (.head _)) rfl h1 h2 h4 h3 H.isS (congrArg (Prod.mk _) hp.1) (.head hd) (Nat.le_trans hp.2 (by omega)) fun h' F' N' => q () m _ h' _ (h _ (H.set hv) (Nat.le_trans hp.2 (Nat.succ_le_succ hz))) ⟨⟨mm, F', km⟩, N'⟩
theorem DI.len {l : Ds} {es : List DictEntry} (H : DI l es) : es.length = l.length := by
  induction H with
  | nil => rfl
  | cons _ _ ih => simp [ih]
theorem nd6 {a b c d e f : Nat} (h1 : b < a) (h2 : a < d) (h3 : d < c) (h4 : c < e) (h5 : e < f) : [a, b, c, d, e, f].Nodup := by
  simp only [List.nodup_cons, List.mem_cons, List.not_mem_nil, not_or, or_false, not_false_eq_true, List.nodup_nil, and_true]
  omega
theorem hi6 {a b c d e f g : Nat} (h1 : b < a) (h2 : a < d) (h3 : d < c) (h4 : c < e) (h5 : e < f) (h6 : f < g) : g ∉ [a, b, c, d, e, f] := by
  simp only [List.mem_cons, List.not_mem_nil, not_or, or_false]
  omega
theorem lo6 {a b c d e f g : Nat} (h1 : b < a) (h2 : a < d) (h3 : d < c) (h4 : c < e) (h5 : e < f) (h6 : g < b) : g ∉ [a, b, c, d, e, f] := by
  simp only [List.mem_cons, List.not_mem_nil, not_or, or_false]
  omega
noncomputable abbrev lxF : Fn := fnO o787.1 787
theorem lx_body {y : Fx} {cells news : Led} {r : List Nat} {t1 : Tok} (hr : r.length < 9000) (hc : y.c = 30) (hu : y.u = 300) (hcl : y.cl = [(Str.ofString "lexer", y.L + 1)]) (hY : CellsAre (fun _ => none) y.cl cells) (hL : ∀ q ∈ (782, tabObj #[]) :: news, @LT.lt Nat _ q.1 y.L) (hn0 : ∀ q ∈ news, q.1 ≠ 782) (hC : CodeHd y.G 786 782) :
    Ex y lxF [(Str.ofString "line", .str (T r) t1)] (cells ++ (782, tabObj #[]) :: news) (fb o787.1) (fun fl _ n' => LexR r news (retv fl) n') NoX := by
  rw [hcl] at hY
  obtain ⟨o1, rfl, ho1⟩ := hY.one
  refine Ex.asC (c := y.L + 1) (by rw [hcl]; rfl) (Ev.dcall (fa := 743) (by intro Q; kernel_rfl) (by intro Q; kernel_rfl) (Er.E (Ep.name rfl) (Er.S (Ep.strT s_line) fun ti => Er.E Ep.bool (Er.nil (Tr.mk fun s Q E ok st q ee po => ?_)))))
  obtain ⟨⟨mm, F, km⟩, N⟩ := st
  have hd1 := ok.hd
  have hd2 := ok.hu
  refine ln_new (iv := .str (T [116, 104, 101, 32, 108, 105, 110, 101]) ti) hr ok.B F ok.X N ok.T ok.k (by omega) (by omega) (fun v h' tk' n' hR F' N' => q v _ n' h' tk' ?_ ⟨⟨mm, F', km⟩, N'⟩)
  obtain ⟨x, ld, sio, sd, pb, fs, hs2, ts2, a1, a2, a3, es, rfl, H, hl, ⟨l1, l2, l3, l4, l5⟩, rfl⟩ := hR
  have hlb : ∀ q ∈ (782, tabObj #[]) :: news, @LT.lt Nat _ q.1 (y.L + 1) := fun q hq => Nat.lt_succ_of_lt (hL q hq)
  have b1 : @LT.lt Nat _ (y.L + 1) ld := hl _ (.head _)
  have hnl : ∀ q ∈ (782, tabObj #[]) :: news, @LT.lt Nat _ q.1 ld := fun q hq => Nat.lt_trans (hlb q hq) b1
  have lt : ∀ {a b c : Nat}, a < b → b < c → a < c := fun h1 h2 => Nat.lt_trans h1 h2
  have c1 : @LT.lt Nat _ (y.L + 1) x := lt b1 l1
  have c2 : @LT.lt Nat _ (y.L + 1) sd := lt c1 l2
  have c3 : @LT.lt Nat _ (y.L + 1) sio := lt c2 l3
  have c4 : @LT.lt Nat _ (y.L + 1) pb := lt c3 l4
  have c5 : @LT.lt Nat _ (y.L + 1) fs := lt c4 l5
  have hne : ∀ q ∈ (ld, dictOf es es.length) :: (fs, dqO 0 []) :: (pb, dqO 0 []) :: (sio, instObj 608 sd) :: (sd, sioD hs2 ts2 (T r) 0 a1 a2 a3) :: (x, instObj 743 ld) :: (782, tabObj #[]) :: news, q.1 ≠ y.L + 1 :=
    List.forall_mem_cons.mpr ⟨Nat.ne_of_gt b1, List.forall_mem_cons.mpr ⟨Nat.ne_of_gt c5, List.forall_mem_cons.mpr ⟨Nat.ne_of_gt c4, List.forall_mem_cons.mpr ⟨Nat.ne_of_gt c3, List.forall_mem_cons.mpr ⟨Nat.ne_of_gt c2, List.forall_mem_cons.mpr ⟨Nat.ne_of_gt c1, fun q hq => Nat.ne_of_lt (hlb q hq)⟩⟩⟩⟩⟩⟩
  refine ⟨o1, _, (ld, dictOf es es.length) :: (fs, dqO 0 []) :: (pb, dqO 0 []) :: (sio, instObj 608 sd) :: (sd, sioD hs2 ts2 (T r) 0 a1 a2 a3) :: (x, instObj 743 ld) :: (782, tabObj #[]) :: news, (List.forall_mem_cons.mpr ⟨.tail _ (.tail _ (.tail _ (.tail _ (.tail _ (.tail _ (.head _)))))), List.forall_mem_cons.mpr ⟨.head _, List.forall_mem_cons.mpr ⟨.tail _ (.head _), List.forall_mem_cons.mpr ⟨.tail _ (.tail _ (.head _)), List.forall_mem_cons.mpr ⟨.tail _ (.tail _ (.tail _ (.head _))), List.forall_mem_cons.mpr ⟨.tail _ (.tail _ (.tail _ (.tail _ (.head _)))), List.forall_mem_cons.mpr ⟨.tail _ (.tail _ (.tail _ (.tail _ (.tail _ (.head _))))), fun _ h => .tail _ (.tail _ (.tail _ (.tail _ (.tail _ (.tail _ (.tail _ h))))))⟩⟩⟩⟩⟩⟩⟩), hne, ho1, fun o' ho' => ?_⟩
  have hcx : ∀ {p : Pos} {m : Loc} {n : Led}, (y.L + 1, o') ∈ n → Ep y lxF m n (.Name (Str.ofString "lexer") p) (· = .ref x) := fun h => Ep.nameC (c := y.L + 1) (by rw [hcl]; rfl) h ho'
  have d0 : ∀ q ∈ (fs, dqO 0 []) :: (pb, dqO 0 []) :: (sio, instObj 608 sd) :: (sd, sioD hs2 ts2 (T r) 0 a1 a2 a3) :: (x, instObj 743 ld) :: (y.L + 1, o') :: (782, tabObj #[]) :: news, q.1 ≠ ld :=
    List.forall_mem_cons.mpr ⟨Nat.ne_of_gt (lt (lt (lt (lt l1 l2) l3) l4) l5), List.forall_mem_cons.mpr ⟨Nat.ne_of_gt (lt (lt (lt l1 l2) l3) l4), List.forall_mem_cons.mpr ⟨Nat.ne_of_gt (lt (lt l1 l2) l3), List.forall_mem_cons.mpr ⟨Nat.ne_of_gt (lt l1 l2), List.forall_mem_cons.mpr ⟨Nat.ne_of_gt l1, List.forall_mem_cons.mpr ⟨Nat.ne_of_lt b1, fun q hq => Nat.ne_of_lt (hnl q hq)⟩⟩⟩⟩⟩⟩
  refine Ex.less (n' := (ld, dictOf es es.length) :: (fs, dqO 0 []) :: (pb, dqO 0 []) :: (sio, instObj 608 sd) :: (sd, sioD hs2 ts2 (T r) 0 a1 a2 a3) :: (x, instObj 743 ld) :: (y.L + 1, o') :: (782, tabObj #[]) :: news) (List.forall_mem_cons.mpr ⟨.tail _ (.head _), List.forall_mem_cons.mpr ⟨.tail _ (.tail _ (.head _)), List.forall_mem_cons.mpr ⟨.tail _ (.tail _ (.tail _ (.head _))), List.forall_mem_cons.mpr ⟨.tail _ (.tail _ (.tail _ (.tail _ (.head _)))), List.forall_mem_cons.mpr ⟨.tail _ (.tail _ (.tail _ (.tail _ (.tail _ (.head _))))), List.forall_mem_cons.mpr ⟨.tail _ (.tail _ (.tail _ (.tail _ (.tail _ (.tail _ (.head _)))))), List.forall_mem_cons.mpr ⟨.head _, fun _ h => .tail _ (.tail _ (.tail _ (.tail _ (.tail _ (.tail _ (.tail _ h))))))⟩⟩⟩⟩⟩⟩⟩) ?_
  refine Ex.seta (V := IsS (Str.ofString "use")) Ep.str (hcx (.tail _ (.tail _ (.tail _ (.tail _ (.tail _ (.tail _ (.head _)))))))) fun v hv => Tr.setD2 (.tail _ (.tail _ (.tail _ (.tail _ (.head _))))) d0 (by intro Q; kernel_rfl) H (Nat.le_refl _) (by rw [H.len]; exact Nat.le_of_ble_eq_true rfl) hv fun es1 H1 _ => ?_
  have hclo : ∀ (P : Arguments) (b : Expr) (sc : Scope) (st : Stmt), lamOfS st = some (P, b, sc) → closureFor sc (y.env lxF) = closureFor sc (envX lxF.cn lxF.cs y.L lxF.a lxF.ccd [(Str.ofString "lexer", y.L + 1)]) := fun P b sc st _ => by rw [← hcl]
  have hm0 : ∀ p ∈ [(Str.ofString "line", Value.str (T r) t1)], look [(Str.ofString "line", Value.str (T r) t1)] p.1 = some p.2 := List.forall_mem_cons.mpr ⟨rfl, List.forall_mem_nil _⟩
  have t0 : @LT.lt Nat _ 782 (y.L + 1) := hlb _ (.head _)
  have hw : ∀ {b : Nat}, y.L + 1 < b → b ≠ 782 := fun h => Nat.ne_of_gt (lt t0 h)
  refine Ex.setv (Ev.lamb (P := 782) (c := 786) (ps := #[]) (rest := (ld, dictOf es1 es1.length) :: (fs, dqO 0 []) :: (pb, dqO 0 []) :: (sio, instObj 608 sd) :: (sd, sioD hs2 ts2 (T r) 0 a1 a2 a3) :: (x, instObj 743 ld) :: (y.L + 1, o') :: news) (clos := [(Str.ofString "lexer", y.L + 1)]) hC rfl (List.forall_mem_cons.mpr ⟨.tail _ (.tail _ (.tail _ (.tail _ (.tail _ (.tail _ (.tail _ (.head _))))))), List.forall_mem_cons.mpr ⟨.head _, List.forall_mem_cons.mpr ⟨.tail _ (.head _), List.forall_mem_cons.mpr ⟨.tail _ (.tail _ (.head _)), List.forall_mem_cons.mpr ⟨.tail _ (.tail _ (.tail _ (.head _))), List.forall_mem_cons.mpr ⟨.tail _ (.tail _ (.tail _ (.tail _ (.head _)))), List.forall_mem_cons.mpr ⟨.tail _ (.tail _ (.tail _ (.tail _ (.tail _ (.head _))))), List.forall_mem_cons.mpr ⟨.tail _ (.tail _ (.tail _ (.tail _ (.tail _ (.tail _ (.head _)))))), fun _ h => .tail _ (.tail _ (.tail _ (.tail _ (.tail _ (.tail _ (.tail _ (.tail _ h)))))))⟩⟩⟩⟩⟩⟩⟩⟩)
    (List.forall_mem_cons.mpr ⟨hw b1, List.forall_mem_cons.mpr ⟨hw c5, List.forall_mem_cons.mpr ⟨hw c4, List.forall_mem_cons.mpr ⟨hw c3, List.forall_mem_cons.mpr ⟨hw c2, List.forall_mem_cons.mpr ⟨hw c1, List.forall_mem_cons.mpr ⟨Nat.ne_of_gt t0, hn0⟩⟩⟩⟩⟩⟩⟩) trivial rfl (by show closureFor _ (envX _ _ _ _ _ y.cl) = _; rw [hcl]; rfl) rfl (fun g1 k1 oc1 vs1 tq1 pm1 ct1 ps1 hps1 e1 e2 h3 h4 => ⟨hcx (.tail _ (.tail _ (.tail _ (.tail _ (.tail _ (.tail _ (.tail _ (.tail _ (.tail _ (.head _)))))))))), Tr.weak hm0 (List.forall_mem_cons.mpr ⟨.tail _ (.tail _ (.tail _ (.head _))), List.forall_mem_cons.mpr ⟨.head _, List.forall_mem_cons.mpr ⟨.tail _ (.head _), List.forall_mem_cons.mpr ⟨.tail _ (.tail _ (.head _)), List.forall_mem_cons.mpr ⟨.tail _ (.tail _ (.tail _ (.tail _ (.head _)))), List.forall_mem_cons.mpr ⟨.tail _ (.tail _ (.tail _ (.tail _ (.tail _ (.head _))))), List.forall_mem_cons.mpr ⟨.tail _ (.tail _ (.tail _ (.tail _ (.tail _ (.tail _ (.head _)))))), List.forall_mem_cons.mpr ⟨.tail _ (.tail _ (.tail _ (.tail _ (.tail _ (.tail _ (.tail _ (.head _))))))), List.forall_mem_cons.mpr ⟨.tail _ (.tail _ (.tail _ (.tail _ (.tail _ (.tail _ (.tail _ (.tail _ (.head _)))))))), List.forall_mem_cons.mpr ⟨.tail _ (.tail _ (.tail _ (.tail _ (.tail _ (.tail _ (.tail _ (.tail _ (.tail _ (.head _))))))))), fun _ h => .tail _ (.tail _ (.tail _ (.tail _ (.tail _ (.tail _ (.tail _ (.tail _ (.tail _ (.tail _ h)))))))))⟩⟩⟩⟩⟩⟩⟩⟩⟩⟩) (Tr.setD2 (.tail _ (.tail _ (.tail _ (.tail _ (.tail _ (.tail _ (.tail _ (.head _)))))))) ?_ (by intro Q; kernel_rfl) H1 (Nat.le_refl _) (by rw [H1.len]; exact Nat.le_of_ble_eq_true rfl) (V := (· = .ref g1)) rfl fun es2 H2 _ => ?_)⟩))
  · exact List.forall_mem_cons.mpr ⟨Nat.ne_of_gt (lt (h3 _ (.tail _ (.head _))) h4), List.forall_mem_cons.mpr ⟨Nat.ne_of_gt (h3 _ (.tail _ (.head _))), List.forall_mem_cons.mpr ⟨Nat.ne_of_lt (lt t0 b1), fun q hq => d0 q (by rcases List.mem_cons.mp hq with e | hq; exact e ▸ .head _; rcases List.mem_cons.mp hq with e | hq; exact e ▸ .tail _ (.head _); rcases List.mem_cons.mp hq with e | hq; exact e ▸ .tail _ (.tail _ (.head _)); rcases List.mem_cons.mp hq with e | hq; exact e ▸ .tail _ (.tail _ (.tail _ (.head _))); rcases List.mem_cons.mp hq with e | hq; exact e ▸ .tail _ (.tail _ (.tail _ (.tail _ (.head _)))); rcases List.mem_cons.mp hq with e | hq; exact e ▸ .tail _ (.tail _ (.tail _ (.tail _ (.tail _ (.head _))))); exact .tail _ (.tail _ (.tail _ (.tail _ (.tail _ (.tail _ (.tail _ hq)))))))⟩⟩⟩
  have k1c : @LT.lt Nat _ (y.L + 1) k1 := h3 _ (.tail _ (.tail _ (.tail _ (.tail _ (.tail _ (.tail _ (.tail _ (.head _))))))))
  have k1f : @LT.lt Nat _ fs k1 := h3 _ (.tail _ (.tail _ (.head _)))
  have g1c : @LT.lt Nat _ (y.L + 1) g1 := lt k1c h4
  refine Ex.setv (Ev.lamb (P := 782) (c := 786) (ps := ps1) (rest := (ld, dictOf es2 es2.length) :: (g1, _) :: (k1, oc1) :: (fs, dqO 0 []) :: (pb, dqO 0 []) :: (sio, instObj 608 sd) :: (sd, sioD hs2 ts2 (T r) 0 a1 a2 a3) :: (x, instObj 743 ld) :: (y.L + 1, o') :: news) (clos := [(Str.ofString "lexer", y.L + 1)]) hC rfl (List.forall_mem_cons.mpr ⟨.tail _ (.tail _ (.tail _ (.head _))), List.forall_mem_cons.mpr ⟨.head _, List.forall_mem_cons.mpr ⟨.tail _ (.head _), List.forall_mem_cons.mpr ⟨.tail _ (.tail _ (.head _)), List.forall_mem_cons.mpr ⟨.tail _ (.tail _ (.tail _ (.tail _ (.head _)))), List.forall_mem_cons.mpr ⟨.tail _ (.tail _ (.tail _ (.tail _ (.tail _ (.head _))))), List.forall_mem_cons.mpr ⟨.tail _ (.tail _ (.tail _ (.tail _ (.tail _ (.tail _ (.head _)))))), List.forall_mem_cons.mpr ⟨.tail _ (.tail _ (.tail _ (.tail _ (.tail _ (.tail _ (.tail _ (.head _))))))), List.forall_mem_cons.mpr ⟨.tail _ (.tail _ (.tail _ (.tail _ (.tail _ (.tail _ (.tail _ (.tail _ (.head _)))))))), List.forall_mem_cons.mpr ⟨.tail _ (.tail _ (.tail _ (.tail _ (.tail _ (.tail _ (.tail _ (.tail _ (.tail _ (.head _))))))))), fun _ h => .tail _ (.tail _ (.tail _ (.tail _ (.tail _ (.tail _ (.tail _ (.tail _ (.tail _ (.tail _ h)))))))))⟩⟩⟩⟩⟩⟩⟩⟩⟩⟩)
    (List.forall_mem_cons.mpr ⟨hw b1, List.forall_mem_cons.mpr ⟨hw g1c, List.forall_mem_cons.mpr ⟨hw k1c, List.forall_mem_cons.mpr ⟨hw c5, List.forall_mem_cons.mpr ⟨hw c4, List.forall_mem_cons.mpr ⟨hw c3, List.forall_mem_cons.mpr ⟨hw c2, List.forall_mem_cons.mpr ⟨hw c1, List.forall_mem_cons.mpr ⟨Nat.ne_of_gt t0, hn0⟩⟩⟩⟩⟩⟩⟩⟩⟩) (by rw [hps1]; trivial) (by rw [hps1]; rfl) (by show closureFor _ (envX _ _ _ _ _ y.cl) = _; rw [hcl]; rfl) rfl (fun g2 k2 oc2 vs2 tq2 pm2 ct2 ps2 hps2 e3 e4 h5 h6 => ⟨hcx (.tail _ (.tail _ (.tail _ (.tail _ (.tail _ (.tail _ (.tail _ (.tail _ (.tail _ (.tail _ (.tail _ (.head _)))))))))))), Tr.weak hm0 (List.forall_mem_cons.mpr ⟨.tail _ (.tail _ (.tail _ (.head _))), List.forall_mem_cons.mpr ⟨.head _, List.forall_mem_cons.mpr ⟨.tail _ (.head _), List.forall_mem_cons.mpr ⟨.tail _ (.tail _ (.head _)), List.forall_mem_cons.mpr ⟨.tail _ (.tail _ (.tail _ (.tail _ (.head _)))), List.forall_mem_cons.mpr ⟨.tail _ (.tail _ (.tail _ (.tail _ (.tail _ (.head _))))), List.forall_mem_cons.mpr ⟨.tail _ (.tail _ (.tail _ (.tail _ (.tail _ (.tail _ (.head _)))))), List.forall_mem_cons.mpr ⟨.tail _ (.tail _ (.tail _ (.tail _ (.tail _ (.tail _ (.tail _ (.head _))))))), List.forall_mem_cons.mpr ⟨.tail _ (.tail _ (.tail _ (.tail _ (.tail _ (.tail _ (.tail _ (.tail _ (.head _)))))))), List.forall_mem_cons.mpr ⟨.tail _ (.tail _ (.tail _ (.tail _ (.tail _ (.tail _ (.tail _ (.tail _ (.tail _ (.head _))))))))), List.forall_mem_cons.mpr ⟨.tail _ (.tail _ (.tail _ (.tail _ (.tail _ (.tail _ (.tail _ (.tail _ (.tail _ (.tail _ (.head _)))))))))), List.forall_mem_cons.mpr ⟨.tail _ (.tail _ (.tail _ (.tail _ (.tail _ (.tail _ (.tail _ (.tail _ (.tail _ (.tail _ (.tail _ (.head _))))))))))), fun _ h => .tail _ (.tail _ (.tail _ (.tail _ (.tail _ (.tail _ (.tail _ (.tail _ (.tail _ (.tail _ (.tail _ (.tail _ h)))))))))))⟩⟩⟩⟩⟩⟩⟩⟩⟩⟩⟩⟩) (Tr.setD2 (.tail _ (.tail _ (.tail _ (.tail _ (.tail _ (.tail _ (.tail _ (.tail _ (.tail _ (.head _)))))))))) ?_ (by intro Q; kernel_rfl) H2 (Nat.le_refl _) (by rw [H2.len]; exact Nat.le_of_ble_eq_true rfl) (V := (· = .ref g2)) rfl fun es3 H3 _ => ?_)⟩))
  · exact List.forall_mem_cons.mpr ⟨Nat.ne_of_gt (lt (h5 _ (.tail _ (.head _))) h6), List.forall_mem_cons.mpr ⟨Nat.ne_of_gt (h5 _ (.tail _ (.head _))), List.forall_mem_cons.mpr ⟨Nat.ne_of_lt (lt t0 b1), List.forall_mem_cons.mpr ⟨Nat.ne_of_gt (lt (h3 _ (.tail _ (.head _))) h4), List.forall_mem_cons.mpr ⟨Nat.ne_of_gt (h3 _ (.tail _ (.head _))), fun q hq => d0 q (by rcases List.mem_cons.mp hq with e | hq; exact e ▸ .head _; rcases List.mem_cons.mp hq with e | hq; exact e ▸ .tail _ (.head _); rcases List.mem_cons.mp hq with e | hq; exact e ▸ .tail _ (.tail _ (.head _)); rcases List.mem_cons.mp hq with e | hq; exact e ▸ .tail _ (.tail _ (.tail _ (.head _))); rcases List.mem_cons.mp hq with e | hq; exact e ▸ .tail _ (.tail _ (.tail _ (.tail _ (.head _)))); rcases List.mem_cons.mp hq with e | hq; exact e ▸ .tail _ (.tail _ (.tail _ (.tail _ (.tail _ (.head _))))); exact .tail _ (.tail _ (.tail _ (.tail _ (.tail _ (.tail _ (.tail _ hq)))))))⟩⟩⟩⟩⟩
  have k2g : @LT.lt Nat _ g1 k2 := h5 _ (.tail _ (.tail _ (.head _)))
  refine Ex.ret ((hcx (.tail _ (.tail _ (.tail _ (.tail _ (.tail _ (.tail _ (.tail _ (.tail _ (.tail _ (.tail _ (.tail _ (.head _))))))))))))).go fun v hv => ⟨?_⟩)
  obtain ⟨hs, ts, tc, tst, tl, tt, tu, hlit⟩ := lex_lit (iv := .str (T [116, 104, 101, 32, 108, 105, 110, 101]) ti) (rd := .ref g1) (hk := .ref g2) (sio := sio) (pb := pb) (fs := fs) (es := es3) H3
  refine ⟨⟨x, ld, pb, fs, .str (T wUse) tu, .ref g1, .ref g2, hs, ts, tc⟩, ⟨⟨sio, sd, hs2, ts2, r, a1, a2, a3, 0⟩, .str (T [116, 104, 101, 32, 108, 105, 110, 101]) ti, .ws, tst, 1, tl, tt, 0, 0, []⟩, (g2, _) :: (k2, oc2) :: (g1, _) :: (k1, oc1) :: (y.L + 1, o') :: (782, tabObj ps2) :: news, hv, rfl, rfl, rfl, ⟨ti, rfl⟩, rfl, ⟨?nd, ?ne⟩, ⟨⟨tu, rfl⟩, ⟨g1, k1, y.L + 1, _, _, _, _, pm1, ct1, oc1, o', vs1, tq1, rfl, rfl, .tail _ (.tail _ (.head _)), .tail _ (.tail _ (.tail _ (.head _))), e1, e2, .tail _ (.tail _ (.tail _ (.tail _ (.head _)))), ho'⟩, ⟨g2, k2, y.L + 1, _, _, _, _, pm2, ct2, oc2, o', vs2, tq2, rfl, rfl, .head _, .tail _ (.head _), e3, e4, .tail _ (.tail _ (.tail _ (.tail _ (.head _)))), ho'⟩⟩, fun q hq => .tail _ (.tail _ (.tail _ (.tail _ (.tail _ (.tail _ hq))))), ⟨_, .tail _ (.tail _ (.tail _ (.tail _ (.tail _ (.head _)))))⟩, ?sub⟩
  case sub =>
    rw [hlit x ld sd hs2 ts2 r a1 a2]
    exact (List.forall_mem_cons.mpr ⟨.tail _ (.tail _ (.tail _ (.tail _ (.tail _ (.tail _ (.tail _ (.tail _ (.tail _ (.tail _ (.head _)))))))))), List.forall_mem_cons.mpr ⟨.head _, List.forall_mem_cons.mpr ⟨.tail _ (.tail _ (.tail _ (.tail _ (.tail _ (.tail _ (.tail _ (.tail _ (.head _)))))))), List.forall_mem_cons.mpr ⟨.tail _ (.tail _ (.tail _ (.tail _ (.tail _ (.tail _ (.tail _ (.tail _ (.tail _ (.head _))))))))), List.forall_mem_cons.mpr ⟨.tail _ (.tail _ (.tail _ (.tail _ (.tail _ (.tail _ (.tail _ (.head _))))))), List.forall_mem_cons.mpr ⟨.tail _ (.tail _ (.tail _ (.tail _ (.tail _ (.tail _ (.head _)))))), List.forall_mem_cons.mpr ⟨.tail _ (.head _), List.forall_mem_cons.mpr ⟨.tail _ (.tail _ (.head _)), List.forall_mem_cons.mpr ⟨.tail _ (.tail _ (.tail _ (.tail _ (.head _)))), List.forall_mem_cons.mpr ⟨.tail _ (.tail _ (.tail _ (.tail _ (.tail _ (.head _))))), List.forall_mem_cons.mpr ⟨.tail _ (.tail _ (.tail _ (.tail _ (.tail _ (.tail _ (.tail _ (.tail _ (.tail _ (.tail _ (.tail _ (.head _))))))))))), List.forall_mem_cons.mpr ⟨.tail _ (.tail _ (.tail _ (.head _))), fun _ h => .tail _ (.tail _ (.tail _ (.tail _ (.tail _ (.tail _ (.tail _ (.tail _ (.tail _ (.tail _ (.tail _ (.tail _ h)))))))))))⟩⟩⟩⟩⟩⟩⟩⟩⟩⟩⟩⟩)
  case nd => exact nd6 l1 l2 l3 l4 l5
  case ne =>
    have f2 : @LT.lt Nat _ fs k2 := lt (lt k1f h4) k2g
    exact List.forall_mem_cons.mpr ⟨hi6 l1 l2 l3 l4 l5 (lt f2 h6), List.forall_mem_cons.mpr ⟨hi6 l1 l2 l3 l4 l5 f2, List.forall_mem_cons.mpr ⟨hi6 l1 l2 l3 l4 l5 (lt k1f h4), List.forall_mem_cons.mpr ⟨hi6 l1 l2 l3 l4 l5 k1f, List.forall_mem_cons.mpr ⟨lo6 l1 l2 l3 l4 l5 b1, List.forall_mem_cons.mpr ⟨lo6 l1 l2 l3 l4 l5 (lt t0 b1), fun q hq => lo6 l1 l2 l3 l4 l5 (hnl q (.tail _ hq))⟩⟩⟩⟩⟩⟩
theorem lx_spec {w : World} {news : Led} {r : List Nat} {t1 : Tok} (hr : r.length < 9000) (hn0 : ∀ q ∈ news, q.1 ≠ 782)
    {p : Program} {loose : List Str} {mean : ExcName → Option Value} {mg mb : Str → Option Value} {dp un : Nat} {gd : Option (List Code)} {cn : Str} {cs : Scope} {a : Addr} {ccd : Value} {cl : List (Str × Addr)} {outer : List Env} {A₀ : Around} {base h₀ : Heap} {L : Addr} {m : Str → Option Value} {s : Shared} {Q E : Value → Shared → Prop}
    (B : Below A₀ base outer h₀) (F : Fr h₀ L s.heap m) (X : (Mine.KK w.params).In h₀) (N : News h₀ L s.heap ((782, tabObj #[]) :: news)) (T' : Top p loose mean mg mb h₀) (hC : CodeHd h₀ 786 782) (hck : cs.kind = .function) (hdp : dp + 31 < recursionLimit) (hun : un + 303 < cLine)
    (ret : ∀ (v : Value) (h' : Heap) (tk' : Nat) (n' : Led), LexR r news v n' → Fr h₀ L h' m → News h₀ L h' n' → Q v { s with heap := h', toks := tk' }) :
    wpAny (model PySem.Challenge.pw_in0151_02 w) (ktrTop dp un gd cn cs L a ccd cl outer) (call (.ref 787) [.str (T r) t1]) Q E s := by
  refine call_ofC (dd := 31) (uu := 303) (binds := [(Str.ofString "line", .str (T r) t1)]) (R := LexR r news) (by k_is) (by k_is) (fun s X => BindsTo.of_eq rfl) (locs rfl) (by decide +kernel) ⟨by decide, by decide⟩ rfl rfl rfl B F X N T' hck hdp hun (fun y cells hw hc hu hcl hY hL hG => ?_) ret
  exact lx_body hr hc hu hcl hY hL hn0 (hC.keeps hG)
end Mine

end
section
open Mine
namespace Mine
section
variable {x : Fx} {f : Fn} {m : Loc} {n : Led} {R : Value → Loc → Led → Prop} {X : List Value → Led → Prop}
theorem Ev.cmp {l r : Expr} {op : CmpOp} {pos : Pos} (h : Ev x f m n l (fun a m₁ n₁ => Ev x f m₁ n₁ r (fun b m₂ n₂ => Tr x f m₂ n₂ (compareOp op a b) R X) X) X) (hm : behindInMarks op r = false := by with_unfolding_all rfl) : Ev x f m n (.Compare l [op] [r] pos) R X :=
  Tr.mk fun s Q E ok st q ee po => wpAny_Compare1 (h.run s _ E ok st (fun a m₁ n₁ h1 t1 hr st1 => hr.run _ _ E ok st1 (fun b m₂ n₂ h2 t2 hc st2 => hc.run _ Q E ok st2 q ee po) ee po) ee po) hm
theorem Tr.lxr {news : Led} {r : List Nat} {t1 : Tok} (hr : r.length < 9000) (hn0 : ∀ q ∈ news, q.1 ≠ 782) (hC : CodeHd x.G 786 782) (hm : ∀ q ∈ (782, tabObj #[]) :: news, q ∈ n) (h5 : 31 ≤ x.c) (hu : 303 ≤ x.u) (h : ∀ v n', LexR r news v n' → R v m n') : Tr x f m n (call (.ref 787) [.str (T r) t1]) R X := Tr.mk fun s Q E ok st q _ _ => by
  obtain ⟨⟨mm, F, km⟩, N⟩ := st
  have hd1 := ok.hd
  have hd2 := ok.hu
  exact lx_spec hr hn0 ok.B F ok.X (fun z hz => N z (hm z hz)) ok.T hC ok.k (by omega) (by omega) fun v h' tk' n' hR F' N' => q v m n' h' tk' (h v n' hR) ⟨⟨mm, F', km⟩, N'⟩
theorem Tr.told {X' : LX} {S : PS} {tl : Led} {p0 : List Tx} (hout : x.outer = []) (hXB : (Mine.KK x.w.params).In x.base) (hTB : Top x.p x.loose x.mean x.mg x.mb x.base) (hp0 : phi p0 ≤ 540) (A : Abs S p0) (G : Good p0) (D : Dis X' S tl) (Lm : LamL X' tl) (hm : ∀ q ∈ plN X' S tl, q ∈ n) (h5 : 600 ≤ x.c) (hu : 6510 ≤ x.u) (h : ∀ v n', ToRet p0 tl v n' → R v m n') : Tr x f m n (call (.ref 794) [.ref X'.x]) R X := Tr.mk fun s Q E ok st q _ _ => by
  obtain ⟨⟨mm, F, km⟩, N⟩ := st
  have hd1 := ok.hd
  have hd2 := ok.hu
  have hd3 : x.dp + 600 < recursionLimit := by omega
  have hd4 : x.un + 6510 < cLine := by omega
  have B := ok.B
  obtain ⟨w, p, loose, mean, mg, mb, dp, un, c, u, gd, xcl, outer, A₀, base, G0, L⟩ := x
  dsimp only at hout
  subst hout
  exact told_spec hp0 A G D Lm B F ok.X (fun z hz => N z (hm z hz)) ok.T hXB hTB ok.k hd3 hd4 fun v h' tk' n' hR F' N' => q v m n' h' tk' (h v n' hR) ⟨⟨mm, F', km⟩, N'⟩
end
theorem g_told : ∀ Q, nsIn (Mine.KK Q) mainGlobals (Str.ofString "_law_told") = some (some (.ref 794)) := by intro Q; kernel_rfl
theorem k_told : ∀ Q, keepIn (Mine.KK Q) (.ref 794) = true := by intro Q; kernel_rfl
theorem g_lxr : ∀ Q, nsIn (Mine.KK Q) mainGlobals (Str.ofString "_law_lexer") = some (some (.ref 787)) := by intro Q; kernel_rfl
theorem k_lxr : ∀ Q, keepIn (Mine.KK Q) (.ref 787) = true := by intro Q; kernel_rfl
theorem g_rw : ∀ Q, nsIn (Mine.KK Q) mainGlobals (Str.ofString "_law_rewritten") = some (some (.ref 813)) := by intro Q; kernel_rfl
theorem k_rw : ∀ Q, keepIn (Mine.KK Q) (.ref 813) = true := by intro Q; kernel_rfl
theorem phi_line {ws : List Wd} : phi [⟨theLine, ws⟩] = 7 * ws.length + 1 := rfl
theorem law_ret {fa : Addr} {fc : Value} {x : Fx} {m : Loc} (hc : 640 ≤ x.c) (hu : 6600 ≤ x.u) (hcl : x.cl = [(Str.ofString "words", x.L + 1)]) (hout : x.outer = []) (hXB : (Mine.KK x.w.params).In x.base) (hTB : Top x.p x.loose x.mean x.mg x.mb x.base) (hC : CodeHd x.G 786 782) (h7 : @LT.lt Nat _ 782 x.L) {D : Addr} {wvs : List Value} {k : Nat} {ws : List Wd} {o' : Obj} (ho : o'.data = .cell (some (.ref D))) (hs : StrsAre wvs (ws.map T)) (hok : ∀ w ∈ ws, OkU w) (hlen : ws.length ≤ 76) (hD : @LT.lt Nat _ (x.L + 1) D) :
    Ex x (lawF fa fc) m [(x.L + 1, o'), (D, listOf wvs.toArray k), (782, tabObj #[])] ((fb o818.1).drop 2) (fun fl _ n' => fl = .ret (.bool true) ∧ ∃ ps, (782, tabObj ps) ∈ n') NoX := by
  have h7' : @LT.lt Nat _ 782 (x.L + 1) := Nat.lt_succ_of_lt h7
  have h7D : @LT.lt Nat _ 782 D := Nat.lt_trans h7' hD
  have hsum := line_len ws 0 hok
  refine Ex.asK (Ev.methS Ep.str (fun _ => Fi.join) (fun tj => Er.cons (sp_comp (by omega) (by omega) hcl (.head _) ho (.tail _ (.head _)) hs hok hlen fun Dc ys k' hys hne => Er.nil (Tr.mk fun s Q E ok st q _ _ => ?_))))
  refine join_T ⟨_, (st.2 _ (.head _)).1, rfl, _, rfl⟩ hys (by omega) fun t' kk => q _ _ _ s.heap kk ?_ st
  have hr : (lineT 0 ws).flatten.length < 9000 := by rw [List.length_flatten]; omega
  refine Ex.ret (Ev.cmp (Ev.dcall g_told k_told (Er.cons (Ev.dcall g_lxr k_lxr (Er.E (Ep.name rfl) (Er.nil (Tr.lxr (news := [(x.L + 1, o'), (D, listOf wvs.toArray k)]) hr ?_ hC ?_ (by omega) (by omega) fun v n' hv => Er.nil ?_)))))))
  · exact List.forall_mem_cons.mpr ⟨Nat.ne_of_gt h7', List.forall_mem_cons.mpr ⟨Nat.ne_of_gt h7D, List.forall_mem_nil _⟩⟩
  · exact List.forall_mem_cons.mpr ⟨.tail _ (.tail _ (.tail _ (.head _))), List.forall_mem_cons.mpr ⟨.tail _ (.head _), List.forall_mem_cons.mpr ⟨.tail _ (.tail _ (.head _)), List.forall_mem_nil _⟩⟩⟩
  obtain ⟨X', S, tl, rfl, hSr, hSp, hSt, hnm, hlo, D', L', hsub, ⟨ps, hps⟩, hpl⟩ := hv
  refine Tr.told hout hXB hTB (p0 := [⟨theLine, ws⟩]) (by rw [phi_line]; omega) (.mk ⟨hnm, ?_, ?_, .inl ⟨hSt, ?_⟩⟩ (by rw [hlo]; exact .nil)) (fun t ht => List.mem_singleton.mp ht ▸ hok) D' L' hpl (by omega) (by omega) fun v n2 hv => ?_
  · rw [hSp]; exact Nat.zero_le _
  · rw [hSr]; exact hr
  · rw [hSp, hSr]; exact line_spell ws 0 hok
  obtain ⟨Dt, vs, kt, rows, rfl, hDt, hrows, hTR, hb⟩ := hv
  obtain ⟨fu, hma⟩ := hTR.ma rfl
  have hrl := hTR.len
  rw [phi_line] at hrl
  refine Ev.dcall g_rw k_rw (Er.E (Ep.nameC (c := x.L + 1) (by rw [hcl]; rfl) (hb _ (hsub _ (.head _))) ho) (Er.nil (Tr.con (rw_spec (news := n2) (hb _ (hsub _ (.tail _ (.head _)))) hs hok (by rw [phi_line]; omega) hma (by omega)) trivial (fun _ h => h) (by omega) (by omega) (fun v n3 hv => ⟨n3, fun _ h => h, ?_⟩) (fun _ _ z => z.elim))))
  obtain ⟨D3, vs3, k3, rfl, h1, h2, h3⟩ := hv
  refine Tr.mk fun s Q E ok st q _ _ => ?_
  refine eq_rows st.2 (h3 _ hDt) h1 (hrows.mono h3) h2 ?_ (q _ _ n3 s.heap s.toks ⟨rfl, ps, h3 _ (hb _ hps)⟩ st)
  have := ok.hu
  show x.un + 16 < cLine
  omega
theorem Ex.wp {x : Fx} {f : Fn} {m : Loc} {n : Led} {ts : List Stmt} {R : Flow → Loc → Led → Prop} (h : Ex x f m n ts R NoX) {s : Shared} {Q : Flow → Shared → Prop} {E : Value → Shared → Prop} (ok : x.Ok f) (st : Kn x m n s.heap) (q : ∀ fl m' n' h' tk', R fl m' n' → Kn x m' n' h' → Q fl { s with heap := h', toks := tk' }) (po : PassesOwn x.M (x.A f) (x.env f) E) : wpAny x.M (x.A f) (execs ts (x.env f)) Q E s :=
  h.run s Q E ok st q (fun _ _ _ _ _ z => z.elim) po
theorem law_ex {fa : Addr} {fc : Value} {x : Fx} (hc : 640 ≤ x.c) (hu : 6600 ≤ x.u) (hcl : x.cl = [(Str.ofString "words", x.L + 1)]) (hout : x.outer = []) (hXB : (Mine.KK x.w.params).In x.base) (hTB : Top x.p x.loose x.mean x.mg x.mb x.base) (hC : CodeHd x.G 786 782) (h7 : @LT.lt Nat _ 782 x.L) {l : Addr} {vs : List Value} {ns : List Int} (hl : x.G.IsList l vs.toArray) (hI : IntsAre vs ns) (hlen : ns.length ≤ 63) {o : Obj} (ho : o.data = .cell none) :
    Ex x (lawF fa fc) [(Str.ofString "script", .ref l)] [(x.L + 1, o), (782, tabObj #[])] (fb o818.1) (fun fl _ n' => fl = .ret (.bool true) ∧ ∃ ps, (782, tabObj ps) ∈ n') NoX :=
  law_loop (by omega) (by omega) hcl hl hI hlen ho h7 fun m D wvs k ws o' g1 g2 g3 g4 g5 => law_ret hc hu hcl hout hXB hTB hC h7 g1 g2 g3 g4 g5
theorem law_wp {fa : Addr} {fc : Value} {x : Fx} {l : Addr} {o : Obj} {ts : List Stmt} (h : Ex x (lawF fa fc) [(Str.ofString "script", .ref l)] [(x.L + 1, o), (782, tabObj #[])] ts (fun fl _ n' => fl = .ret (.bool true) ∧ ∃ ps, (782, tabObj ps) ∈ n') NoX) {m : Str → Option Value} {s : Shared} {Q : Flow → Shared → Prop} {E : Value → Shared → Prop} (ok : x.Ok (lawF fa fc)) (F : Fr x.G x.L s.heap m) (hm : m (Str.ofString "script") = some (.ref l)) (N : News x.G x.L s.heap [(x.L + 1, o), (782, tabObj #[])])
    (hE : PassesOwn x.M (x.A (lawF fa fc)) (x.env (lawF fa fc)) E) (q : ∀ h' m' n' ps tk, (782, tabObj ps) ∈ n' → Fr x.G x.L h' m' → News x.G x.L h' n' → Q (.ret (.bool true)) { s with heap := h', toks := tk }) : wpAny x.M (x.A (lawF fa fc)) (execs ts (x.env (lawF fa fc))) Q E s := by
  have st : Kn x [(Str.ofString "script", .ref l)] [(x.L + 1, o), (782, tabObj #[])] s.heap := ⟨⟨m, F, fun y v e => by
    rw [look_cons] at e
    dsimp only at e
    split at e
    · next hz => rw [hz, hm]; exact e
    · cases e⟩, N⟩
  refine h.run s Q E ok st (fun fl m' n' h' tk' hR st' => ?_) (fun _ _ _ _ _ z => z.elim) hE
  obtain ⟨rfl, ps, hps⟩ := hR
  obtain ⟨⟨mm, F', _⟩, N'⟩ := st'
  exact q h' mm n' ps tk' hps F' N'
theorem law_run {ts : List Stmt} (hts : ts = fb o818.1) {w : World} {p : Program} {loose : List Str} {mean : ExcName → Option Value} {mg mb : Str → Option Value} {g : Heap} {L fa l : Addr} {fc : Value} {m : Str → Option Value} {s : Shared} {Q : Flow → Shared → Prop} {E : Value → Shared → Prop} {vs : List Value} {ns : List Int} {o : Obj}
    (X : (Mine.KK w.params).In g) (T : Top p loose mean mg mb g) (K : Below callerA g [] g) (F : Fr g L s.heap m) (hm : m (Str.ofString "script") = some (.ref l)) (hl : g.IsList l vs.toArray) (hI : IntsAre vs ns) (hlen : ns.length ≤ 63) (hC : CodeHd g 786 782) (N : News g L s.heap [(L + 1, o), (782, tabObj #[])]) (ho : o.data = .cell none) (h7 : @LT.lt Nat _ 782 L)
    (hE : PassesOwn (model PySem.Challenge.pw_in0151_02 w) (callerA.deeper (envX (lawF fa fc).cn (lawF fa fc).cs L fa fc [(Str.ofString "words", L + 1)])) (envX (lawF fa fc).cn (lawF fa fc).cs L fa fc [(Str.ofString "words", L + 1)]) E)
    (q : ∀ h' m' n' ps tk, (782, tabObj ps) ∈ n' → Fr g L h' m' → News g L h' n' → Q (.ret (.bool true)) { s with heap := h', toks := tk }) :
    wpAny (model PySem.Challenge.pw_in0151_02 w) (callerA.deeper (envX (lawF fa fc).cn (lawF fa fc).cs L fa fc [(Str.ofString "words", L + 1)])) (execs ts (envX (lawF fa fc).cn (lawF fa fc).cs L fa fc [(Str.ofString "words", L + 1)])) Q E s := by
  have h1 : (500 : Nat) ≤ 690 := by omega
  have h2 : (5000 : Nat) ≤ 9000 := by omega
  have h3 : (640 : Nat) ≤ 690 := by omega
  have h4 : (6600 : Nat) ≤ 9000 := by omega
  have h5 : 302 + 690 < recursionLimit := by unfold recursionLimit; omega
  have h6 : 7 + 9000 < cLine := by unfold cLine; omega
  have ok : Fx.Ok ⟨w, p, loose, mean, mg, mb, 302, 7, 690, 9000, some [], [(Str.ofString "words", L + 1)], [], callerA, g, g, L⟩ (lawF fa fc) := ⟨K, X, T, rfl, h5, h6⟩
  have h := law_ex (fa := fa) (fc := fc) (x := ⟨w, p, loose, mean, mg, mb, 302, 7, 690, 9000, some [], [(Str.ofString "words", L + 1)], [], callerA, g, g, L⟩) h3 h4 rfl rfl X T hC h7 hl hI hlen ho
  rw [← hts] at h
  exact law_wp h ok F hm N hE q
end Mine

end
section
open Mine
theorem Mine.pre_La : PySem.Challenge.rw_in0151_02 = PySem.Challenge.rw_in0151_02 ∧ Mine.KK = Mine.KK := by
  k_with_none
  k_fill
  k_with "om" => (first | with_reducible assumption | exact Nat.le_of_ble_eq_true rfl | with_reducible exact Nat.ne_of_lt (by assumption) | with_reducible exact Nat.ne_of_gt (by assumption) | with_reducible exact Nat.le_of_lt (by assumption) | with_reducible exact Nat.le_refl _ | with_reducible exact Nat.le_add_right _ _ | with_reducible exact Nat.lt_add_one _ | with_reducible exact Nat.succ_le_of_lt (by assumption) | with_reducible exact Nat.lt_of_succ_le (by assumption) | with_reducible exact Int.ofNat_lt.mpr (by assumption) | with_reducible exact Int.natCast_nonneg _ | with_reducible exact Mine.o_n (by assumption) | with_reducible exact Mine.o_l (by assumption) | with_reducible exact Mine.o_i (by assumption) (by assumption) | with_reducible exact Mine.o_k (by assumption) (by assumption) | with_reducible exact Mine.o_m (by assumption) (by assumption) | with_reducible exact Mine.o_w (by assumption) | with_reducible exact Mine.o_v (by assumption) (by assumption) (by assumption) | with_reducible exact Mine.o_s (by assumption) | with_reducible exact Mine.o_t (by assumption) | with_reducible exact Mine.o_17 (by assumption) | with_reducible exact Mine.o_y (by assumption) (by assumption) | with_reducible exact Mine.o_z (by assumption) (by assumption) | with_reducible exact Mine.o_y2 (by assumption) (by assumption) | exact Mine.o_a (a := 10000) (by with_reducible assumption) rfl | exact Mine.o_a (a := 9000) (by with_reducible assumption) rfl | exact Mine.o_a (a := 256) (by with_reducible assumption) rfl | exact Mine.o_a (a := 300) (by with_reducible assumption) rfl | exact Mine.o_a (by with_reducible assumption) rfl | exact Mine.o_b (a := 10000) (by with_reducible assumption) rfl | exact Mine.o_b (a := 9000) (by with_reducible assumption) rfl | exact Mine.o_b (a := 256) (by with_reducible assumption) rfl | exact Mine.o_b (by with_reducible assumption) rfl | exact Mine.o_c (by with_reducible assumption) rfl | exact Mine.o_d (by with_reducible assumption) rfl | exact Mine.o_e (by with_reducible assumption) rfl | exact Mine.o_f (by with_reducible assumption) rfl | exact Mine.o_g (by with_reducible assumption) rfl | exact Mine.o_h (by with_reducible assumption) rfl | exact Mine.o_1 (by with_reducible assumption) rfl | exact Mine.o_2 (by with_reducible assumption) rfl | exact Mine.o_3 (by with_reducible assumption) rfl | exact Mine.o_4 (by with_reducible assumption) rfl | with_reducible exact Mine.o_5 (by assumption) | exact Mine.o_6 (by with_reducible assumption) rfl | exact Mine.o_7 (by with_reducible assumption) rfl | exact Mine.o_12 (by with_reducible assumption) (by with_reducible assumption) rfl | exact Mine.o_13 (by with_reducible assumption) (by with_reducible assumption) rfl | exact Mine.o_14 (by with_reducible assumption) (by with_reducible assumption) rfl | exact Mine.o_15 (by with_reducible assumption) (by with_reducible assumption) rfl | with_reducible exact Mine.o_18 (by assumption) (by assumption) | with_reducible exact Mine.o_11 (by assumption) (by assumption) | with_reducible exact Mine.o_x (by assumption) (by assumption) | with_reducible exact Nat.ne_of_lt (Nat.lt_trans (by assumption) (by assumption)) | with_reducible exact Nat.ne_of_gt (Nat.lt_trans (by assumption) (by assumption)) | with_reducible exact Mine.o_r (by assumption) (by assumption) | with_reducible exact Mine.o_o (by assumption) (by assumption) | with_reducible exact Mine.o_p (by assumption) (by assumption) | with_reducible exact Mine.o_q (by assumption) (by assumption) | with_reducible exact Mine.o_u (by assumption) (by assumption) | with_reducible exact Mine.o_j (by assumption) (by assumption) | with_reducible exact Mine.o_20 (by assumption) | with_reducible exact Mine.o_21 (by assumption) | with_reducible exact Mine.o_22 (by assumption) | with_reducible exact Mine.o_23 (by assumption) | with_reducible exact Mine.o_24 (by assumption) | with_reducible exact Mine.o_28 (by assumption) | with_reducible exact Mine.o_29 (by assumption) | with_reducible exact Mine.o_31 (by assumption) | with_reducible exact Mine.o_25 (by assumption) (by assumption) (by assumption) | with_reducible exact Mine.o_26 (by assumption) (by assumption) (by assumption) | with_reducible exact Mine.o_27 (by assumption) (by assumption) | with_reducible exact Mine.o_30 (by assumption) (by assumption) | exact Mine.o_19 (by with_reducible assumption) (by with_reducible assumption) rfl | fail "om")
  k_with "my enter" => (refine' code_def ?k1_z ?k2_z ?k3_z ?k4_z ?k5_z ?kA_z ?kF_z ?kK_z ?k6_z ?k7_z ?k8_z ?k9_z ?kB_z ?_ ?c2_z ?c3_z ?c4_z ?c5_z; (case kA_z => exact rfl); (case kF_z => exact rfl); (case kK_z => first | exact rfl | assumption); (case k1_z => k_asm); (case k2_z => k_asm); (case k3_z => k_asm); (case k4_z => k_asm); (case k5_z => k_asm); (case k6_z => k_is); (case k7_z => k_is); (case k8_z => ktr_room); (case k9_z => first | exact BindsTo.of_eq rfl | exact binds_K (by k_in) rfl (by k_is) rfl rfl rfl); (case c5_z => decide); (case kB_z => exact locs rfl); (case c2_z => exact rfl); (case c3_z => exact rfl); (case c4_z => exact rfl); k_whole; intro G LL h1 FG F1 N1 B1 X1 T1; (try dsimp only); (try k_lift B1); (try k_fold))
  k_with "call builtin:str.find" => (refine Mine.find4 (by first | rfl | omega) ?_)
  k_with "truthy str" => ((with_reducible show wpAny _ _ (PySem.truthy (Value.str (Str.mk (List.toArray _)) _)) _ _ _); (refine Mine.truthy_T (by first | assumption | omega) ?_); intro _)
  k_with "truthy str" => ((with_reducible show wpAny _ _ (PySem.truthy (Value.str (Str.mk (List.toArray [_])) _)) _ _ _); (refine Mine.truthy_one ?_); intro _)
  k_with "compareOp In str str" => ((with_reducible show wpAny _ _ (compareOp CmpOp.In (Value.str (Str.mk (List.toArray [_])) _) _) _ _ _); first | refine Mine.in_ws ?_ | refine Mine.in_cm ?_ | refine Mine.in_es ?_ | refine Mine.in_dt ?_ | refine Mine.in_wc ?_ | refine Mine.in_none ?_ | refine Mine.in_qs ?_)
  k_with "inplaceOp Add str str" => ((with_reducible show wpAny _ _ (inplaceOp _ (Value.str (Str.mk (List.toArray _)) _) (Value.str (Str.mk (List.toArray _)) _)) _ _ _); (refine Mine.iadd_T (by first | omega | (simp only [List.length_append, List.length_cons, List.length_nil] at *; omega)) ?_); intro _ _)
  k_with "compareOp Eq str str" => ((with_reducible show wpAny _ _ (compareOp CmpOp.Eq (Value.str (Str.mk (List.toArray [_])) _) _) _ _ _); ((with_reducible first | refine Mine.eq_nl ?_ ?_ | refine Mine.eq_sp ?_ ?_ | refine Mine.eq_lc ?_ ?_ | refine Mine.eq_hs ?_ ?_ | refine Mine.eq_dq ?_ ?_ | refine Mine.eq_bs ?_ ?_ | refine Mine.eq_dd ?_ ?_) <;> (intro hspz; first | (exfalso; revert hspz; decide) | (subst hspz) | skip)))
  k_with "compareOp NotEq str str" => ((with_reducible show wpAny _ _ (compareOp CmpOp.NotEq (Value.str (Str.mk (List.toArray [_])) _) _) _ _ _); ((with_reducible refine Mine.ne_dd ?_ ?_) <;> (intro hspz; first | (exfalso; revert hspz; decide) | (subst hspz) | skip)))
  k_with "exec If" => refine wpAny_If ?_
  k_with "call type:ValueError" => (k_dflt (refine Mine.raise_VE ?_); intro h'z ez hmxz)
  k_with "leaving ref" => (k_dflt (refine' leave_raiseS ?k1_z (Heap.MadeExc.of ?k2_z) ?k3_z ?k4_z ?_; (case k1_z => assumption); (case k2_z => assumption); (case k3_z => assumption); (case k4_z => assumption)); intro h'z t'z R1z R2z U1z)
  k_with "subscriptTail Name Name str int" => (k_dflt (refine Mine.item_T (by omega) (by omega) ?_; intro cz s'z hsufz tkz kz))
  k_with "subscriptTail Name Name str int" => (k_dflt (refine Mine.item_H (by assumption) (by omega) ?_; intro tkz kz))
  k_with "call ref" => (k_here; (with_reducible show wpAny _ _ (call (Value.ref 554) [Value.ref _, Value.int _ _]) _ _ _); k_dflt (refine' Mine.rd1_at ?k1_z ?k2_z ?k3_z ?k4_z ?k5_z ?kK_z ?km_z ?kU_z ?kn_z ?kp_z ?kd_z ?ku_z ?_ ?_; (case k1_z => k_asm); (case k2_z => k_asm); (case k3_z => k_asm); (case k4_z => k_asm); (case k5_z => k_asm); (case kK_z => first | exact rfl | assumption); (case km_z => k_mem); (case kU_z => k_updF); (case kn_z => omega); (case kp_z => constructor <;> omega); (case kd_z => ktr_room); (case ku_z => ktr_units); all_goals (intro cz s'z hsufz h'z tk'z tz t'z F'z N'z; (try dsimp only at N'z); (try k_sweep))))
  k_with "call ref" => (k_here; (try simp only [List.nil_append, List.cons_append, List.append_nil]); (with_reducible show wpAny _ _ (call (Value.ref 562) [Value.ref _]) _ _ _); k_dflt (refine' Mine.rl_at ?k1_z ?k2_z ?k3_z ?k4_z ?k5_z ?kK_z ?km_z ?kU_z ?kn_z ?kp_z ?kd_z ?ku_z ?_; (case k1_z => k_asm); (case k2_z => k_asm); (case k3_z => k_asm); (case k4_z => k_asm); (case k5_z => k_asm); (case kK_z => first | exact rfl | assumption); (case km_z => k_mem); (case kU_z => k_updF); (case kn_z => omega); (case kp_z => constructor <;> omega); (case kd_z => ktr_room); (case ku_z => ktr_units); (intro xz h'z tk'z tz t'z F'z N'z; (try dsimp only at N'z); (try k_sweep))))
  k_with "exec While Constant cons nil" => refine Mine.Halt.out ?_
  k_with "KswEnd" => refine Mine.Halt.out ?_
  k_with "truthy ref" => (k_here; k_dflt (refine' Mine.dq_truthy_N ?N_z ?m_z ?f_z ?_; (case N_z => k_asm); (case m_z => k_mem); (case f_z => first | decide | omega | (simp only [List.length_cons, List.length_nil]; omega)); k_whole); intro _; (try simp only [List.isEmpty_cons, List.isEmpty_nil, Bool.not_false, Bool.not_true]))
  k_with "getMethod ref" => (k_here; (with_reducible show wpAny _ _ (getMethod (Value.ref _) (PySem.Str.ofString "appendleft") _) _ _ _); k_dflt (refine' Mine.dq_method ?N_z ?m_z Mine.slot_dq_appendleft Mine.type_dq_appendleft ?_; (case N_z => k_asm); (case m_z => k_mem)))
  k_with "getMethod ref" => (k_here; (with_reducible show wpAny _ _ (getMethod (Value.ref _) (PySem.Str.ofString "popleft") _) _ _ _); k_dflt (refine' Mine.dq_method ?N_z ?m_z Mine.slot_dq_popleft Mine.type_dq_popleft ?_; (case N_z => k_asm); (case m_z => k_mem)))
  k_with "call builtin:collections.deque.appendleft" => (k_here; k_dflt (refine' Mine.dq_appendleft ?k1_z ?k2_z ?k3_z ?z_z ?_; (case k1_z => k_asm); (case k2_z => k_asm); (case k3_z => k_upd); (case z_z => first | decide | omega)); intro h'z F'z N'z; (try k_sweep))
  k_with "call builtin:collections.deque.popleft" => (k_here; k_dflt (refine' Mine.dq_popleft ?k1_z ?k2_z ?k3_z ?z_z ?_; (case k1_z => k_asm); (case k2_z => k_asm); (case k3_z => k_upd); (case z_z => first | decide | omega)); intro h'z F'z N'z; (try k_sweep))
  k_with "compareOp In str str" => ((with_reducible show wpAny _ _ (compareOp CmpOp.In (Value.str (Mine.ES.str _) _) _) _ _ _); (rename Mine.ES => ezz; cases ezz <;> dsimp only [Mine.ES.str] at *))
  k_with "compareOp In str str" => ((with_reducible show wpAny _ _ (compareOp CmpOp.In (Value.str (Mine.ES.str _) _) _) _ _ _); (rename Mine.ES => ezz; cases ezz <;> dsimp only [Mine.ES.str] at *); all_goals (try (exfalso; (have hqz := (by assumption : Mine.ES.sp = Mine.ES.sp → _ ≤ _) rfl); omega)))
  exact ⟨rfl, rfl⟩
set_option maxRecDepth 100000 in
theorem PySem.Challenge.cw_in0151_02_holds : PySem.Challenge.rw_in0151_02.Holds := by
  w_on
  refine holds_law Mine.well1 fun said => ?_
  refine holds_open (q := Mine.q1) (loose := Mine.loose1) (Xt := fun s => xlAt Mine.q1 [] s && recOk (RowW.records PySem.Challenge.rw_in0151_02.row.toRowW) s) (XP := XL Mine.q1 []) (Yf := Hook.obs Mine.hook) (Ya := Hook.val Mine.hook) (YP := Hook.says Mine.hook) (N := 10374) Mine.left1 (Hook.of Mine.hook) (Hook.keeps Mine.hook) (fun s e => xl_of s (Bool.and_eq_true_iff.mp e).1) XL.keeps (by rfl) (by rfl) (by rfl) (fun s e => recFacts_of (Bool.and_eq_true_iff.mp e).2) (by rfl) (by first | assumption | decide +kernel) (by decide +kernel) ⟨rfl, rfl, rfl, rfl, rfl, by decide +kernel⟩ ?hw ?hc
  case hw => w_witness2
  clear said
  w_strict (
    k_go0
    (all_goals try k_fold)
    rename (_ = Data.cell _) => hcell
    rename (¬ _ < _) => hlen9
    obtain ⟨ts, hts⟩ : ∃ ts, ts = Mine.fb Mine.o818.1 := ⟨_, rfl⟩
    change wpAny _ _ (execs (Mine.fb Mine.o818.1) _) _ _ _
    rw [← hts]
    refine' Mine.law_run hts ?X ?T ?K ?F ?hm ?hl ?hI ?hlen ?hC ?N ?ho ?h7 ?hE ?q
    case K => assumption
    case X => assumption
    case T => assumption
    case F => assumption
    case N => assumption
    case hl => assumption
    case hm => rfl
    case hI => assumption
    case hlen => omega
    case hC => assumption
    case ho => exact hcell.trans rfl
    case h7 => assumption
    case hE => exact PassesOwn.leaving
    case q =>
      intro h' m' n' ps tk hps F9 N9
      refine ⟨?_, GrownAt.of N9 hps, trivial⟩
      refine goodW_bool F9 ?g9 (raisesW_false ?r9) ?p9
      case g9 => first | assumption | (dsimp only; assumption)
      case r9 => wrow_none_raised
      case p9 => (refine postW_of (by wrow_shape) (w_eq_bool (w_res rfl) w_lit) ?_; rfl))

end
