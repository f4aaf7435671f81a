import PyProof.Rows.All
import Wide.All
import OpenK.AllK
import Wide.FinOn
import Lean
import PySem.Challenge.RW_in0151_01
open PySem PySem.W PyProof.Rows
set_option Elab.async false
set_option linter.all false
set_option maxRecDepth 100000
set_option maxHeartbeats 8000000
set_option rowWalk.seconds 0
namespace Mine
noncomputable def nth : List Stmt → Nat → Stmt
  | [], _ => .Pass default
  | s :: _, 0 => s
  | _ :: l, n + 1 => nth l n
noncomputable def cb : Stmt → List Stmt
  | .ClassDef _ _ _ b _ _ _ _ _ _ _ => b
  | _ => []
noncomputable abbrev bd : List Stmt := PySem.Challenge.pw_in0151_01.main.body
noncomputable def foS (nm ql : Str) (dV kV doc pm : Value) (an : Option Addr) (cd ct : Value) (st : Stmt) : Option Obj := match st with
  | .FunctionDef _ a b _ _ _ sc _ _ _ => some ⟨.type "function", none, .func (fnOf nm ql a b sc dV kV doc pm an cd ct), #[]⟩
  | _ => none
noncomputable abbrev Fo (nm ql : Str) (dV kV doc pm : Value) (an : Option Addr) (cd ct : Value) (st : Stmt) : Type := { o : Obj // foS nm ql dV kV doc pm an cd ct st = some o }
noncomputable abbrev dE (P : Params) (k : String) (t : Tok) (v : Value) : DictEntry := ⟨PyData.keyHash P (Str.ofString k), .str (Str.ofString k) t, v⟩
noncomputable def o46 : Fo (Str.ofString "read_uint1") (Str.ofString "read_uint1") (Value.none) (Value.none) (Value.none) (Value.str (Str.ofString "cpy313.pickletools") 286) (none) (Value.ref 45) (Value.none) (nth bd 3) := ⟨⟨_, _, .func (fnOf _ _ _ _ _ _ _ _ _ _ _ _), _⟩, rfl⟩
noncomputable def o53 : Fo (Str.ofString "read_string1") (Str.ofString "read_string1") (Value.none) (Value.none) (Value.none) (Value.str (Str.ofString "cpy313.pickletools") 286) (none) (Value.ref 52) (Value.none) (nth bd 4) := ⟨⟨_, _, .func (fnOf _ _ _ _ _ _ _ _ _ _ _ _), _⟩, rfl⟩
noncomputable def o60 : Fo (Str.ofString "read_bytes1") (Str.ofString "read_bytes1") (Value.none) (Value.none) (Value.none) (Value.str (Str.ofString "cpy313.pickletools") 286) (none) (Value.ref 59) (Value.none) (nth bd 5) := ⟨⟨_, _, .func (fnOf _ _ _ _ _ _ _ _ _ _ _ _), _⟩, rfl⟩
noncomputable def o74 : Fo (Str.ofString "_index") (Str.ofString "_index") (Value.none) (Value.none) (Value.none) (Value.str (Str.ofString "io") 314) (none) (Value.ref 73) (Value.none) (nth bd 8) := ⟨⟨_, _, .func (fnOf _ _ _ _ _ _ _ _ _ _ _ _), _⟩, rfl⟩
noncomputable def o101 : Fo (Str.ofString "__new__") (Str.ofString "IOBase.__new__") (Value.none) (Value.none) (Value.none) (Value.str (Str.ofString "io") 314) (none) (Value.ref 100) (Value.none) (nth (cb (nth bd 10)) 1) := ⟨⟨_, _, .func (fnOf _ _ _ _ _ _ _ _ _ _ _ _), _⟩, rfl⟩
noncomputable def o378 : Fo (Str.ofString "__init__") (Str.ofString "StringIO.__init__") (Value.ref 371) (Value.none) (Value.none) (Value.str (Str.ofString "io") 314) (none) (Value.ref 377) (Value.none) (nth (cb (nth bd 14)) 1) := ⟨⟨_, _, .func (fnOf _ _ _ _ _ _ _ _ _ _ _ _), _⟩, rfl⟩
noncomputable def o385 : Fo (Str.ofString "__translated") (Str.ofString "StringIO.__translated") (Value.none) (Value.none) (Value.none) (Value.str (Str.ofString "io") 314) (none) (Value.ref 384) (Value.none) (nth (cb (nth bd 14)) 2) := ⟨⟨_, _, .func (fnOf _ _ _ _ _ _ _ _ _ _ _ _), _⟩, rfl⟩
noncomputable def o392 : Fo (Str.ofString "__check") (Str.ofString "StringIO.__check") (Value.none) (Value.none) (Value.none) (Value.str (Str.ofString "io") 314) (none) (Value.ref 391) (Value.none) (nth (cb (nth bd 14)) 3) := ⟨⟨_, _, .func (fnOf _ _ _ _ _ _ _ _ _ _ _ _), _⟩, rfl⟩
noncomputable def o406 : Fo (Str.ofString "__line") (Str.ofString "StringIO.__line") (Value.none) (Value.none) (Value.none) (Value.str (Str.ofString "io") 314) (none) (Value.ref 405) (Value.none) (nth (cb (nth bd 14)) 5) := ⟨⟨_, _, .func (fnOf _ _ _ _ _ _ _ _ _ _ _ _), _⟩, rfl⟩
noncomputable def o453 : Fo (Str.ofString "close") (Str.ofString "StringIO.close") (Value.none) (Value.none) (Value.none) (Value.str (Str.ofString "io") 314) (none) (Value.ref 452) (Value.none) (nth (cb (nth bd 14)) 11) := ⟨⟨_, _, .func (fnOf _ _ _ _ _ _ _ _ _ _ _ _), _⟩, rfl⟩
noncomputable def o554 : Fo (Str.ofString "read") (Str.ofString "StringIO.read") (Value.ref 547) (Value.none) (Value.none) (Value.str (Str.ofString "io") 314) (none) (Value.ref 553) (Value.none) (nth (cb (nth bd 14)) 25) := ⟨⟨_, _, .func (fnOf _ _ _ _ _ _ _ _ _ _ _ _), _⟩, rfl⟩
noncomputable def o562 : Fo (Str.ofString "readline") (Str.ofString "StringIO.readline") (Value.ref 555) (Value.none) (Value.none) (Value.str (Str.ofString "io") 314) (none) (Value.ref 561) (Value.none) (nth (cb (nth bd 14)) 26) := ⟨⟨_, _, .func (fnOf _ _ _ _ _ _ _ _ _ _ _ _), _⟩, rfl⟩
noncomputable def o667 : Fo (Str.ofString "__init__") (Str.ofString "shlex.__init__") (Value.ref 660) (Value.none) (Value.none) (Value.str (Str.ofString "cpy313.shlex") 1029) (none) (Value.ref 666) (Value.none) (nth (cb (nth bd 23)) 0) := ⟨⟨_, _, .func (fnOf _ _ _ _ _ _ _ _ _ _ _ _), _⟩, rfl⟩
noncomputable def o674 : Fo (Str.ofString "punctuation_chars") (Str.ofString "shlex.punctuation_chars") (Value.none) (Value.none) (Value.none) (Value.str (Str.ofString "cpy313.shlex") 1029) (none) (Value.ref 673) (Value.none) (nth (cb (nth bd 23)) 1) := ⟨⟨_, _, .func (fnOf _ _ _ _ _ _ _ _ _ _ _ _), _⟩, rfl⟩
noncomputable def o690 : Fo (Str.ofString "push_source") (Str.ofString "shlex.push_source") (Value.ref 683) (Value.none) (Value.none) (Value.str (Str.ofString "cpy313.shlex") 1029) (none) (Value.ref 689) (Value.none) (nth (cb (nth bd 23)) 3) := ⟨⟨_, _, .func (fnOf _ _ _ _ _ _ _ _ _ _ _ _), _⟩, rfl⟩
noncomputable def o697 : Fo (Str.ofString "pop_source") (Str.ofString "shlex.pop_source") (Value.none) (Value.none) (Value.none) (Value.str (Str.ofString "cpy313.shlex") 1029) (none) (Value.ref 696) (Value.none) (nth (cb (nth bd 23)) 4) := ⟨⟨_, _, .func (fnOf _ _ _ _ _ _ _ _ _ _ _ _), _⟩, rfl⟩
noncomputable def o704 : Fo (Str.ofString "get_token") (Str.ofString "shlex.get_token") (Value.none) (Value.none) (Value.none) (Value.str (Str.ofString "cpy313.shlex") 1029) (none) (Value.ref 703) (Value.none) (nth (cb (nth bd 23)) 5) := ⟨⟨_, _, .func (fnOf _ _ _ _ _ _ _ _ _ _ _ _), _⟩, rfl⟩
noncomputable def o711 : Fo (Str.ofString "read_token") (Str.ofString "shlex.read_token") (Value.none) (Value.none) (Value.none) (Value.str (Str.ofString "cpy313.shlex") 1029) (none) (Value.ref 710) (Value.none) (nth (cb (nth bd 23)) 6) := ⟨⟨_, _, .func (fnOf _ _ _ _ _ _ _ _ _ _ _ _), _⟩, rfl⟩
noncomputable def o752 : Fo (Str.ofString "_law_piece") (Str.ofString "_law_piece") (Value.none) (Value.none) (Value.none) (Value.str (Str.ofString "law_in0151_01") 1170) (none) (Value.ref 751) (Value.none) (nth bd 25) := ⟨⟨_, _, .func (fnOf _ _ _ _ _ _ _ _ _ _ _ _), _⟩, rfl⟩
noncomputable def o759 : Fo (Str.ofString "_law_lexer") (Str.ofString "_law_lexer") (Value.none) (Value.none) (Value.none) (Value.str (Str.ofString "law_in0151_01") 1170) (none) (Value.ref 758) (Value.none) (nth bd 26) := ⟨⟨_, _, .func (fnOf _ _ _ _ _ _ _ _ _ _ _ _), _⟩, rfl⟩
noncomputable def o766 : Fo (Str.ofString "_law_told") (Str.ofString "_law_told") (Value.none) (Value.none) (Value.none) (Value.str (Str.ofString "law_in0151_01") 1170) (none) (Value.ref 765) (Value.none) (nth bd 27) := ⟨⟨_, _, .func (fnOf _ _ _ _ _ _ _ _ _ _ _ _), _⟩, rfl⟩
noncomputable def o773 : Fo (Str.ofString "_law_part_of_word") (Str.ofString "_law_part_of_word") (Value.none) (Value.none) (Value.none) (Value.str (Str.ofString "law_in0151_01") 1170) (none) (Value.ref 772) (Value.none) (nth bd 28) := ⟨⟨_, _, .func (fnOf _ _ _ _ _ _ _ _ _ _ _ _), _⟩, rfl⟩
noncomputable def o780 : Fo (Str.ofString "_law_behind_line") (Str.ofString "_law_behind_line") (Value.none) (Value.none) (Value.none) (Value.str (Str.ofString "law_in0151_01") 1170) (none) (Value.ref 779) (Value.none) (nth bd 29) := ⟨⟨_, _, .func (fnOf _ _ _ _ _ _ _ _ _ _ _ _), _⟩, rfl⟩
noncomputable def o787 : Fo (Str.ofString "_law_behind_gap") (Str.ofString "_law_behind_gap") (Value.none) (Value.none) (Value.none) (Value.str (Str.ofString "law_in0151_01") 1170) (none) (Value.ref 786) (Value.none) (nth bd 30) := ⟨⟨_, _, .func (fnOf _ _ _ _ _ _ _ _ _ _ _ _), _⟩, rfl⟩
noncomputable def o792 : Fo (Str.ofString "_law_quoted") (Str.ofString "_law_quoted") (Value.none) (Value.none) (Value.none) (Value.str (Str.ofString "law_in0151_01") 1170) (none) (Value.ref 791) (Value.none) (nth bd 31) := ⟨⟨_, _, .func (fnOf _ _ _ _ _ _ _ _ _ _ _ _), _⟩, rfl⟩
noncomputable def o799 : Fo (Str.ofString "_law_word") (Str.ofString "_law_word") (Value.none) (Value.none) (Value.none) (Value.str (Str.ofString "law_in0151_01") 1170) (none) (Value.ref 798) (Value.none) (nth bd 32) := ⟨⟨_, _, .func (fnOf _ _ _ _ _ _ _ _ _ _ _ _), _⟩, rfl⟩
noncomputable def o804 : Fo (Str.ofString "_law_item") (Str.ofString "_law_item") (Value.none) (Value.none) (Value.none) (Value.str (Str.ofString "law_in0151_01") 1170) (none) (Value.ref 803) (Value.none) (nth bd 33) := ⟨⟨_, _, .func (fnOf _ _ _ _ _ _ _ _ _ _ _ _), _⟩, rfl⟩
noncomputable def o811 : Fo (Str.ofString "_law_walk") (Str.ofString "_law_walk") (Value.none) (Value.none) (Value.none) (Value.str (Str.ofString "law_in0151_01") 1170) (none) (Value.ref 810) (Value.none) (nth bd 34) := ⟨⟨_, _, .func (fnOf _ _ _ _ _ _ _ _ _ _ _ _), _⟩, rfl⟩
noncomputable def o816 : Fo (Str.ofString "law") (Str.ofString "law") (Value.none) (Value.none) (Value.none) (Value.str (Str.ofString "law_in0151_01") 1170) (none) (Value.ref 815) (Value.none) (nth bd 35) := ⟨⟨_, _, .func (fnOf _ _ _ _ _ _ _ _ _ _ _ _), _⟩, rfl⟩
noncomputable def KK (P : Params) : Frag :=
  (nat_lit 2, ⟨Value.none, none, .dict #[dE P "\x69mport.loaded._collections" (185) (Value.bool true), dE P "class._frozen_importlib.BuiltinImporter" (187) (Value.ref 15), dE P "watched.\x69mport" (208) (Value.ref 19), dE P "class._frozen_importlib.ModuleSpec" (218) (Value.ref 23), dE P "sys.modules.booked-epoch" (247) (Value.int 3 0), dE P "sys.modules.landed._collections" (248) (Value.bool true), dE P "\x69mport.later-laid._collections" (263) (Value.bool true), dE P "watched.library" (265) (Value.ref 28), dE P "watched.library-objects" (0) (Value.str (Str.ofString "\x0d") 0), dE P "watched.library-deep._collections" (266) (Value.str (Str.ofString "\x04\x00\x00\x0c\x04\x00\x00\x0c\x04\x00\x00\x03\x04\x00\x00\x0c\x08\x04dict\x02") 0), dE P "type.__subclasses__.OSError.0" (350) (Value.int 84 0), dE P "type.__subclasses__.OSError.n" (351) (Value.int 1 0)] 12, #[]⟩) ::
  (nat_lit 3, ⟨Value.type "dict", none, .dict #[dE P "__name__" (165) (Value.str (Str.ofString "law_in0151_01") 1170), dE P "__doc__" (166) (Value.none), dE P "__package__" (167) (Value.none), dE P "__loader__" (168) (Value.builtin "__main__.__loader__#opaque"), dE P "__spec__" (169) (Value.none), dE P "__annotations__" (170) (Value.ref 6), dE P "__builtins__" (171) (Value.ref 4), dE P "__file__" (173) (Value.str (Str.ofString "/claim/cut.py") 172), dE P "__cached__" (174) (Value.none), dE P "deque" (272) (Value.type "collections.deque"), dE P "_wall" (285) (Value.ref 39), dE P "read_uint1" (295) (Value.ref 46), dE P "read_string1" (304) (Value.ref 53), dE P "read_bytes1" (313) (Value.ref 60), dE P "_whence" (323) (Value.ref 67), dE P "_index" (331) (Value.ref 74), dE P "UnsupportedOperation" (353) (Value.ref 84), dE P "IOBase" (385) (Value.ref 104), dE P "BufferedIOBase" (403) (Value.ref 119), dE P "TextIOBase" (421) (Value.ref 131), dE P "BytesIO" (683) (Value.ref 361), dE P "StringIO" (970) (Value.ref 608), dE P "_kind" (981) (Value.ref 617), dE P "_fspath" (990) (Value.ref 624), dE P "_check_arg_types" (1000) (Value.ref 631), dE P "isabs" (1007) (Value.ref 638), dE P "join" (1018) (Value.ref 645), dE P "dirname" (1028) (Value.ref 652), dE P "shlex" (1169) (Value.ref 743), dE P "_law_piece" (1177) (Value.ref 752), dE P "_law_lexer" (1185) (Value.ref 759), dE P "_law_told" (1194) (Value.ref 766), dE P "_law_part_of_word" (1202) (Value.ref 773), dE P "_law_behind_line" (1211) (Value.ref 780), dE P "_law_behind_gap" (1220) (Value.ref 787), dE P "_law_quoted" (1226) (Value.ref 792), dE P "_law_word" (1240) (Value.ref 799), dE P "_law_item" (1246) (Value.ref 804), dE P "_law_walk" (1262) (Value.ref 811), dE P "law" (1268) (Value.ref 816)] 40, #[]⟩) ::
  (nat_lit 45, ⟨Value.type "code", none, Data.fields
  #[Value.str (Str.ofString "read_uint1") 288, Value.str (Str.ofString "read_uint1") 289,
    Value.str (Str.ofString "/claim/cut.py") 290, Value.int 6 0, Value.int 1 0, Value.int 0 0, Value.int 0 0,
    Value.int 3 0, Value.ref 40, Value.bool true, Value.int 273 0, Value.ref 41, Value.none, Value.ref 42, Value.ref 43,
    Value.ref 44, Value.int 293 0, Value.int 6 0, Value.str (Str.ofString "/claim/cut.py") 294], #[]⟩) ::
  (nat_lit 46, o46.1) ::
  (nat_lit 52, ⟨Value.type "code", none, Data.fields
  #[Value.str (Str.ofString "read_string1") 296, Value.str (Str.ofString "read_string1") 297,
    Value.str (Str.ofString "/claim/cut.py") 298, Value.int 11 0, Value.int 1 0, Value.int 0 0, Value.int 0 0,
    Value.int 3 0, Value.ref 47, Value.bool true, Value.int 273 0, Value.ref 48, Value.none, Value.ref 49, Value.ref 50,
    Value.ref 51, Value.int 302 0, Value.int 11 0, Value.str (Str.ofString "/claim/cut.py") 303], #[]⟩) ::
  (nat_lit 53, o53.1) ::
  (nat_lit 59, ⟨Value.type "code", none, Data.fields
  #[Value.str (Str.ofString "read_bytes1") 305, Value.str (Str.ofString "read_bytes1") 306,
    Value.str (Str.ofString "/claim/cut.py") 307, Value.int 18 0, Value.int 1 0, Value.int 0 0, Value.int 0 0,
    Value.int 3 0, Value.ref 54, Value.bool true, Value.int 273 0, Value.ref 55, Value.none, Value.ref 56, Value.ref 57,
    Value.ref 58, Value.int 311 0, Value.int 18 0, Value.str (Str.ofString "/claim/cut.py") 312], #[]⟩) ::
  (nat_lit 60, o60.1) ::
  (nat_lit 73, ⟨Value.type "code", none, Data.fields
  #[Value.str (Str.ofString "_index") 324, Value.str (Str.ofString "_index") 325,
    Value.str (Str.ofString "/claim/cut.py") 326, Value.int 31 0, Value.int 2 0, Value.int 0 0, Value.int 0 0,
    Value.int 3 0, Value.ref 68, Value.bool true, Value.int 273 0, Value.ref 69, Value.none, Value.ref 70, Value.ref 71,
    Value.ref 72, Value.int 329 0, Value.int 31 0, Value.str (Str.ofString "/claim/cut.py") 330], #[]⟩) ::
  (nat_lit 74, o74.1) ::
  (nat_lit 100, ⟨Value.type "code", none, Data.fields
  #[Value.str (Str.ofString "__new__") 368, Value.str (Str.ofString "IOBase.__new__") 369,
    Value.str (Str.ofString "/claim/cut.py") 370, Value.int 43 0, Value.int 1 0, Value.int 1 0, Value.int 0 0,
    Value.int 15 0, Value.ref 95, Value.bool true, Value.int 273 0, Value.ref 96, Value.none, Value.ref 97,
    Value.ref 98, Value.ref 99, Value.int 374 0, Value.int 43 0, Value.str (Str.ofString "/claim/cut.py") 375], #[]⟩) ::
  (nat_lit 101, o101.1) ::
  (nat_lit 103, ⟨Value.type "dict", none, .dict #[dE P "__module__" (361) (Value.str (Str.ofString "io") 366), dE P "__firstlineno__" (365) (Value.int 40 364), dE P "__new__" (376) (Value.ref 105), dE P "__static_attributes__" (377) (Value.ref 102), dE P "__dict__" (380) (Value.ref 106), dE P "__weakref__" (382) (Value.ref 107), dE P "__doc__" (383) (Value.none)] 4, #[]⟩) ::
  (nat_lit 104, ⟨Value.type "type", none, Data.cls
  { name := Str.ofString "IOBase", bases := [Value.type "object"], mro := [Value.ref 104, Value.type "object"],
    ns := 103, qualname := Str.ofString "IOBase", subclasses := [Value.ref 119, Value.ref 131] }, #[none, none, some (Value.str (Str.ofString "IOBase") 354), some (Value.str (Str.ofString "IOBase") 362),
  some Value.none, some (Value.bool true)]⟩) ::
  (nat_lit 105, ⟨Value.type "staticmethod", none, Data.fields #[Value.ref 101], #[]⟩) ::
  (nat_lit 106, ⟨Value.type "getset_descriptor", none, Data.fields
  #[Value.str (Str.ofString "__dict__") 379, Value.ref 104, Value.builtin "function.__dict__",
    Value.builtin "function.__dict__#set"], #[]⟩) ::
  (nat_lit 107, ⟨Value.type "getset_descriptor", none, Data.fields
  #[Value.str (Str.ofString "__weakref__") 381, Value.ref 104, Value.builtin "ExceptionGroup.__weakref__", Value.none], #[]⟩) ::
  (nat_lit 130, ⟨Value.type "dict", none, .dict #[dE P "__module__" (411) (Value.str (Str.ofString "io") 416), dE P "__firstlineno__" (415) (Value.int 49 414), dE P "__static_attributes__" (418) (Value.ref 129), dE P "__doc__" (419) (Value.none)] 2, #[]⟩) ::
  (nat_lit 131, ⟨Value.type "type", none, Data.cls
  { name := Str.ofString "TextIOBase", bases := [Value.ref 104],
    mro := [Value.ref 131, Value.ref 104, Value.type "object"], ns := 130, qualname := Str.ofString "TextIOBase",
    subclasses := [Value.ref 608] }, #[some (Value.ref 122), none, some (Value.str (Str.ofString "TextIOBase") 404),
  some (Value.str (Str.ofString "TextIOBase") 412), some Value.none, some (Value.bool true)]⟩) ::
  (nat_lit 361, ⟨Value.type "type", none, Data.cls
  { name := Str.ofString "BytesIO", bases := [Value.ref 119],
    mro := [Value.ref 361, Value.ref 119, Value.ref 104, Value.type "object"], ns := 360,
    qualname := Str.ofString "BytesIO" }, #[some (Value.ref 134), none, some (Value.str (Str.ofString "BytesIO") 422),
  some (Value.str (Str.ofString "BytesIO") 430), some Value.none, some (Value.bool true)]⟩) ::
  (nat_lit 371, ⟨Value.type "tuple", none, Data.seq #[Value.str (Str.ofString "") 698, Value.str (Str.ofString "\n") 699], #[]⟩) ::
  (nat_lit 377, ⟨Value.type "code", none, Data.fields
  #[Value.str (Str.ofString "__init__") 700, Value.str (Str.ofString "StringIO.__init__") 701,
    Value.str (Str.ofString "/claim/cut.py") 702, Value.int 224 0, Value.int 3 0, Value.int 0 0, Value.int 0 0,
    Value.int 3 0, Value.ref 372, Value.bool true, Value.int 273 0, Value.ref 373, Value.none, Value.ref 374,
    Value.ref 375, Value.ref 376, Value.int 706 0, Value.int 224 0, Value.str (Str.ofString "/claim/cut.py") 707], #[]⟩) ::
  (nat_lit 378, o378.1) ::
  (nat_lit 384, ⟨Value.type "code", none, Data.fields
  #[Value.str (Str.ofString "__translated") 709, Value.str (Str.ofString "StringIO.__translated") 710,
    Value.str (Str.ofString "/claim/cut.py") 711, Value.int 237 0, Value.int 2 0, Value.int 0 0, Value.int 0 0,
    Value.int 3 0, Value.ref 379, Value.bool true, Value.int 273 0, Value.ref 380, Value.none, Value.ref 381,
    Value.ref 382, Value.ref 383, Value.int 715 0, Value.int 237 0, Value.str (Str.ofString "/claim/cut.py") 716], #[]⟩) ::
  (nat_lit 385, o385.1) ::
  (nat_lit 391, ⟨Value.type "code", none, Data.fields
  #[Value.str (Str.ofString "__check") 718, Value.str (Str.ofString "StringIO.__check") 719,
    Value.str (Str.ofString "/claim/cut.py") 720, Value.int 245 0, Value.int 1 0, Value.int 0 0, Value.int 0 0,
    Value.int 3 0, Value.ref 386, Value.bool true, Value.int 273 0, Value.ref 387, Value.none, Value.ref 388,
    Value.ref 389, Value.ref 390, Value.int 722 0, Value.int 245 0, Value.str (Str.ofString "/claim/cut.py") 723], #[]⟩) ::
  (nat_lit 392, o392.1) ::
  (nat_lit 405, ⟨Value.type "code", none, Data.fields
  #[Value.str (Str.ofString "__line") 732, Value.str (Str.ofString "StringIO.__line") 733,
    Value.str (Str.ofString "/claim/cut.py") 734, Value.int 253 0, Value.int 2 0, Value.int 0 0, Value.int 0 0,
    Value.int 3 0, Value.ref 400, Value.bool true, Value.int 273 0, Value.ref 401, Value.none, Value.ref 402,
    Value.ref 403, Value.ref 404, Value.int 744 0, Value.int 253 0, Value.str (Str.ofString "/claim/cut.py") 745], #[]⟩) ::
  (nat_lit 406, o406.1) ::
  (nat_lit 452, ⟨Value.type "code", none, Data.fields
  #[Value.str (Str.ofString "close") 787, Value.str (Str.ofString "StringIO.close") 788,
    Value.str (Str.ofString "/claim/cut.py") 789, Value.int 305 0, Value.int 1 0, Value.int 0 0, Value.int 0 0,
    Value.int 3 0, Value.ref 447, Value.bool true, Value.int 273 0, Value.ref 448, Value.none, Value.ref 449,
    Value.ref 450, Value.ref 451, Value.int 791 0, Value.int 305 0, Value.str (Str.ofString "/claim/cut.py") 792], #[]⟩) ::
  (nat_lit 453, o453.1) ::
  (nat_lit 547, ⟨Value.type "tuple", none, Data.seq #[Value.int (-1) 891], #[]⟩) ::
  (nat_lit 553, ⟨Value.type "code", none, Data.fields
  #[Value.str (Str.ofString "read") 892, Value.str (Str.ofString "StringIO.read") 893,
    Value.str (Str.ofString "/claim/cut.py") 894, Value.int 367 0, Value.int 2 0, Value.int 2 0, Value.int 0 0,
    Value.int 3 0, Value.ref 548, Value.bool true, Value.int 273 0, Value.ref 549, Value.none, Value.ref 550,
    Value.ref 551, Value.ref 552, Value.int 899 0, Value.int 367 0, Value.str (Str.ofString "/claim/cut.py") 900], #[]⟩) ::
  (nat_lit 554, o554.1) ::
  (nat_lit 555, ⟨Value.type "tuple", none, Data.seq #[Value.int (-1) 903], #[]⟩) ::
  (nat_lit 561, ⟨Value.type "code", none, Data.fields
  #[Value.str (Str.ofString "readline") 904, Value.str (Str.ofString "StringIO.readline") 905,
    Value.str (Str.ofString "/claim/cut.py") 906, Value.int 381 0, Value.int 2 0, Value.int 2 0, Value.int 0 0,
    Value.int 3 0, Value.ref 556, Value.bool true, Value.int 273 0, Value.ref 557, Value.none, Value.ref 558,
    Value.ref 559, Value.ref 560, Value.int 909 0, Value.int 381 0, Value.str (Str.ofString "/claim/cut.py") 910], #[]⟩) ::
  (nat_lit 562, o562.1) ::
  (nat_lit 607, ⟨Value.type "dict", none, .dict #[dE P "__module__" (691) (Value.str (Str.ofString "_io") 696), dE P "__firstlineno__" (695) (Value.int 221 694), dE P "__init__" (708) (Value.ref 378), dE P "_StringIO__translated" (717) (Value.ref 385), dE P "_StringIO__check" (724) (Value.ref 392), dE P "_StringIO__check_dot" (731) (Value.ref 399), dE P "_StringIO__line" (746) (Value.ref 406), dE P "closed" (754) (Value.ref 414), dE P "line_buffering" (762) (Value.ref 422), dE P "newlines" (770) (Value.ref 430), dE P "encoding" (778) (Value.ref 438), dE P "errors" (786) (Value.ref 446), dE P "close" (793) (Value.ref 453), dE P "__enter__" (800) (Value.ref 460), dE P "__exit__" (808) (Value.ref 467), dE P "readable" (815) (Value.ref 474), dE P "writable" (822) (Value.ref 481), dE P "seekable" (829) (Value.ref 488), dE P "isatty" (836) (Value.ref 495), dE P "flush" (843) (Value.ref 502), dE P "fileno" (850) (Value.ref 509), dE P "detach" (857) (Value.ref 516), dE P "getvalue" (864) (Value.ref 523), dE P "tell" (871) (Value.ref 530), dE P "seek" (881) (Value.ref 538), dE P "truncate" (889) (Value.ref 546), dE P "read" (901) (Value.ref 554), dE P "readline" (911) (Value.ref 562), dE P "readlines" (921) (Value.ref 570), dE P "__iter__" (928) (Value.ref 577), dE P "__next__" (936) (Value.ref 584), dE P "write" (948) (Value.ref 591), dE P "writelines" (956) (Value.ref 598), dE P "__repr__" (963) (Value.ref 605), dE P "__static_attributes__" (967) (Value.ref 606), dE P "__doc__" (968) (Value.none)] 2, #[]⟩) ::
  (nat_lit 608, ⟨Value.type "type", none, Data.cls
  { name := Str.ofString "StringIO", bases := [Value.ref 131],
    mro := [Value.ref 608, Value.ref 131, Value.ref 104, Value.type "object"], ns := 607,
    qualname := Str.ofString "StringIO" }, #[some (Value.ref 364), none, some (Value.str (Str.ofString "StringIO") 684),
  some (Value.str (Str.ofString "StringIO") 692), some Value.none, some (Value.bool true)]⟩) ::
  (nat_lit 660, ⟨Value.type "tuple", none, Data.seq #[Value.none, Value.none, Value.bool false, Value.bool false], #[]⟩) ::
  (nat_lit 666, ⟨Value.type "code", none, Data.fields
  #[Value.str (Str.ofString "__init__") 1043, Value.str (Str.ofString "shlex.__init__") 1044,
    Value.str (Str.ofString "/claim/cut.py") 1045, Value.int 492 0, Value.int 5 0, Value.int 0 0, Value.int 0 0,
    Value.int 3 0, Value.ref 661, Value.bool true, Value.int 273 0, Value.ref 662, Value.none, Value.ref 663,
    Value.ref 664, Value.ref 665, Value.int 1052 0, Value.int 492 0, Value.str (Str.ofString "/claim/cut.py") 1053], #[]⟩) ::
  (nat_lit 667, o667.1) ::
  (nat_lit 673, ⟨Value.type "code", none, Data.fields
  #[Value.str (Str.ofString "punctuation_chars") 1055, Value.str (Str.ofString "shlex.punctuation_chars") 1056,
    Value.str (Str.ofString "/claim/cut.py") 1057, Value.int 533 0, Value.int 1 0, Value.int 0 0, Value.int 0 0,
    Value.int 3 0, Value.ref 668, Value.bool true, Value.int 273 0, Value.ref 669, Value.none, Value.ref 670,
    Value.ref 671, Value.ref 672, Value.int 1059 0, Value.int 533 0, Value.str (Str.ofString "/claim/cut.py") 1060], #[]⟩) ::
  (nat_lit 674, o674.1) ::
  (nat_lit 675, ⟨Value.type "property", none, Data.fields
  #[Value.ref 674, Value.none, Value.none, Value.none, Value.str (Str.ofString "punctuation_chars") 1062,
    Value.bool false], #[]⟩) ::
  (nat_lit 683, ⟨Value.type "tuple", none, Data.seq #[Value.none], #[]⟩) ::
  (nat_lit 689, ⟨Value.type "code", none, Data.fields
  #[Value.str (Str.ofString "push_source") 1071, Value.str (Str.ofString "shlex.push_source") 1072,
    Value.str (Str.ofString "/claim/cut.py") 1073, Value.int 540 0, Value.int 3 0, Value.int 0 0, Value.int 0 0,
    Value.int 3 0, Value.ref 684, Value.bool true, Value.int 273 0, Value.ref 685, Value.none, Value.ref 686,
    Value.ref 687, Value.ref 688, Value.int 1077 0, Value.int 540 0, Value.str (Str.ofString "/claim/cut.py") 1078], #[]⟩) ::
  (nat_lit 690, o690.1) ::
  (nat_lit 696, ⟨Value.type "code", none, Data.fields
  #[Value.str (Str.ofString "pop_source") 1080, Value.str (Str.ofString "shlex.pop_source") 1081,
    Value.str (Str.ofString "/claim/cut.py") 1082, Value.int 553 0, Value.int 1 0, Value.int 0 0, Value.int 0 0,
    Value.int 3 0, Value.ref 691, Value.bool true, Value.int 273 0, Value.ref 692, Value.none, Value.ref 693,
    Value.ref 694, Value.ref 695, Value.int 1084 0, Value.int 553 0, Value.str (Str.ofString "/claim/cut.py") 1085], #[]⟩) ::
  (nat_lit 697, o697.1) ::
  (nat_lit 703, ⟨Value.type "code", none, Data.fields
  #[Value.str (Str.ofString "get_token") 1087, Value.str (Str.ofString "shlex.get_token") 1088,
    Value.str (Str.ofString "/claim/cut.py") 1089, Value.int 560 0, Value.int 1 0, Value.int 0 0, Value.int 0 0,
    Value.int 3 0, Value.ref 698, Value.bool true, Value.int 273 0, Value.ref 699, Value.none, Value.ref 700,
    Value.ref 701, Value.ref 702, Value.int 1096 0, Value.int 560 0, Value.str (Str.ofString "/claim/cut.py") 1097], #[]⟩) ::
  (nat_lit 704, o704.1) ::
  (nat_lit 710, ⟨Value.type "code", none, Data.fields
  #[Value.str (Str.ofString "read_token") 1099, Value.str (Str.ofString "shlex.read_token") 1100,
    Value.str (Str.ofString "/claim/cut.py") 1101, Value.int 587 0, Value.int 1 0, Value.int 0 0, Value.int 0 0,
    Value.int 3 0, Value.ref 705, Value.bool true, Value.int 273 0, Value.ref 706, Value.none, Value.ref 707,
    Value.ref 708, Value.ref 709, Value.int 1107 0, Value.int 587 0, Value.str (Str.ofString "/claim/cut.py") 1108], #[]⟩) ::
  (nat_lit 711, o711.1) ::
  (nat_lit 742, ⟨Value.type "dict", none, .dict #[dE P "__module__" (1038) (Value.str (Str.ofString "cpy313.shlex") 1029), dE P "__firstlineno__" (1042) (Value.int 490 1041), dE P "__init__" (1054) (Value.ref 667), dE P "punctuation_chars" (1062) (Value.ref 675), dE P "push_token" (1070) (Value.ref 682), dE P "push_source" (1079) (Value.ref 690), dE P "pop_source" (1086) (Value.ref 697), dE P "get_token" (1098) (Value.ref 704), dE P "read_token" (1109) (Value.ref 711), dE P "sourcehook" (1117) (Value.ref 718), dE P "error_leader" (1126) (Value.ref 726), dE P "__iter__" (1133) (Value.ref 733), dE P "__next__" (1141) (Value.ref 740), dE P "__static_attributes__" (1162) (Value.ref 741), dE P "__dict__" (1164) (Value.ref 744), dE P "__weakref__" (1166) (Value.ref 745), dE P "__doc__" (1167) (Value.none)] 4, #[]⟩) ::
  (nat_lit 743, ⟨Value.type "type", none, Data.cls
  { name := Str.ofString "shlex", bases := [Value.type "object"], mro := [Value.ref 743, Value.type "object"],
    ns := 742, qualname := Str.ofString "shlex" }, #[none, none, some (Value.str (Str.ofString "shlex") 1031), some (Value.str (Str.ofString "shlex") 1039),
  some (Value.builtin "object.__new__"), some (Value.bool true)]⟩) ::
  (nat_lit 744, ⟨Value.type "getset_descriptor", none, Data.fields
  #[Value.str (Str.ofString "__dict__") 1163, Value.ref 743, Value.builtin "function.__dict__",
    Value.builtin "function.__dict__#set"], #[]⟩) ::
  (nat_lit 745, ⟨Value.type "getset_descriptor", none, Data.fields
  #[Value.str (Str.ofString "__weakref__") 1165, Value.ref 743, Value.builtin "ExceptionGroup.__weakref__", Value.none], #[]⟩) ::
  (nat_lit 751, ⟨Value.type "code", none, Data.fields
  #[Value.str (Str.ofString "_law_piece") 1172, Value.str (Str.ofString "_law_piece") 1173,
    Value.str (Str.ofString "/claim/cut.py") 1174, Value.int 743 0, Value.int 1 0, Value.int 0 0, Value.int 0 0,
    Value.int 3 0, Value.ref 748, Value.bool true, Value.int 273 0, Value.ref 749, Value.none, Value.none, Value.none,
    Value.ref 750, Value.int 1175 0, Value.int 743 0, Value.str (Str.ofString "/claim/cut.py") 1176], #[]⟩) ::
  (nat_lit 752, o752.1) ::
  (nat_lit 758, ⟨Value.type "code", none, Data.fields
  #[Value.str (Str.ofString "_law_lexer") 1178, Value.str (Str.ofString "_law_lexer") 1179,
    Value.str (Str.ofString "/claim/cut.py") 1180, Value.int 762 0, Value.int 1 0, Value.int 0 0, Value.int 0 0,
    Value.int 3 0, Value.ref 753, Value.bool true, Value.int 273 0, Value.ref 754, Value.none, Value.ref 755,
    Value.ref 756, Value.ref 757, Value.int 1183 0, Value.int 762 0, Value.str (Str.ofString "/claim/cut.py") 1184], #[]⟩) ::
  (nat_lit 759, o759.1) ::
  (nat_lit 765, ⟨Value.type "code", none, Data.fields
  #[Value.str (Str.ofString "_law_told") 1186, Value.str (Str.ofString "_law_told") 1187,
    Value.str (Str.ofString "/claim/cut.py") 1188, Value.int 766 0, Value.int 2 0, Value.int 0 0, Value.int 0 0,
    Value.int 3 0, Value.ref 760, Value.bool true, Value.int 273 0, Value.ref 761, Value.none, Value.ref 762,
    Value.ref 763, Value.ref 764, Value.int 1192 0, Value.int 766 0, Value.str (Str.ofString "/claim/cut.py") 1193], #[]⟩) ::
  (nat_lit 766, o766.1) ::
  (nat_lit 772, ⟨Value.type "code", none, Data.fields
  #[Value.str (Str.ofString "_law_part_of_word") 1195, Value.str (Str.ofString "_law_part_of_word") 1196,
    Value.str (Str.ofString "/claim/cut.py") 1197, Value.int 775 0, Value.int 1 0, Value.int 0 0, Value.int 0 0,
    Value.int 3 0, Value.ref 767, Value.bool true, Value.int 273 0, Value.ref 768, Value.none, Value.ref 769,
    Value.ref 770, Value.ref 771, Value.int 1200 0, Value.int 775 0, Value.str (Str.ofString "/claim/cut.py") 1201], #[]⟩) ::
  (nat_lit 773, o773.1) ::
  (nat_lit 779, ⟨Value.type "code", none, Data.fields
  #[Value.str (Str.ofString "_law_behind_line") 1203, Value.str (Str.ofString "_law_behind_line") 1204,
    Value.str (Str.ofString "/claim/cut.py") 1205, Value.int 778 0, Value.int 2 0, Value.int 0 0, Value.int 0 0,
    Value.int 3 0, Value.ref 774, Value.bool true, Value.int 273 0, Value.ref 775, Value.none, Value.ref 776,
    Value.ref 777, Value.ref 778, Value.int 1209 0, Value.int 778 0, Value.str (Str.ofString "/claim/cut.py") 1210], #[]⟩) ::
  (nat_lit 780, o780.1) ::
  (nat_lit 786, ⟨Value.type "code", none, Data.fields
  #[Value.str (Str.ofString "_law_behind_gap") 1212, Value.str (Str.ofString "_law_behind_gap") 1213,
    Value.str (Str.ofString "/claim/cut.py") 1214, Value.int 781 0, Value.int 2 0, Value.int 0 0, Value.int 0 0,
    Value.int 3 0, Value.ref 781, Value.bool true, Value.int 273 0, Value.ref 782, Value.none, Value.ref 783,
    Value.ref 784, Value.ref 785, Value.int 1218 0, Value.int 781 0, Value.str (Str.ofString "/claim/cut.py") 1219], #[]⟩) ::
  (nat_lit 787, o787.1) ::
  (nat_lit 791, ⟨Value.type "code", none, Data.fields
  #[Value.str (Str.ofString "_law_quoted") 1221, Value.str (Str.ofString "_law_quoted") 1222,
    Value.str (Str.ofString "/claim/cut.py") 1223, Value.int 787 0, Value.int 2 0, Value.int 0 0, Value.int 0 0,
    Value.int 3 0, Value.ref 788, Value.bool true, Value.int 273 0, Value.ref 789, Value.none, Value.none, Value.none,
    Value.ref 790, Value.int 1224 0, Value.int 787 0, Value.str (Str.ofString "/claim/cut.py") 1225], #[]⟩) ::
  (nat_lit 792, o792.1) ::
  (nat_lit 798, ⟨Value.type "code", none, Data.fields
  #[Value.str (Str.ofString "_law_word") 1227, Value.str (Str.ofString "_law_word") 1228,
    Value.str (Str.ofString "/claim/cut.py") 1229, Value.int 799 0, Value.int 2 0, Value.int 0 0, Value.int 0 0,
    Value.int 3 0, Value.ref 793, Value.bool true, Value.int 273 0, Value.ref 794, Value.none, Value.ref 795,
    Value.ref 796, Value.ref 797, Value.int 1238 0, Value.int 799 0, Value.str (Str.ofString "/claim/cut.py") 1239], #[]⟩) ::
  (nat_lit 799, o799.1) ::
  (nat_lit 803, ⟨Value.type "code", none, Data.fields
  #[Value.str (Str.ofString "_law_item") 1241, Value.str (Str.ofString "_law_item") 1242,
    Value.str (Str.ofString "/claim/cut.py") 1243, Value.int 826 0, Value.int 3 0, Value.int 0 0, Value.int 0 0,
    Value.int 3 0, Value.ref 800, Value.bool true, Value.int 273 0, Value.ref 801, Value.none, Value.none, Value.none,
    Value.ref 802, Value.int 1244 0, Value.int 826 0, Value.str (Str.ofString "/claim/cut.py") 1245], #[]⟩) ::
  (nat_lit 804, o804.1) ::
  (nat_lit 810, ⟨Value.type "code", none, Data.fields
  #[Value.str (Str.ofString "_law_walk") 1247, Value.str (Str.ofString "_law_walk") 1248,
    Value.str (Str.ofString "/claim/cut.py") 1249, Value.int 837 0, Value.int 2 0, Value.int 0 0, Value.int 0 0,
    Value.int 3 0, Value.ref 805, Value.bool true, Value.int 273 0, Value.ref 806, Value.none, Value.ref 807,
    Value.ref 808, Value.ref 809, Value.int 1260 0, Value.int 837 0, Value.str (Str.ofString "/claim/cut.py") 1261], #[]⟩) ::
  (nat_lit 811, o811.1) ::
  (nat_lit 815, ⟨Value.type "code", none, Data.fields
  #[Value.str (Str.ofString "law") 1263, Value.str (Str.ofString "law") 1264,
    Value.str (Str.ofString "/claim/cut.py") 1265, Value.int 852 0, Value.int 1 0, Value.int 0 0, Value.int 0 0,
    Value.int 3 0, Value.ref 812, Value.bool true, Value.int 273 0, Value.ref 813, Value.none, Value.none, Value.none,
    Value.ref 814, Value.int 1266 0, Value.int 852 0, Value.str (Str.ofString "/claim/cut.py") 1267], #[]⟩) ::
  (nat_lit 816, o816.1) :: []
noncomputable abbrev asK : List Addr := [2, 3, 45, 46, 52, 53, 59, 60, 73, 74, 100, 101, 103, 104, 105, 106, 107, 130, 131, 361, 371, 377, 378, 384, 385, 391, 392, 405, 406, 452, 453, 547, 553, 554, 555, 561, 562, 607, 608, 660, 666, 667, 673, 674, 675, 683, 689, 690, 696, 697, 703, 704, 710, 711, 742, 743, 744, 745, 751, 752, 758, 759, 765, 766, 772, 773, 779, 780, 786, 787, 791, 792, 798, 799, 803, 804, 810, 811, 815, 816]
noncomputable def qb : { b : List Stmt // ([0, 1, 3, 4, 5, 7, 8, 9, 10, 11, 12, 13, 14, 16, 17, 18, 19, 20, 21, 23, 25, 26, 27, 28, 29, 30, 31, 32, 33, 34, 35] : List Nat).filterMap (fun i => bd[i]?) = b } := ⟨[_, _, _, _, _, _, _, _, _, _, _, _, _, _, _, _, _, _, _, _, _, _, _, _, _, _, _, _, _, _, _], rfl⟩
noncomputable def q1 : Program := { PySem.Challenge.pw_in0151_01 with main := { PySem.Challenge.pw_in0151_01.main with body := qb.1 } }
noncomputable def loose1 : List Str := [Str.ofString "UnsupportedOperation", Str.ofString "IOBase", Str.ofString "BufferedIOBase", Str.ofString "TextIOBase", Str.ofString "BytesIO", Str.ofString "StringIO", Str.ofString "shlex"]
noncomputable abbrev hook : Hook := kmHook KK asK (fun _ => by kernel_rfl) [754]
end Mine

namespace Mine
noncomputable def runT (stp : SharedT → Thread → Option (SharedT × Thread)) (ok thr : Thread → Bool) : Nat → SharedT → Thread → Option SharedT
  | 0, _, _ => none
  | n + 1, s, t => match thr t with
    | true => some s
    | false => match ok t with
      | false => none
      | true => match stp s t with
        | some (s', t') => runT stp ok thr n s' t'
        | none => none
theorem runT_spec {p : Program} {w : World} {n₀ : Nat} {ann : Option Value} {tb : String → Option Builtin} : ∀ (n : Nat) (s : SharedT) (t : Thread) (s' : SharedT), runT (stepT (denote tb) p w) (stepOk n₀ ann) through n s t = some s' → topRun tb p w n₀ ann n s.abs t = some s'.abs
  | 0, _, _, _, h => by cases h
  | n + 1, s, t, s', h => by
    unfold runT at h
    unfold topRun
    cases ht : through t with
    | true => rw [ht] at h; cases h; rfl
    | false =>
      rw [ht] at h
      cases hk : stepOk n₀ ann t with
      | false => rw [hk] at h; cases h
      | true =>
        rw [hk] at h
        cases hs : stepT (denote tb) p w s t with
        | none => rw [hs] at h; cases h
        | some r =>
          obtain ⟨s₂, t₂⟩ := r
          rw [hs] at h
          rw [stepT_spec hs]
          exact runT_spec n s₂ t₂ s' h
noncomputable def growT : List Obj → BT → Nat → Option BT
  | [], t, _ => some t
  | o :: l, t, n => match ((t.ins n o).get n).isSome with
    | true => growT l (t.ins n o) (n + 1)
    | false => none
theorem growT_spec {life : Life} : ∀ (l : List Obj) (t t' : BT) (n : Nat), growT l t n = some t' → absHeap t' (n + l.length) life = ⟨(absHeap t n life).objs ++ l.toArray, life⟩
  | [], t, t', n, h => by cases h; show absHeap t n life = _; unfold absHeap; simp
  | o :: l, t, t', n, h => by
    unfold growT at h
    cases e : ((t.ins n o).get n).isSome with
    | false => rw [e] at h; cases h
    | true =>
      rw [e] at h
      have a := growT_spec (life := life) l (t.ins n o) t' (n + 1) h
      rw [absHeap_ins e] at a
      rw [List.length_cons, show n + (l.length + 1) = n + 1 + l.length by omega, a]
      unfold Heap.push
      simp
theorem growT_heap {h : Heap} {t : BT} (e : growT h.objs.toList .nil 0 = some t) : absHeap t h.objs.size h.life = h := by
  have a := growT_spec (life := h.life) _ _ _ _ e
  obtain ⟨objs, life⟩ := h
  rw [Nat.zero_add, Array.length_toList] at a
  rw [a]
  unfold absHeap BT.list
  simp
theorem left_of {p q : Program} {loose : List Str} {Xt : Shared → Bool} {α : Type} {Yf : Shared → α} {Ya : World → α} {N : Nat} {g0 : Bool}
    (h : ∀ w : World, ((fencedOpening treeTable p w N).bind fun s₀ => (growT s₀.heap.objs.toList .nil 0).bind fun t =>
      (runT (stepT (denote treeTable) p w) (stepOk s₀.heap.objs.size (s₀.heap.nsMap mainGlobals "__annotations__")) through N ⟨t, s₀.heap.objs.size, s₀.heap.life, s₀.gens, s₀.drawn, s₀.toks, s₀.os⟩ (topStub p)).map fun s₁ =>
        (s₀.heap.isNs mainGlobals && s₀.gens.size == 0, staticsOk (importedModules p.main.body) s₀.heap s₁.abs.heap && namesBound p s₁.abs.heap && gensDone s₁.abs && laidKept s₀.heap s₁.abs.heap, openSeen q loose (importedModules p.main.body) Xt g0 s₁.abs, Yf s₁.abs)) =
      some (true, true, openGood q loose, Ya w)) : LeftO p q loose Xt Yf Ya N g0 := fun w => by
  obtain ⟨s₀, e0, h⟩ := Option.bind_eq_some_iff.mp (h w)
  obtain ⟨t, e1, h⟩ := Option.bind_eq_some_iff.mp h
  obtain ⟨s₁, e2, h⟩ := Option.map_eq_some_iff.mp h
  simp only [Prod.mk.injEq] at h
  obtain ⟨a, b, c, d⟩ := h
  have r := runT_spec _ _ _ _ e2
  have e : (SharedT.abs ⟨t, s₀.heap.objs.size, s₀.heap.life, s₀.gens, s₀.drawn, s₀.toks, s₀.os⟩) = s₀ := by
    unfold SharedT.abs
    dsimp only
    rw [growT_heap e1]
  rw [e] at r
  unfold openEnds
  rw [e0]
  show (topFrom treeTable p w N s₀).map _ = _
  unfold topFrom
  rw [a]
  show ((topRun _ _ _ _ _ _ _ _).bind _).map _ = _
  rw [r]
  show (match _ with | true => some s₁.abs | false => none : Option Shared).map _ = _
  rw [b]
  exact congrArg some (Prod.ext c d)
end Mine

namespace Mine
open PySem.W
theorem left1 : LeftO PySem.Challenge.rw_in0151_01.row.toRowW.prog q1 loose1 (fun s => xlAt q1 [] s && recOk (RowW.records PySem.Challenge.rw_in0151_01.row.toRowW) s) hook.obs hook.val 10374 := by
  refine left_of ?_
  rw [PySem.W.Fast.te14364793385576792824, PySem.W.Fast.te10156331382660048174, PySem.W.Fast.te11892475500146522536, PySem.W.Fast.te6613529449190102663, PySem.W.Fast.te8920871248978507458, PySem.W.Fast.te5923862056798008813, PySem.W.Fast.te4187177175401517315]
  intro w
  kernel_rfl
theorem well1 : PySem.Challenge.rw_in0151_01.wellSaid = true := (congrFun PySem.W.Fast.te9446332074065402090 _).trans (by kernel_rfl)
end Mine

namespace Mine
noncomputable def Halt (P : Prop) : Prop := P
theorem Halt.out {P : Prop} (h : Halt P) : P := h
end Mine
namespace Mine
theorem o_a {x a b : Nat} (h : x < a) (e : Nat.ble a b = true) : x < b := Nat.lt_of_lt_of_le h (Nat.le_of_ble_eq_true e)
theorem o_b {x a b : Nat} (h : x < a) (e : Nat.ble a (b + 1) = true) : x ≤ b := Nat.le_of_lt_succ (o_a h e)
theorem o_c {x a b : Nat} (h : x ≤ a) (e : Nat.ble a b = true) : x ≤ b := Nat.le_trans h (Nat.le_of_ble_eq_true e)
theorem o_d {x a b : Nat} (h : x ≤ a) (e : Nat.ble (a + 1) b = true) : x < b := Nat.lt_of_le_of_lt h (Nat.le_of_ble_eq_true e)
theorem o_e {x a b : Nat} (h : b ≤ x) (e : Nat.ble a b = true) : a ≤ x := Nat.le_trans (Nat.le_of_ble_eq_true e) h
theorem o_f {x k n : Nat} (h : x = k) (e : Nat.ble n k = true) : n ≤ x := h ▸ Nat.le_of_ble_eq_true e
theorem o_g {x y a b : Nat} (h : x + y < a) (e : Nat.ble a b = true) : x < b := o_a (Nat.lt_of_le_of_lt (Nat.le_add_right x y) h) e
theorem o_h {x y z a b : Nat} (h : x + y < a) (e : Nat.ble (a + z) (b + 1) = true) : x + z ≤ b := Nat.le_of_lt_succ (o_a (Nat.add_lt_add_right (Nat.lt_of_le_of_lt (Nat.le_add_right x y) h) z) e)
theorem o_i {p r : Nat} (h : p ≤ r) (g : r ≤ p) : p = r := Nat.le_antisymm h g
theorem o_j {p r : Nat} (h : p + 1 ≤ r) (g : r ≤ p) : False := Nat.not_succ_le_self _ (Nat.le_trans h g)
theorem o_k {p r : Nat} (h : p ≤ r) (g : ¬p < r) : p = r := Nat.le_antisymm h (Nat.ge_of_not_lt g)
theorem o_l {p r : Nat} (g : ¬p < r) : r ≤ p := Nat.ge_of_not_lt g
theorem o_m {p r : Nat} (h : p ≤ r) (g : p ≠ r) : p < r := Nat.lt_of_le_of_ne h g
theorem o_n {p r : Nat} (g : p = r) : r ≤ p := Nat.le_of_eq g.symm
theorem o_o {p r : Nat} (g : (p : Int) ≥ r) (h : p < r) : False := absurd (Int.ofNat_lt.mpr h) (Int.not_lt.mpr g)
theorem o_p {p r : Nat} (g : (p : Int) = r) (h : p < r) : False := Nat.ne_of_lt h (Int.ofNat.inj g)
theorem o_q {p r : Nat} (g : (p : Int) > r) (h : p < r) : False := absurd (Int.ofNat_lt.mp g) (Nat.not_lt.mpr (Nat.le_of_lt h))
theorem o_r {p r : Nat} (g : (p : Int) < r) (h : ¬p < r) : False := h (Int.ofNat_lt.mp g)
theorem o_s {p r d : Nat} (h : r - p = d + 1) : p + 1 ≤ r := by omega
theorem o_t {p r d : Nat} (h : r - p = d + 1) : p < r := by omega
theorem o_u {p r d : Nat} (h : r - p = d + 1) (g : ¬p < r) : False := g (o_t h)
theorem o_v {p r q : Nat} (h : p < r) (g : p < q) (g2 : q ≤ r) : r - q < r - p := by omega
theorem o_w {p r : Nat} (h : p < r) : r - (p + 1) < r - p := by omega
theorem o_x {a b c : Nat} (h : a < b) (g : b < c) : a < c := Nat.lt_trans h g
theorem o_y {t p r a : Nat} (h : p + 1 ≤ r) (g : t + 2 * (r - p) < a) : t + (0 + 1) + 2 * (r - (p + 1)) < a := by omega
theorem o_z {t p r a : Nat} (h : p + 1 ≤ r) (g : t + 2 * (r - p) < a) : t + 2 * (r - (p + 1)) < a := by omega
theorem o_y2 {t p r a : Nat} (h : p + 1 ≤ r) (g : t + 2 * (r - p) < a) : t + (0 + 1) + (0 + 1) + 2 * (r - (p + 1)) < a := by omega
theorem o_1 {p r a b : Nat} (h : r < a) (e : Nat.ble (2 * a + 1) b = true) : 0 + 2 * (r - p) < b := by have := Nat.le_of_ble_eq_true e; omega
theorem o_2 {p r a b : Nat} (h : r < a) (e : Nat.ble (2 * a + 2) b = true) : 0 + 1 + 2 * (r - p) < b := by have := Nat.le_of_ble_eq_true e; omega
theorem o_3 {d a b m : Nat} (h : d + a < m) (e : Nat.ble b a = true) : d + b < m := Nat.lt_of_le_of_lt (Nat.add_le_add_left (Nat.le_of_ble_eq_true e) d) h
theorem o_4 {d a b c m : Nat} (h : d + a < m) (e : Nat.ble (b + c) a = true) : d + b + c < m := Nat.add_assoc d b c ▸ o_3 h e
theorem o_5 {d a m : Nat} (h : d + a < m) : d < m := Nat.lt_of_le_of_lt (Nat.le_add_right d a) h
theorem o_6 {d a b c f m : Nat} (h : d + a < m) (e : Nat.ble (b + c + f) a = true) : d + b + c + f < m := by have := Nat.le_of_ble_eq_true e; omega
theorem o_7 {d a b c f k m : Nat} (h : d + a < m) (e : Nat.ble (b + c + f + k) a = true) : d + b + c + f + k < m := by have := Nat.le_of_ble_eq_true e; omega
theorem o_8 {x : Nat} {a : Nat} {b : Int} (h : x < a) (e : decide ((a : Int) ≤ b) = true) : (x : Int) < b := Int.lt_of_lt_of_le (Int.ofNat_lt.mpr h) (of_decide_eq_true e)
theorem o_9 {x a b : Int} (h : x < a) (e : decide (a ≤ b) = true) : x < b := Int.lt_of_lt_of_le h (of_decide_eq_true e)
theorem o_10 {x a b : Int} (h : a ≤ x) (e : decide (b ≤ a) = true) : b ≤ x := Int.le_trans (of_decide_eq_true e) h
theorem o_11 {p r q : Nat} (h : p ≤ r) (g : q ≤ p) : q ≤ r := Nat.le_trans g h
theorem o_12 {x a b c : Nat} (h : x ≤ c) (g : c < a) (e : Nat.ble a b = true) : x < b := o_a (Nat.lt_of_le_of_lt h g) e
theorem o_13 {x a b c : Nat} (h : x ≤ c) (g : c < a) (e : Nat.ble a (b + 1) = true) : x ≤ b := Nat.le_of_lt_succ (o_12 h g e)
theorem o_14 {x a b c : Nat} (h : x = c) (g : c < a) (e : Nat.ble a b = true) : x < b := h ▸ o_a g e
theorem o_15 {x a b c : Nat} (h : x = c) (g : c < a) (e : Nat.ble a (b + 1) = true) : x ≤ b := h ▸ o_b g e
theorem o_16 {x a b : Nat} (g : x ≤ a) (h : a ≤ b) : x ≤ b + 1 := Nat.le_succ_of_le (Nat.le_trans g h)
theorem o_17 {x b : Nat} (h : x ≤ b) : x ≤ b + 1 := Nat.le_succ_of_le h
theorem o_18 {p q r : Nat} (h : p = r) (g : q < r) : q < p := h ▸ g
theorem o_19 {x y a b : Nat} (h : (x : Int) < y) (g : y < a) (e : Nat.ble a b = true) : x < b := o_a (Nat.lt_trans (Int.ofNat_lt.mp h) g) e
theorem o_20 {p r : Nat} (h : p < r) : p + 2 ≤ r + 1 := Nat.succ_le_succ h
theorem o_21 {p r : Nat} (h : p < r) : p + 1 ≤ r + 1 := Nat.succ_le_succ (Nat.le_of_lt h)
theorem o_22 {p r : Nat} (h : p + 1 ≤ r) : p + 1 ≤ r + 2 := Nat.le_trans h (Nat.le_add_right r 2)
theorem o_23 {p r : Nat} (h : p < r) : r + 1 - (p + 1) < r + 1 - p := by omega
theorem o_24 {p r : Nat} (h : p < r) : r + 1 - (p + 2) < r + 1 - p := by omega
theorem o_25 {p r : Nat} (h : p ≤ r + 1) (g : ¬p < r) (k : ¬r < p) : p = r := Nat.le_antisymm (Nat.ge_of_not_lt k) (Nat.ge_of_not_lt g)
theorem o_26 {p r : Nat} (h : p ≤ r + 1) (g : ¬p < r) (k : ¬r < p) : (p : Int) = r := congrArg Nat.cast (o_25 h g k)
theorem o_27 {p r : Nat} (g : (p : Int) > r) (h : ¬r < p) : False := h (Int.ofNat_lt.mp g)
theorem o_28 {p r d : Nat} (h : r - p = d + 1 + 1) : p + 2 ≤ r := by omega
theorem o_29 {p r : Nat} (h : p + 1 ≤ r) : (p : Int) < r := Int.ofNat_lt.mpr h
theorem o_30 {p r q : Nat} (h : p < r) (g : r - p = 0) : False := by omega
theorem o_31 {a : Nat} (h : (a : Int) < 0) : False := absurd h (Int.not_lt.mpr (Int.natCast_nonneg a))
structure Bk (Q : Flow → Shared → Prop) (fl : Flow) (s : Shared) : Prop where
  mk ::
  out : Q fl s
theorem genB {M : Model} {A : Around} {t : Sem Flow} {Q : Flow → Shared → Prop} {E : Value → Shared → Prop} {s : Shared} (h : ∀ Q1 : Flow → Shared → Prop, (∀ fl s', Q fl s' → Bk Q1 fl s') → wpAny M A t (Bk Q1) E s) : wpAny M A t Q E s :=
  wpAny_mono (h Q fun _ _ q => ⟨q⟩) (fun _ _ q => q.out) fun _ _ e => e
end Mine
local macro_rules | `(tactic| k_all) => `(tactic| assumption)
local macro_rules | `(tactic| k_room) => `(tactic| ktr_room)
local macro_rules | `(tactic| walk_at $s:str) => `(tactic| k_extra $s)
local macro_rules | `(tactic| omega) => `(tactic| k_extra "om")
section
open Mine
theorem Mine.pre_Defs : PySem.Challenge.rw_in0151_01 = PySem.Challenge.rw_in0151_01 ∧ Mine.KK = Mine.KK := by
  k_with_none
  k_fill
  k_with "om" => (first | with_reducible assumption | exact Nat.le_of_ble_eq_true rfl | with_reducible exact Nat.ne_of_lt (by assumption) | with_reducible exact Nat.ne_of_gt (by assumption) | with_reducible exact Nat.le_of_lt (by assumption) | with_reducible exact Nat.le_refl _ | with_reducible exact Nat.le_add_right _ _ | with_reducible exact Nat.lt_add_one _ | with_reducible exact Nat.succ_le_of_lt (by assumption) | with_reducible exact Nat.lt_of_succ_le (by assumption) | with_reducible exact Int.ofNat_lt.mpr (by assumption) | with_reducible exact Int.natCast_nonneg _ | with_reducible exact Mine.o_n (by assumption) | with_reducible exact Mine.o_l (by assumption) | with_reducible exact Mine.o_i (by assumption) (by assumption) | with_reducible exact Mine.o_k (by assumption) (by assumption) | with_reducible exact Mine.o_m (by assumption) (by assumption) | with_reducible exact Mine.o_w (by assumption) | with_reducible exact Mine.o_v (by assumption) (by assumption) (by assumption) | with_reducible exact Mine.o_s (by assumption) | with_reducible exact Mine.o_t (by assumption) | with_reducible exact Mine.o_17 (by assumption) | with_reducible exact Mine.o_y (by assumption) (by assumption) | with_reducible exact Mine.o_z (by assumption) (by assumption) | with_reducible exact Mine.o_y2 (by assumption) (by assumption) | exact Mine.o_a (a := 10000) (by with_reducible assumption) rfl | exact Mine.o_a (a := 9000) (by with_reducible assumption) rfl | exact Mine.o_a (a := 256) (by with_reducible assumption) rfl | exact Mine.o_a (a := 300) (by with_reducible assumption) rfl | exact Mine.o_a (by with_reducible assumption) rfl | exact Mine.o_b (a := 10000) (by with_reducible assumption) rfl | exact Mine.o_b (a := 9000) (by with_reducible assumption) rfl | exact Mine.o_b (a := 256) (by with_reducible assumption) rfl | exact Mine.o_b (by with_reducible assumption) rfl | exact Mine.o_c (by with_reducible assumption) rfl | exact Mine.o_d (by with_reducible assumption) rfl | exact Mine.o_e (by with_reducible assumption) rfl | exact Mine.o_f (by with_reducible assumption) rfl | exact Mine.o_g (by with_reducible assumption) rfl | exact Mine.o_h (by with_reducible assumption) rfl | exact Mine.o_1 (by with_reducible assumption) rfl | exact Mine.o_2 (by with_reducible assumption) rfl | exact Mine.o_3 (by with_reducible assumption) rfl | exact Mine.o_4 (by with_reducible assumption) rfl | with_reducible exact Mine.o_5 (by assumption) | exact Mine.o_6 (by with_reducible assumption) rfl | exact Mine.o_7 (by with_reducible assumption) rfl | exact Mine.o_12 (by with_reducible assumption) (by with_reducible assumption) rfl | exact Mine.o_13 (by with_reducible assumption) (by with_reducible assumption) rfl | exact Mine.o_14 (by with_reducible assumption) (by with_reducible assumption) rfl | exact Mine.o_15 (by with_reducible assumption) (by with_reducible assumption) rfl | with_reducible exact Mine.o_18 (by assumption) (by assumption) | with_reducible exact Mine.o_11 (by assumption) (by assumption) | with_reducible exact Mine.o_x (by assumption) (by assumption) | with_reducible exact Nat.ne_of_lt (Nat.lt_trans (by assumption) (by assumption)) | with_reducible exact Nat.ne_of_gt (Nat.lt_trans (by assumption) (by assumption)) | with_reducible exact Mine.o_r (by assumption) (by assumption) | with_reducible exact Mine.o_o (by assumption) (by assumption) | with_reducible exact Mine.o_p (by assumption) (by assumption) | with_reducible exact Mine.o_q (by assumption) (by assumption) | with_reducible exact Mine.o_u (by assumption) (by assumption) | with_reducible exact Mine.o_j (by assumption) (by assumption) | with_reducible exact Mine.o_20 (by assumption) | with_reducible exact Mine.o_21 (by assumption) | with_reducible exact Mine.o_22 (by assumption) | with_reducible exact Mine.o_23 (by assumption) | with_reducible exact Mine.o_24 (by assumption) | with_reducible exact Mine.o_28 (by assumption) | with_reducible exact Mine.o_29 (by assumption) | with_reducible exact Mine.o_31 (by assumption) | with_reducible exact Mine.o_25 (by assumption) (by assumption) (by assumption) | with_reducible exact Mine.o_26 (by assumption) (by assumption) (by assumption) | with_reducible exact Mine.o_27 (by assumption) (by assumption) | with_reducible exact Mine.o_30 (by assumption) (by assumption) | exact Mine.o_19 (by with_reducible assumption) (by with_reducible assumption) rfl | fail "om")
  k_with "my enter" => (refine' code_def ?k1_z ?k2_z ?k3_z ?k4_z ?k5_z ?kA_z ?kF_z ?kK_z ?k6_z ?k7_z ?k8_z ?k9_z ?kB_z ?_ ?c2_z ?c3_z ?c4_z ?c5_z; (case kA_z => exact rfl); (case kF_z => exact rfl); (case kK_z => first | exact rfl | assumption); (case k1_z => k_asm); (case k2_z => k_asm); (case k3_z => k_asm); (case k4_z => k_asm); (case k5_z => k_asm); (case k6_z => k_is); (case k7_z => k_is); (case k8_z => ktr_room); (case k9_z => first | exact BindsTo.of_eq rfl | exact binds_K (by k_in) rfl (by k_is) rfl rfl rfl); (case c5_z => decide); (case kB_z => exact locs rfl); (case c2_z => exact rfl); (case c3_z => exact rfl); (case c4_z => exact rfl); k_whole; intro G LL h1 FG F1 N1 B1 X1 T1; (try dsimp only); (try k_lift B1); (try k_fold))
  k_with "call builtin:str.find" => (refine Mine.find4 (by first | rfl | omega) ?_)
  k_with "truthy str" => ((with_reducible show wpAny _ _ (PySem.truthy (Value.str (Str.mk (List.toArray _)) _)) _ _ _); (refine Mine.truthy_T (by first | assumption | omega) ?_); intro _)
  k_with "truthy str" => ((with_reducible show wpAny _ _ (PySem.truthy (Value.str (Str.mk (List.toArray [_])) _)) _ _ _); (refine Mine.truthy_one ?_); intro _)
  k_with "compareOp In str str" => ((with_reducible show wpAny _ _ (compareOp CmpOp.In (Value.str (Str.mk (List.toArray [_])) _) _) _ _ _); first | refine Mine.in_ws ?_ | refine Mine.in_cm ?_ | refine Mine.in_es ?_ | refine Mine.in_dt ?_ | refine Mine.in_wc ?_ | refine Mine.in_none ?_ | refine Mine.in_qs ?_)
  k_with "inplaceOp Add str str" => ((with_reducible show wpAny _ _ (inplaceOp _ (Value.str (Str.mk (List.toArray _)) _) (Value.str (Str.mk (List.toArray _)) _)) _ _ _); (refine Mine.iadd_T (by first | omega | (simp only [List.length_append, List.length_cons, List.length_nil] at *; omega)) ?_); intro _ _)
  k_with "compareOp Eq str str" => ((with_reducible show wpAny _ _ (compareOp CmpOp.Eq (Value.str (Str.mk (List.toArray [_])) _) _) _ _ _); ((with_reducible first | refine Mine.eq_nl ?_ ?_ | refine Mine.eq_sp ?_ ?_ | refine Mine.eq_lc ?_ ?_ | refine Mine.eq_hs ?_ ?_ | refine Mine.eq_dq ?_ ?_ | refine Mine.eq_bs ?_ ?_ | refine Mine.eq_dd ?_ ?_) <;> (intro hspz; first | (exfalso; revert hspz; decide) | (subst hspz) | skip)))
  k_with "compareOp NotEq str str" => ((with_reducible show wpAny _ _ (compareOp CmpOp.NotEq (Value.str (Str.mk (List.toArray [_])) _) _) _ _ _); ((with_reducible refine Mine.ne_dd ?_ ?_) <;> (intro hspz; first | (exfalso; revert hspz; decide) | (subst hspz) | skip)))
  k_with "exec If" => refine wpAny_If ?_
  k_with "call type:ValueError" => (k_dflt (refine Mine.raise_VE ?_); intro h'z ez hmxz)
  k_with "leaving ref" => (k_dflt (refine' leave_raiseS ?k1_z (Heap.MadeExc.of ?k2_z) ?k3_z ?k4_z ?_; (case k1_z => assumption); (case k2_z => assumption); (case k3_z => assumption); (case k4_z => assumption)); intro h'z t'z R1z R2z U1z)
  k_with "subscriptTail Name Name str int" => (k_dflt (refine Mine.item_T (by omega) (by omega) ?_; intro cz s'z hsufz tkz kz))
  k_with "subscriptTail Name Name str int" => (k_dflt (refine Mine.item_H (by assumption) (by omega) ?_; intro tkz kz))
  k_with "call ref" => (k_here; (with_reducible show wpAny _ _ (call (Value.ref 554) [Value.ref _, Value.int _ _]) _ _ _); k_dflt (refine' Mine.rd1_at ?k1_z ?k2_z ?k3_z ?k4_z ?k5_z ?kK_z ?km_z ?kU_z ?kn_z ?kp_z ?kd_z ?ku_z ?_ ?_; (case k1_z => k_asm); (case k2_z => k_asm); (case k3_z => k_asm); (case k4_z => k_asm); (case k5_z => k_asm); (case kK_z => first | exact rfl | assumption); (case km_z => k_mem); (case kU_z => k_updF); (case kn_z => omega); (case kp_z => constructor <;> omega); (case kd_z => ktr_room); (case ku_z => ktr_units); all_goals (intro cz s'z hsufz h'z tk'z tz t'z F'z N'z; (try dsimp only at N'z); (try k_sweep))))
  k_with "call ref" => (k_here; (try simp only [List.nil_append, List.cons_append, List.append_nil]); (with_reducible show wpAny _ _ (call (Value.ref 562) [Value.ref _]) _ _ _); k_dflt (refine' Mine.rl_at ?k1_z ?k2_z ?k3_z ?k4_z ?k5_z ?kK_z ?km_z ?kU_z ?kn_z ?kp_z ?kd_z ?ku_z ?_; (case k1_z => k_asm); (case k2_z => k_asm); (case k3_z => k_asm); (case k4_z => k_asm); (case k5_z => k_asm); (case kK_z => first | exact rfl | assumption); (case km_z => k_mem); (case kU_z => k_updF); (case kn_z => omega); (case kp_z => constructor <;> omega); (case kd_z => ktr_room); (case ku_z => ktr_units); (intro xz h'z tk'z tz t'z F'z N'z; (try dsimp only at N'z); (try k_sweep))))
  k_with "exec While Constant cons nil" => refine Mine.Halt.out ?_
  k_with "KswEnd" => refine Mine.Halt.out ?_
  k_with "truthy ref" => (k_here; k_dflt (refine' Mine.dq_truthy_N ?N_z ?m_z ?f_z ?_; (case N_z => k_asm); (case m_z => k_mem); (case f_z => first | decide | omega | (simp only [List.length_cons, List.length_nil]; omega)); k_whole); intro _; (try simp only [List.isEmpty_cons, List.isEmpty_nil, Bool.not_false, Bool.not_true]))
  k_with "getMethod ref" => (k_here; (with_reducible show wpAny _ _ (getMethod (Value.ref _) (PySem.Str.ofString "appendleft") _) _ _ _); k_dflt (refine' Mine.dq_method ?N_z ?m_z Mine.slot_dq_appendleft Mine.type_dq_appendleft ?_; (case N_z => k_asm); (case m_z => k_mem)))
  k_with "getMethod ref" => (k_here; (with_reducible show wpAny _ _ (getMethod (Value.ref _) (PySem.Str.ofString "popleft") _) _ _ _); k_dflt (refine' Mine.dq_method ?N_z ?m_z Mine.slot_dq_popleft Mine.type_dq_popleft ?_; (case N_z => k_asm); (case m_z => k_mem)))
  k_with "call builtin:collections.deque.appendleft" => (k_here; k_dflt (refine' Mine.dq_appendleft ?k1_z ?k2_z ?k3_z ?z_z ?_; (case k1_z => k_asm); (case k2_z => k_asm); (case k3_z => k_upd); (case z_z => first | decide | omega)); intro h'z F'z N'z; (try k_sweep))
  k_with "call builtin:collections.deque.popleft" => (k_here; k_dflt (refine' Mine.dq_popleft ?k1_z ?k2_z ?k3_z ?z_z ?_; (case k1_z => k_asm); (case k2_z => k_asm); (case k3_z => k_upd); (case z_z => first | decide | omega)); intro h'z F'z N'z; (try k_sweep))
  k_with "compareOp In str str" => ((with_reducible show wpAny _ _ (compareOp CmpOp.In (Value.str (Mine.ES.str _) _) _) _ _ _); (rename Mine.ES => ezz; cases ezz <;> dsimp only [Mine.ES.str] at *))
  k_with "compareOp In str str" => ((with_reducible show wpAny _ _ (compareOp CmpOp.In (Value.str (Mine.ES.str _) _) _) _ _ _); (rename Mine.ES => ezz; cases ezz <;> dsimp only [Mine.ES.str] at *); all_goals (try (exfalso; (have hqz := (by assumption : Mine.ES.sp = Mine.ES.sp → _ ≤ _) rfl); omega)))
  k_with "call ref" => (k_here; (try simp only [List.nil_append, List.cons_append, List.append_nil]); (with_reducible show wpAny _ _ (call (Value.ref 711) [Value.ref _]) _ _ _); k_dflt (refine' Mine.Con.use (Mine.rt_spec _ _ _ _ _ _ _ _ _ _ _ _ _ _ _ _ _ _ _ _ _ _ _ _ _ ?a1_z ?a2_z ?a3_z ?a4_z ?a5_z ?a6_z ?a7_z) ?k1_z ?k2_z ?k3_z ?k4_z ?k5_z ?kK_z ?kp_z ?kd_z ?ku_z ?_ ?_; (case k1_z => k_asm); (case k2_z => k_asm); (case k3_z => k_asm); (case k4_z => k_asm); (case k5_z => k_asm); (case kK_z => first | exact rfl | assumption); (case a1_z => k_all); (case a2_z => k_all); (case a3_z => k_all); (case a4_z => omega); (case a5_z => omega); (case a6_z => omega); (case a7_z => omega); (case kp_z => assumption); (case kd_z => ktr_room); (case ku_z => ktr_units)); k_dflt (all_goals first
    | (rintro vz h'z tk'z n'z ⟨cz, pushz, dn'z, tvz, hRz, hpz, e1z, e2z⟩ F'z N'z; (subst e1z); (subst e2z); rcases cz with ⟨a0z, a1z, a2z, a3z, a4z, a5z, a6z, a7z, a8z, a9z, a10z⟩; dsimp only at hRz hpz N'z ⊢; (by_cases hvz : a4z = false ∧ a2z = []) <;> (first | rw [if_pos hvz] | rw [if_neg hvz]) <;> (try k_sweep))
    | (rintro ez tz g'z h'z tk'z esz n'z ⟨kz, cz, tmz, hRz, hpz, e1z, e2z⟩ F'z R1z R2z U1z; (subst e1z); (subst e2z); rcases cz with ⟨a0z, a1z, a2z, a3z, a4z, a5z, a6z, a7z, a8z, a9z, a10z⟩; dsimp only at hRz hpz R1z R2z ⊢)))
  k_with "leaving ref" => (k_dflt (refine' leave_onS ?k1_z ?k2_z ?k3_z ?k4_z ?_; (case k1_z => assumption); (case k3_z => assumption); (case k2_z => assumption); (case k4_z => assumption)); intro h'z R1z R2z U1z)
  exact ⟨rfl, rfl⟩
namespace Mine
noncomputable abbrev MyAddr := Addr
noncomputable abbrev en (hs : Nat → Int) (ts : Nat → Tok) (i : Nat) (x : String) (v : Value) : DictEntry := ⟨hs i, .str (Str.ofString x) (ts i), v⟩
noncomputable abbrev sioD (hs : Nat → Int) (ts : Nat → Tok) (row : Str) (pos : Int) (t1 t2 t3 : Tok) : Obj := dictOf [en hs ts 0 "_StringIO__newline" (.str (Str.ofString "\n") t1), en hs ts 1 "_StringIO__buf" (.str row t2), en hs ts 2 "_StringIO__pos" (.int pos t3)] 3
noncomputable abbrev wcs : Str := Str.ofString "abcdfeghijklmnopqrstuvwxyzABCDEFGHIJKLMNOPQRSTUVWXYZ0123456789_ßàáâãäåæçèéêëìíîïðñòóôõöøùúûüýþÿÀÁÂÃÄÅÆÇÈÉÊËÌÍÎÏÐÑÒÓÔÕÖØÙÚÛÜÝÞ"
noncomputable abbrev lexD (hs : Nat → Int) (ts : Nat → Tok) (sio pb fs : Addr) (rd : Value) (tc : Nat → Tok) (state : Value) (line : Int) (tl : Tok) (token : Str) (tt : Tok) : Obj :=
  dictOf [en hs ts 0 "instream" (.ref sio), en hs ts 1 "infile" .none, en hs ts 2 "posix" (.bool true), en hs ts 3 "eof" .none,
    en hs ts 4 "commenters" (.str (Str.ofString "#") (tc 4)), en hs ts 5 "wordchars" (.str wcs (tc 5)), en hs ts 6 "whitespace" (.str (Str.ofString " \t\r\n") (tc 6)),
    en hs ts 7 "whitespace_split" (.bool false), en hs ts 8 "quotes" (.str (Str.ofString "'\"") (tc 8)), en hs ts 9 "escape" (.str (Str.ofString "\\") (tc 9)),
    en hs ts 10 "escapedquotes" (.str (Str.ofString "\"") (tc 10)), en hs ts 11 "state" state, en hs ts 12 "pushback" (.ref pb), en hs ts 13 "lineno" (.int line tl),
    en hs ts 14 "debug" (.int 0 (tc 14)), en hs ts 15 "token" (.str token tt), en hs ts 16 "filestack" (.ref fs), en hs ts 17 "source" .none,
    en hs ts 18 "_punctuation_chars" (.str (Str.ofString "") (tc 18)), en hs ts 19 "read" rd] 20
noncomputable abbrev Con (lv : Nat) (w : World) (f : Addr) (news : List (Addr × Obj)) (pre : Prop) (vs : List Value) (R : Value → List (Addr × Obj) → Prop) (RE : List Value → List (Addr × Obj) → Prop) : Prop :=
  ∀ (p : Program) (loose : List Str) (mean : ExcName → Option Value) (mg mb : Str → Option Value) (dp un : Nat) (gd : Option (List Code)) (cn : Str) (cs : Scope) (a : Addr) (ccd : Value) (cl : List (Str × Addr)) (outer : List Env) (A₀ : Around) (base h₀ : Heap) (L : Addr) (m : Str → Option Value) (s : Shared) (Q E : Value → Shared → Prop),
    Below A₀ base outer h₀ → Fr h₀ L s.heap m → (Mine.KK w.params).In h₀ → News h₀ L s.heap news → Top p loose mean mg mb h₀ → cs.kind = .function →
    pre → dp + 5 * lv < recursionLimit → un + 40 * lv < cLine →
    (∀ (v : Value) (h' : Heap) (tk' : Nat) (news' : List (Addr × Obj)), R v news' → Fr h₀ L h' m → News h₀ L h' news' → Q v { s with heap := h', toks := tk' }) →
    (∀ (e t : Addr) (g' h' : Heap) (tk' : Nat) (es : List Value) (news' : List (Addr × Obj)), RE es news' → Fr h₀ L g' m → RaisedS base g' (envX cn cs L a ccd cl :: outer) e (.type "ValueError") t es news' h' → RaisedK base (envX cn cs L a ccd cl :: outer) e (.type "ValueError") t es news' h' → g'.UpToSlots h' → E (.ref e) { s with heap := h', toks := tk' }) →
      wpAny (model PySem.Challenge.pw_in0151_01 w) (ktrTop dp un gd cn cs L a ccd cl outer) (call (.ref f) vs) Q E s
theorem News.sub {h₀ h : Heap} {L : Addr} {l l' : List (Addr × Obj)} (N : News h₀ L h l) (hs : ∀ p ∈ l', p ∈ l) : News h₀ L h l' := fun p hp => N p (hs p hp)
theorem Con.lift1 {lv : Nat} {w : World} {f : Addr} {pre : Prop} {vs : List Value} {P : Value → Obj → Prop} {sio sd : Addr} {io o : Obj} {led : List (Addr × Obj)} {g : Obj → List (Addr × Obj)}
    (C : ∀ tail, (∀ q ∈ tail, q.1 ≠ sd) → Con lv w f ((sio, io) :: (sd, o) :: tail) pre vs (fun v n' => ∃ o', P v o' ∧ n' = (sio, io) :: (sd, o') :: tail) (fun _ _ => False))
    (hm : (sio, io) ∈ led) (U : UpdF sd o led g) : Con lv w f led pre vs (fun v n' => ∃ o', P v o' ∧ n' = g o') (fun _ _ => False) := by
  obtain ⟨pr, po, h1, h2, h3, h4⟩ := U.split
  intro p loose mean mg mb dp un gd cn cs a ccd cl outer A₀ base h₀ L m s Q E B F X N T hk hp hd hu ret _
  refine C (pr ++ po) (fun q hq => ?_) p loose mean mg mb dp un gd cn cs a ccd cl outer A₀ base h₀ L m s Q E B F X (News.sub N fun q hq => ?_) T hk hp hd hu ?_ (fun _ _ _ _ _ _ _ h _ _ _ _ => h.elim)
  · rcases List.mem_append.mp hq with h | h
    · exact h3 q h
    · exact h4 q h
  · rw [h1]
    rcases List.mem_cons.mp hq with rfl | hq
    · rw [← h1]; exact hm
    rcases List.mem_cons.mp hq with rfl | hq
    · simp
    rcases List.mem_append.mp hq with h | h <;> simp [h]
  · rintro v h' tk' n' ⟨o', hP, rfl⟩ F' N'
    refine ret v h' tk' _ ⟨o', hP, rfl⟩ F' (News.sub N' fun q hq => ?_)
    rw [h2] at hq
    rcases List.mem_append.mp hq with h | h
    · simp [h]
    rcases List.mem_cons.mp h with rfl | h
    · simp
    · simp [h]
end Mine

end
section
open Mine
namespace Mine
noncomputable abbrev T (l : List Nat) : Str := ⟨l.toArray⟩
theorem T_len (l : List Nat) : (T l).length = l.length := by show l.toArray.size = _; simp
theorem T_app (a b : List Nat) : T a ++ T b = T (a ++ b) := by
  show Str.mk (a.toArray ++ b.toArray) = _
  simp
theorem T_empty (l : List Nat) : (T l == Str.ofString "") = l.isEmpty := by
  have e : Str.ofString "" = T [] := by decide +kernel
  rw [e, Bool.eq_iff_iff, beq_iff_eq, List.isEmpty_iff]
  constructor
  · intro h
    have := congrArg (fun x : Str => x.cps.toList) h
    simpa using this
  · rintro rfl; rfl
theorem slice_T (l : List Nat) (i j : Nat) (h : i ≤ j) (hj : j ≤ l.length) : Txt.slice (T l) (some (i : Int)) (some (j : Int)) = T ((l.drop i).take (j - i)) := by
  have := eq_of_beq (slice_closes (x := T l) (i := i) (j := j) (by simp; omega))
  rw [this]
  simp only [List.toList_toArray, Int.toNat_natCast]
  congr 3
  omega
theorem slice_to (l : List Nat) (j : Nat) (hj : j ≤ l.length) : Txt.slice (T l) none (some (j : Int)) = T (l.take j) := by
  have := eq_of_beq (slice_closes_to (x := T l) (j := j) (by simp; omega))
  rw [this]
  simp
theorem slice_chop (x : Str) (c : Nat) : Txt.slice (x ++ ⟨#[c]⟩) none (some (-1)) = x := by
  have hlen : (x ++ (⟨#[c]⟩ : Str)).length = x.length + 1 := by
    show (x.cps ++ #[c]).size = _
    rw [Array.size_append]; rfl
  have e : Txt.slice (x ++ ⟨#[c]⟩) none (some (-1)) = Txt.slice (x ++ ⟨#[c]⟩) none (some (x.length : Int)) := by
    unfold Txt.slice Builtin.Str.strSliceIndices
    rw [hlen]
    simp only [show (1 : Int) > 0 by decide, if_true, show (-1 : Int) < 0 by decide, show ¬ ((x.length : Int) < 0) by omega, if_false]
    rw [show (-1 : Int) + ((x.length + 1 : Nat) : Int) = (x.length : Int) by omega]
  rw [e]
  have := eq_of_beq (slice_closes_to (x := x ++ ⟨#[c]⟩) (j := x.length) (by show _ ∧ _ ≤ ((x.cps ++ #[c]).toList.length : Int); simp; show (x.cps.size : Int) ≤ _; omega))
  rw [this]
  show Str.mk _ = x
  obtain ⟨cps⟩ := x
  show Str.mk (((cps ++ #[c]).toList.drop _).take ((cps.size : Int) - 0).toNat).toArray = _
  have : ((cps.size : Int) - 0).toNat = cps.toList.length := by simp
  rw [this]
  simp
end Mine
namespace Mine
noncomputable def aft (s : List Nat) : List Nat := (s.dropWhile (· != 10)).drop 1
theorem aft_cons (c : Nat) (s : List Nat) : aft (c :: s) = if c = 10 then s else aft s := by
  unfold aft
  by_cases h : c = 10
  · subst h; simp
  · simp [h]
theorem aft_none : ∀ (s : List Nat), (∀ v, v < s.length → s.getD v 0 ≠ 10) → aft s = []
  | [], _ => rfl
  | c :: s, h => by
    rw [aft_cons, if_neg (by simpa using h 0 (by simp))]
    exact aft_none s fun v hv => by simpa using h (v + 1) (by simpa using hv)
theorem aft_at : ∀ (s : List Nat) (k : Nat), k < s.length → s.getD k 0 = 10 → (∀ v, v < k → s.getD v 0 ≠ 10) → aft s = s.drop (k + 1)
  | [], k, h, _, _ => by simp at h
  | c :: s, 0, _, h, _ => by
    rw [aft_cons, if_pos (by simpa using h)]; simp
  | c :: s, k + 1, h, h1, h2 => by
    rw [aft_cons, if_neg (by simpa using h2 0 (by omega))]
    rw [aft_at s k (by simpa using h) (by simpa using h1) (fun v hv => by simpa using h2 (v + 1) (by omega))]
    simp
theorem aft_le : ∀ (s : List Nat), (aft s).length ≤ s.length
  | [] => by simp [aft]
  | c :: s => by
    rw [aft_cons]
    split
    · simp
    · have := aft_le s; simp; omega
theorem find_nl (r : List Nat) (p : Nat) (hp : p ≤ r.length) :
    (Txt.find3 (T r) (Str.ofString "\n") p = -1 ∧ aft (r.drop p) = []) ∨
    ∃ k : Nat, Txt.find3 (T r) (Str.ofString "\n") p = k ∧ p ≤ k ∧ k < r.length ∧ aft (r.drop p) = r.drop (k + 1) := by
  have hs : Str.ofString "\n" = ⟨#[10]⟩ := by decide +kernel
  have hf : PySem.fromIndex (T r).length p = p := by unfold PySem.fromIndex; omega
  have hg : ∀ v, (T r).cps.getD v 0 = r.getD v 0 := fun v => by simp [T, Array.getD, List.getD]; split <;> simp_all
  rw [hs]
  rcases StrLaws.find3_spec (T r) 10 p with ⟨h, hn⟩ | ⟨k, h, h1, h2, h3, h4⟩
  · refine .inl ⟨h, aft_none _ fun v hv => ?_⟩
    have := hn (p + v) (by rw [hf]; omega) (by rw [T_len]; simp at hv; omega)
    rw [hg] at this
    simpa [List.getD] using this
  · rw [hf] at h1
    rw [T_len] at h2
    rw [hg] at h3
    refine .inr ⟨k, h, h1, h2, ?_⟩
    have := aft_at (r.drop p) (k - p) (by simp; omega) (by simp [List.getD]; rw [show p + (k - p) = k by omega]; simpa [List.getD] using h3) (fun v hv => by
      have := h4 (p + v) (by rw [hf]; omega) (by omega)
      rw [hg] at this
      simpa [List.getD] using this)
    rw [this, List.drop_drop]
    congr 1
    omega
end Mine

end
section
open Mine
namespace Mine
theorem toks_setGen (s : Shared) (g : Nat) (st : GenState) : (s.setGen g st).toks = s.toks := rfl
theorem runs_toks {M : Model} {Γ : Ctx} {p : Pos} {t : Sem Fin} {l : List Frame} {s s' : Shared} {e : End} (h : Runs M Γ p t l s e s') : s.toks ≤ s'.toks := by
  induction h <;> (try simp only [toks_setGen] at *) <;> omega
theorem wakes_toks {M : Model} {Γ : Ctx} {p : Pos} {g : Nat} {r : Resume} {s s' : Shared} {res : GenResult} (h : Wakes M Γ p g r s res s') : s.toks ≤ s'.toks := by
  unfold Wakes at h
  split at h
  · exact h.elim
  · split at h
    · obtain ⟨e₁, s₁, hr, _, _, rfl⟩ := h
      have := runs_toks hr
      simpa only [toks_setGen] using this
    · rw [h.2]; exact Nat.le_refl _
    · rw [h.2]; exact Nat.le_refl _
  · obtain ⟨e₁, s₁, hr, _, _, rfl⟩ := h
    have := runs_toks hr
    simpa only [toks_setGen] using this
  · rw [h.2]; exact Nat.le_refl _
  · rw [h.2]; exact Nat.le_refl _
theorem wp_toks {X : Type} {M : Model} {Γ : Ctx} (t : Sem X) {Q : X → Pos → Shared → Prop} {E : Value → Pos → Shared → Prop} {k : Nat} (p : Pos) (s : Shared) (hk : k ≤ s.toks)
    (h : Sem.wp M Γ t (fun a p' s' => k ≤ s'.toks → Q a p' s') (fun e p' s' => k ≤ s'.toks → E e p' s') p s) : Sem.wp M Γ t Q E p s := by
  revert h
  induction t generalizing p s with
  | pure x => exact fun h => h hk
  | raise v => exact fun h => h hk
  | unsupported | finish | yield | fork | await | register => exact id
  | rule _ k ih | «at» _ k ih | alloc _ k ih | loadIfAlive _ k ih | point _ k ih | ask k ih | os _ _ k ih | handled _ k ih | newGen _ k ih | stack k ih | thread k ih => exact ih _ _ _ hk
  | fresh k ih => exact ih _ _ _ (Nat.le_succ_of_le hk)
  | load a _ k ih | genState a k ih => exact fun ⟨o, ho, h⟩ => ⟨o, ho, ih _ _ _ hk h⟩
  | update a _ f k ih | choose _ _ k ih => exact fun ⟨ha, h⟩ => ⟨ha, ih _ _ _ hk h⟩
  | call c h g l k ih => exact fun ⟨r, s', hr, h⟩ => ⟨r, s', hr, ih _ _ _ (Nat.le_trans hk (runs_toks hr)) h⟩
  | resume g r l k ih => exact fun ⟨res, s', hw, h⟩ => ⟨res, s', hw, ih _ _ _ (Nat.le_trans hk (wakes_toks hw)) h⟩
section
variable {α : Type} {M : Model} {A : Around} {E : Value → Shared → Prop} {s : Shared}
theorem wpAny_tk {t : Sem α} {Q : α → Shared → Prop} (h : wpAny M A t (fun a s' => s.toks ≤ s'.toks → Q a s') (fun e s' => s.toks ≤ s'.toks → E e s') s) : wpAny M A t Q E s :=
  fun Γ p hΓ => wp_toks t p s (Nat.le_refl _) (h Γ p hΓ)
theorem wpAny_tkQ {t : Sem α} {Q : α → Shared → Prop} (h : wpAny M A t (fun a s' => s.toks ≤ s'.toks → Q a s') E s) : wpAny M A t Q E s :=
  wpAny_tk (wpAny_mono h (fun _ _ q => q) fun _ _ e _ => e)
end
end Mine

end
section
open Mine
namespace Mine
open PySem.Builtin PySem.Builtin.Str
section
variable {prog : Program} {w : World} {A : Around} {E : Value → Shared → Prop} {s : Shared} {x y : Str} {t u v v' : Tok} {i j : Int} {Q : Value → Shared → Prop}
theorem gives_find4 (x y : Str) (i j : Int) (t u v v' : Tok) (hj : j = x.length) : Gives («str.find» ⟨[.str x t, .str y u, .int i v, .int j v'], []⟩) (.int (Txt.find3 x y i)) := by
  subst hj
  show Gives (match occurrences x y (fromIndex x.length i) (min (fromIndex x.length x.length) x.length) 1 with | k :: _ => retInt k | [] => (do rule "str.find.not-found"; retInt (-1))) _
  have : min (fromIndex x.length x.length) x.length = x.length := by unfold fromIndex; omega
  rw [this]
  unfold Txt.find3
  cases occurrences x y (fromIndex x.length i) x.length 1 with
  | nil => exact .rule (.of_eq rfl)
  | cons k _ => exact .of_eq rfl
theorem find4 (hj : j = x.length) (hq : Q (.int (Txt.find3 x y i) s.toks) { s with toks := s.toks + 1 }) : wpAny (model prog w) A (call (.builtin "str.find") [.str x t, .str y u, .int i v, .int j v']) Q E s :=
  call_gives F.slot_str_find (typeIs_str _ _ _) F.entry_str_find (F.args_str_find_4 _ _ _ _) (gives_find4 x y i j t u v v' hj) hq
end
end Mine
namespace Mine
section
variable {prog : Program} {w : World} {A : Around} {E : Value → Shared → Prop} {s : Shared} {t : Tok}
theorem truthy_one {c : Nat} {Q : Bool → Shared → Prop} (h : ∀ k, Q true { s with toks := k }) : wpAny (model prog w) A (truthy (.str (⟨[c].toArray⟩ : Str) t)) Q E s :=
  P.truthy_str (by show ¬ ((([c].toArray).size : Int) ≥ 2 ^ 63); simp) (h _)
theorem truthy_T {l : List Nat} {Q : Bool → Shared → Prop} (hl : l.length < 1000000) (h : ∀ k, Q (!l.isEmpty) { s with toks := k }) : wpAny (model prog w) A (truthy (.str (⟨l.toArray⟩ : Str) t)) Q E s := by
  have e : (⟨l.toArray⟩ : Str).length = l.length := by show l.toArray.size = _; simp
  refine P.truthy_str (by rw [e]; omega) ?_
  rw [e]
  have hne : ((l.length : Int) != 0) = !l.isEmpty := by
    cases l with
    | nil => rfl
    | cons a l => simp; omega
  rw [hne]
  exact h _
end
end Mine
namespace Mine
noncomputable def isW (c : Nat) : Bool := c == 32 || c == 9 || c == 13 || c == 10
noncomputable def isQ (c : Nat) : Bool := c == 39 || c == 34
noncomputable def isC (c : Nat) : Bool := (48 ≤ c && c ≤ 57) || (65 ≤ c && c ≤ 90) || (97 ≤ c && c ≤ 122) || c == 95 || (192 ≤ c && c ≤ 255 && c != 215 && c != 247)
theorem small_mem (l : List Nat) (p : Nat → Bool) (h1 : ∀ c : Fin 256, decide (c.val ∈ l) = p c.val) (h2 : ∀ x ∈ l, x < 256) (h3 : ∀ c, 256 ≤ c → p c = false) (c : Nat) : decide (c ∈ l) = p c := by
  by_cases h : c < 256
  · exact h1 ⟨c, h⟩
  · rw [h3 c (by omega)]
    refine decide_eq_false fun hm => ?_
    have := h2 c hm
    omega
theorem isW_big (c : Nat) (h : 256 ≤ c) : isW c = false := by unfold isW; simp; omega
theorem isQ_big (c : Nat) (h : 256 ≤ c) : isQ c = false := by unfold isQ; simp; omega
theorem isC_big (c : Nat) (h : 256 ≤ c) : isC c = false := by unfold isC; simp; omega
section
variable {prog : Program} {w : World} {A : Around} {E : Value → Shared → Prop} {s : Shared} {t u : Tok} {c : Nat} {Q : Value → Shared → Prop}
theorem in_lit {x : Str} {p : Nat → Bool} (hx : decide (c ∈ x.cps.toList) = p c) (h : Q (.bool (p c)) s) : wpAny (model prog w) A (compareOp .In (.str (⟨[c].toArray⟩ : Str) u) (.str x t)) Q E s := by
  refine P.in_str ?_
  have e := StrLaws.found_one x c
  rw [hx] at e
  show Q (.bool !(Builtin.Str.occurrences x ⟨#[c]⟩ 0 x.length 1).isEmpty) s
  rw [e]
  exact h
theorem in_ws (h : Q (.bool (isW c)) s) : wpAny (model prog w) A (compareOp .In (.str (⟨[c].toArray⟩ : Str) u) (.str (Str.ofString " \t\r\n") t)) Q E s :=
  in_lit (small_mem _ isW (by decide +kernel) (by decide +kernel) isW_big c) h
theorem in_qs (h : Q (.bool (isQ c)) s) : wpAny (model prog w) A (compareOp .In (.str (⟨[c].toArray⟩ : Str) u) (.str (Str.ofString "'\"") t)) Q E s :=
  in_lit (small_mem _ isQ (by decide +kernel) (by decide +kernel) isQ_big c) h
theorem in_cm (h : Q (.bool (c == 35)) s) : wpAny (model prog w) A (compareOp .In (.str (⟨[c].toArray⟩ : Str) u) (.str (Str.ofString "#") t)) Q E s :=
  in_lit (p := (· == 35)) (small_mem _ (· == 35) (by decide +kernel) (by decide +kernel) (fun c h => by simp; omega) c) h
theorem in_es (h : Q (.bool (c == 92)) s) : wpAny (model prog w) A (compareOp .In (.str (⟨[c].toArray⟩ : Str) u) (.str (Str.ofString "\\") t)) Q E s :=
  in_lit (p := (· == 92)) (small_mem _ (· == 92) (by decide +kernel) (by decide +kernel) (fun c h => by simp; omega) c) h
theorem in_dt (h : Q (.bool (c == 34)) s) : wpAny (model prog w) A (compareOp .In (.str (⟨[c].toArray⟩ : Str) u) (.str (Str.ofString "\"") t)) Q E s :=
  in_lit (p := (· == 34)) (small_mem _ (· == 34) (by decide +kernel) (by decide +kernel) (fun c h => by simp; omega) c) h
theorem in_none (h : Q (.bool false) s) : wpAny (model prog w) A (compareOp .In (.str (⟨[c].toArray⟩ : Str) u) (.str (Str.ofString "") t)) Q E s :=
  in_lit (p := fun _ => false) (by simp [show (Str.ofString "").cps = #[] by decide +kernel]) h
theorem in_wc (h : Q (.bool (isC c)) s) : wpAny (model prog w) A (compareOp .In (.str (⟨[c].toArray⟩ : Str) u) (.str (Str.ofString "abcdfeghijklmnopqrstuvwxyzABCDEFGHIJKLMNOPQRSTUVWXYZ0123456789_ßàáâãäåæçèéêëìíîïðñòóôõöøùúûüýþÿÀÁÂÃÄÅÆÇÈÉÊËÌÍÎÏÐÑÒÓÔÕÖØÙÚÛÜÝÞ") t)) Q E s :=
  in_lit (small_mem _ isC (by decide +kernel) (by decide +kernel) isC_big c) h
theorem eq_one {d : Nat} {y : Str} (hy : y = ⟨[d].toArray⟩) (h : Q (.bool (c == d)) s) : wpAny (model prog w) A (compareOp .Eq (.str (⟨[c].toArray⟩ : Str) u) (.str y t)) Q E s := by
  subst hy
  refine P.eq_str ?_
  have e : (([c] : List Nat) == [d]) = (c == d) := by simp
  show Q (.bool (([c] : List Nat) == [d])) s
  rw [e]
  exact h
theorem ne_one {d : Nat} {y : Str} (hy : y = ⟨[d].toArray⟩) (h : Q (.bool (c != d)) s) : wpAny (model prog w) A (compareOp .NotEq (.str (⟨[c].toArray⟩ : Str) u) (.str y t)) Q E s := by
  subst hy
  refine P.ne_str ?_
  have e : (([c] : List Nat) != [d]) = (c != d) := by simp [bne]
  show Q (.bool (([c] : List Nat) != [d])) s
  rw [e]
  exact h
end
end Mine
namespace Mine
section
variable {prog : Program} {w : World} {A : Around} {E : Value → Shared → Prop} {s : Shared} {t u : Tok} {c : Nat} {Q : Value → Shared → Prop}
theorem eq_split {d : Nat} {y : Str} (hy : y = ⟨[d].toArray⟩) (h1 : c = d → Q (.bool true) s) (h2 : c ≠ d → Q (.bool false) s) : wpAny (model prog w) A (compareOp .Eq (.str (⟨[c].toArray⟩ : Str) u) (.str y t)) Q E s := by
  refine eq_one hy ?_
  by_cases h : c = d
  · rw [show (c == d) = true by simpa using h]; exact h1 h
  · rw [show (c == d) = false by simpa using h]; exact h2 h
theorem ne_split {d : Nat} {y : Str} (hy : y = ⟨[d].toArray⟩) (h1 : c = d → Q (.bool false) s) (h2 : c ≠ d → Q (.bool true) s) : wpAny (model prog w) A (compareOp .NotEq (.str (⟨[c].toArray⟩ : Str) u) (.str y t)) Q E s := by
  refine ne_one hy ?_
  by_cases h : c = d
  · rw [show (c != d) = false by simpa using h]; exact h1 h
  · rw [show (c != d) = true by simpa using h]; exact h2 h
theorem iadd_T {a b : List Nat} (hz : a.length + b.length ≤ 1000000) (h : ∀ tk k, Q (.str (⟨(a ++ b).toArray⟩ : Str) tk) { s with toks := k }) :
    wpAny (model prog w) A (inplaceOp .Add (.str (⟨a.toArray⟩ : Str) t) (.str (⟨b.toArray⟩ : Str) u)) Q E s := by
  refine P.iadd_str ?_
  have hs : sizeLine = 16777216 := by decide
  have la : (⟨a.toArray⟩ : Str).length = a.length := by show a.toArray.size = _; simp
  have lb : (⟨b.toArray⟩ : Str).length = b.length := by show b.toArray.size = _; simp
  have lab : ((⟨a.toArray⟩ : Str) ++ (⟨b.toArray⟩ : Str)) = ⟨(a ++ b).toArray⟩ := by show Str.mk (a.toArray ++ b.toArray) = _; simp
  rw [la, lb]
  split
  · rename_i e
    have : a = [] := List.eq_nil_of_length_eq_zero (by simpa using e)
    subst this
    exact h u s.toks
  · split
    · rename_i e
      have : b = [] := List.eq_nil_of_length_eq_zero (by simpa using e)
      subst this
      have := h t s.toks
      rw [List.append_nil] at this
      exact this
    · rw [lab]
      exact ⟨by show (a ++ b).toArray.size ≤ _; simp; omega, h _ _⟩
end
end Mine
namespace Mine
section
variable {prog : Program} {w : World} {A : Around} {E : Value → Shared → Prop} {s : Shared} {t u : Tok} {c : Nat} {Q : Value → Shared → Prop}
theorem eq_nl (h1 : c = 10 → Q (.bool true) s) (h2 : c ≠ 10 → Q (.bool false) s) : wpAny (model prog w) A (compareOp .Eq (.str (⟨[c].toArray⟩ : Str) u) (.str (Str.ofString "\n") t)) Q E s := eq_split (d := 10) (by decide +kernel) h1 h2
theorem eq_sp (h1 : c = 32 → Q (.bool true) s) (h2 : c ≠ 32 → Q (.bool false) s) : wpAny (model prog w) A (compareOp .Eq (.str (⟨[c].toArray⟩ : Str) u) (.str (Str.ofString " ") t)) Q E s := eq_split (d := 32) (by decide +kernel) h1 h2
theorem eq_lc (h1 : c = 99 → Q (.bool true) s) (h2 : c ≠ 99 → Q (.bool false) s) : wpAny (model prog w) A (compareOp .Eq (.str (⟨[c].toArray⟩ : Str) u) (.str (Str.ofString "c") t)) Q E s := eq_split (d := 99) (by decide +kernel) h1 h2
theorem eq_dd {d : Nat} (h1 : c = d → Q (.bool true) s) (h2 : c ≠ d → Q (.bool false) s) : wpAny (model prog w) A (compareOp .Eq (.str (⟨[c].toArray⟩ : Str) u) (.str (⟨[d].toArray⟩ : Str) t)) Q E s := eq_split rfl h1 h2
theorem ne_dd {d : Nat} (h1 : c = d → Q (.bool false) s) (h2 : c ≠ d → Q (.bool true) s) : wpAny (model prog w) A (compareOp .NotEq (.str (⟨[c].toArray⟩ : Str) u) (.str (⟨[d].toArray⟩ : Str) t)) Q E s := ne_split rfl h1 h2
end
end Mine
namespace Mine
section
variable {prog : Program} {w : World} {A : Around} {E : Value → Shared → Prop} {s : Shared}
theorem raise_VE {rest : List Value} (h : ∀ h' e, Heap.MadeExc s.heap h' e "ValueError" rest → E (.ref e) { s with heap := h' }) (hrest : rest.length ≤ sizeLine := by size_fits) :
    wpAny (model prog w) A (call (.type "ValueError") rest) (Raisable E) E s := by
  obtain ⟨hp, g, d, tk, os⟩ := s
  exact wpAny_call_exc PySem.F.excCall_ValueError (hrest := hrest) fun h' e hm => raisable_of_new excClass_ValueError hm.newExc (h h' e hm)
end
end Mine
namespace Mine
section
variable {prog : Program} {w : World} {A : Around} {E : Value → Shared → Prop} {s : Shared} {t u : Tok} {Q : Value → Shared → Prop} {value slice : PySem.Expr}
theorem item_eq (r : List Nat) (pl : Nat) (h : pl < r.length) : Txt.item (⟨r.toArray⟩ : Str) pl = ⟨[r[pl]].toArray⟩ := by
  have e : (⟨r.toArray⟩ : Str).length = r.length := by show r.toArray.size = _; simp
  unfold Txt.item Txt.charAt
  rw [e]
  have hq : seqIndex? (pl : Int) r.length = some pl := by
    unfold seqIndex?
    simp
    omega
  rw [hq]
  simp [h]
theorem item_T {r : List Nat} {pl : Nat} (hi : pl < r.length) (hl : r.length < 1000000) (h : ∀ c s', (r.drop pl = c :: s' ∧ pl + 1 ≤ r.length) → ∀ tk k, Q (.str (⟨[c].toArray⟩ : Str) tk) { s with toks := k })
    (hs : subscripted slice false (.str (⟨r.toArray⟩ : Str) t) (.int pl u) = operate [.str (⟨r.toArray⟩ : Str) t, .int pl u] (getItem (.str (⟨r.toArray⟩ : Str) t) (.int pl u)) := by with_unfolding_all rfl)
    (ht : ∀ x, letTemporaryGo value (.str (⟨r.toArray⟩ : Str) t) x = pure () := by intro _; with_unfolding_all rfl) :
    wpAny (model prog w) A (subscriptTail value slice (.str (⟨r.toArray⟩ : Str) t) (.int pl u)) Q E s := by
  have e : (⟨r.toArray⟩ : Str).length = r.length := by show r.toArray.size = _; simp
  refine item_str (fitsSsize_of (N := 9223372036854775808) (by omega) (by omega) (Int.le_refl _)) (by omega) (by omega) (fun _ => ?_) hs ht
  rw [item_eq r pl hi]
  exact h r[pl] (r.drop (pl + 1)) ⟨List.drop_eq_getElem_cons hi, hi⟩ _ _
end
end Mine
namespace Mine
section
variable {prog : Program} {w : World} {A : Around} {E : Value → Shared → Prop} {s : Shared} {t u : Tok} {Q : Value → Shared → Prop} {value slice : PySem.Expr}
theorem item_H {r s' : List Nat} {pl c : Nat} (hd : r.drop pl = c :: s' ∧ pl + 1 ≤ r.length) (hl : r.length < 1000000) (h : ∀ tk k, Q (.str (⟨[c].toArray⟩ : Str) tk) { s with toks := k })
    (hs : subscripted slice false (.str (⟨r.toArray⟩ : Str) t) (.int pl u) = operate [.str (⟨r.toArray⟩ : Str) t, .int pl u] (getItem (.str (⟨r.toArray⟩ : Str) t) (.int pl u)) := by with_unfolding_all rfl)
    (ht : ∀ x, letTemporaryGo value (.str (⟨r.toArray⟩ : Str) t) x = pure () := by intro _; with_unfolding_all rfl) :
    wpAny (model prog w) A (subscriptTail value slice (.str (⟨r.toArray⟩ : Str) t) (.int pl u)) Q E s :=
  item_T (by omega) hl (fun c' s'' hd' tk k => by
    have e := hd'.1.symm.trans hd.1
    obtain rfl : c' = c := (List.cons.inj e).1
    exact h tk k) hs ht
end
end Mine
namespace Mine
section
variable {prog : Program} {w : World} {A : Around} {E : Value → Shared → Prop} {s : Shared} {t u : Tok} {c : Nat} {Q : Value → Shared → Prop}
theorem eq_hs (h1 : c = 35 → Q (.bool true) s) (h2 : c ≠ 35 → Q (.bool false) s) : wpAny (model prog w) A (compareOp .Eq (.str (⟨[c].toArray⟩ : Str) u) (.str (Str.ofString "#") t)) Q E s := eq_split (d := 35) (by decide +kernel) h1 h2
theorem eq_dq (h1 : c = 34 → Q (.bool true) s) (h2 : c ≠ 34 → Q (.bool false) s) : wpAny (model prog w) A (compareOp .Eq (.str (⟨[c].toArray⟩ : Str) u) (.str (Str.ofString "\"") t)) Q E s := eq_split (d := 34) (by decide +kernel) h1 h2
theorem eq_bs (h1 : c = 92 → Q (.bool true) s) (h2 : c ≠ 92 → Q (.bool false) s) : wpAny (model prog w) A (compareOp .Eq (.str (⟨[c].toArray⟩ : Str) u) (.str (Str.ofString "\\") t)) Q E s := eq_split (d := 92) (by decide +kernel) h1 h2
end
end Mine

end
section
open Mine
namespace Mine
open PySem.Builtin
section facts
theorem owner_deque : Manifest.owners.lookup (String.ofList ['e', 'u', 'q', 'e', 'd', '.', 's', 'n', 'o', 'i', 't', 'c', 'e', 'l', 'l', 'o', 'c'].reverse) = some Manifest.sig_collections_deque := by kernel_rfl
theorem slot_dq_appendleft : Slot "collections.deque" "appendleft" "collections.deque.appendleft" :=
  .of (owner := "collections.deque") (n := "appendleft") (by rw [typeLookup_type, builtinLookup_eq_fast]; kernel_rfl) (by decide +kernel) (by decide +kernel) (by decide +kernel)
    (by first | exact .inl (by decide +kernel) | exact .inr (by decide +kernel)) (by rw [isSubtype_type]; kernel_rfl)
theorem slot_dq_popleft : Slot "collections.deque" "popleft" "collections.deque.popleft" :=
  .of (owner := "collections.deque") (n := "popleft") (by rw [typeLookup_type, builtinLookup_eq_fast]; kernel_rfl) (by decide +kernel) (by decide +kernel) (by decide +kernel)
    (by first | exact .inl (by decide +kernel) | exact .inr (by decide +kernel)) (by rw [isSubtype_type]; kernel_rfl)
theorem slot_dq_len : Slot "collections.deque" "__len__" "collections.deque.__len__" :=
  .of (owner := "collections.deque") (n := "__len__") (by rw [typeLookup_type, builtinLookup_eq_fast]; kernel_rfl) (by decide +kernel) (by decide +kernel) (by decide +kernel)
    (by first | exact .inl (by decide +kernel) | exact .inr (by decide +kernel)) (by rw [isSubtype_type]; kernel_rfl)
theorem noBool_dq : typeLookup (.type "collections.deque") "__bool__" = pure none := by rw [typeLookup_type, builtinLookup_eq_fast]; kernel_rfl
theorem plainAttrs_dq : PlainAttrs "collections.deque" :=
  ⟨⟨"collections.deque.__getattribute__", by rw [typeLookup_type, builtinLookup_eq_fast]; kernel_rfl, by decide +kernel⟩, by rw [typeLookup_type, builtinLookup_eq_fast]; kernel_rfl⟩
theorem entry_dq_appendleft : entryFor table "collections.deque.appendleft" = some Builtin.«collections.deque.appendleft» := entryFor_of_tree (by kernel_rfl)
theorem entry_dq_popleft : entryFor table "collections.deque.popleft" = some Builtin.«collections.deque.popleft» := entryFor_of_tree (by kernel_rfl)
theorem entry_dq_len : entryFor table "collections.deque.__len__" = some Builtin.«collections.deque.__len__» := entryFor_of_tree (by kernel_rfl)
theorem type_dq_appendleft : typeOf (.builtin "collections.deque.appendleft") = pure (.type "method_descriptor") := by show builtinType _ = _; rw [builtinType_eq_fast]; kernel_rfl
theorem type_dq_popleft : typeOf (.builtin "collections.deque.popleft") = pure (.type "method_descriptor") := by show builtinType _ = _; rw [builtinType_eq_fast]; kernel_rfl
theorem args_dq_appendleft (a b : Value) : argsOk "collections.deque.appendleft" ⟨[a, b], []⟩ := by
  unfold argsOk; rw [signature?_of (id := "collections.deque.appendleft") (n := ['t', 'f', 'e', 'l', 'd', 'n', 'e', 'p', 'p', 'a']) (o := ['e', 'u', 'q', 'e', 'd', '.', 's', 'n', 'o', 'i', 't', 'c', 'e', 'l', 'l', 'o', 'c']) (by kernel_rfl) owner_deque]; kernel_rfl
theorem args_dq_popleft (a : Value) : argsOk "collections.deque.popleft" ⟨[a], []⟩ := by
  unfold argsOk; rw [signature?_of (id := "collections.deque.popleft") (n := ['t', 'f', 'e', 'l', 'p', 'o', 'p']) (o := ['e', 'u', 'q', 'e', 'd', '.', 's', 'n', 'o', 'i', 't', 'c', 'e', 'l', 'l', 'o', 'c']) (by kernel_rfl) owner_deque]; kernel_rfl
theorem args_dq_len (a : Value) : argsOk "collections.deque.__len__" ⟨[a], []⟩ := by
  unfold argsOk; rw [signature?_of (id := "collections.deque.__len__") (n := ['_', '_', 'n', 'e', 'l', '_', '_']) (o := ['e', 'u', 'q', 'e', 'd', '.', 's', 'n', 'o', 'i', 't', 'c', 'e', 'l', 'l', 'o', 'c']) (by kernel_rfl) owner_deque]; kernel_rfl
end facts
noncomputable abbrev dqO (n : Int) (xs : List Value) : Obj := { cls := .type "collections.deque", data := .fields (#[.none, rawInt n] ++ xs.toArray) }
section
variable {prog : Program} {w : World} {A : Around} {E : Value → Shared → Prop} {s : Shared} {h₀ : Heap} {L D : Addr} {m : Str → Option Value} {news news' : List (Addr × Obj)} {n : Int} {xs : List Value}
theorem dq_type (ho : s.heap.get? D = some (dqO n xs)) : s.TypeIs (.ref D) "collections.deque" := ⟨_, ho, rfl⟩
theorem dq_len_body {Q : Value → Shared → Prop} (ho : s.heap.get? D = some (dqO n xs)) (hfit : (xs.length : Int) < 2 ^ 63)
    (h : Q (.int xs.length (s.toks + 1)) { s with toks := s.toks + 1 + 1 }) : wpAny (model prog w) A (Builtin.«len» ⟨[.ref D], []⟩) (fun fin s' => ∃ r, fin = .done (.ret r) ∧ Q r s') E s := by
  unfold Builtin.«len»
  refine wpAny_bind (m := oneArg "len" _) (wpAny_pure ?_)
  refine wpAny_bind (m := callSpecial? (.ref D) (Str.ofString "__len__")) (wpAny_callSpecial?_slot (name := Str.ofString "__len__") (dq_type ho) slot_dq_len
    (wpAny_call_entry slot_dq_len (dq_type ho) entry_dq_len ?_ (args_dq_len _)))
  show wpAny _ _ (do retInt (← Deque.size (.ref D))) _ _ s
  unfold Deque.size
  refine wpAny_bind (wpAny_bind (wpAny_fieldsOf ho rfl ?_))
  have hz : (#[Value.none, rawInt n] ++ xs.toArray).size - 2 = xs.length := by simp
  rw [hz]
  refine wpAny_pure (wpAny_bind (wpAny_mkInt (wpAny_pure ⟨_, rfl, ?_⟩)))
  refine wpAny_bind (wpAny_holding (wpAny_pure ?_))
  refine wpAny_bind (wpAny_letGo ?_)
  show wpAny _ _ (if ((xs.length : Nat) : Int) < 0 then _ else _) _ _ _
  rw [if_neg (by omega)]
  show wpAny _ _ (if ((xs.length : Nat) : Int) ≥ 2 ^ 63 then _ else _) _ _ _
  rw [if_neg (by omega)]
  exact wpAny_bind (wpAny_mkInt (wpAny_pure ⟨_, rfl, h⟩))
theorem dq_truthy {Q : Bool → Shared → Prop} (ho : s.heap.get? D = some (dqO n xs)) (hfit : (xs.length : Int) < 2 ^ 63)
    (h : Q (!xs.isEmpty) { s with toks := s.toks + 1 + 1 }) : wpAny (model prog w) A (truthy (.ref D)) Q E s := by
  have hne : ((xs.length : Int) != 0) = !xs.isEmpty := by
    cases xs with
    | nil => rfl
    | cons a l => simp; omega
  have key : wpAny (model prog w) A (runValue (.builtin "len" ⟨[.ref D], []⟩)) (fun r s' => r = .int xs.length (s.toks + 1) ∧ Q (!xs.isEmpty) s') E s := by
    refine wpAny_runValue (codeAny_builtin entry_len ?_)
    rw [Around.under_plainId plain_len _]
    exact wpAny_mono (dq_len_body (Q := fun r s' => r = .int xs.length (s.toks + 1) ∧ Q (!xs.isEmpty) s') ho hfit ⟨rfl, h⟩)
      (fun fin s' h' => by obtain ⟨r, rfl, hq⟩ := h'; exact hq) fun _ _ e => e
  unfold truthy
  first
    | refine wpAny_bind (wpAny_callSpecial?_none (name := Str.ofString "__bool__") (dq_type ho) noBool_dq ?_)
    | refine wpAny_bind (wpAny_pure (wpAny_bind (wpAny_callSpecial?_none (name := Str.ofString "__bool__") (dq_type ho) noBool_dq ?_)))
  first
    | refine wpAny_bind (wpAny_specialOf (name := Str.ofString "__len__") (dq_type ho) slot_dq_len.lookup ?_)
    | refine wpAny_bind (wpAny_pure (wpAny_bind (wpAny_specialOf (name := Str.ofString "__len__") (dq_type ho) slot_dq_len.lookup ?_)))
  first
    | exact wpAny_bind (wpAny_mono key (fun r s' h' => by obtain ⟨rfl, hq⟩ := h'; exact wpAny_pure (hne ▸ hq)) fun _ _ e => e)
    | exact wpAny_bind (wpAny_pure (wpAny_bind (wpAny_mono key (fun r s' h' => by obtain ⟨rfl, hq⟩ := h'; exact wpAny_pure (hne ▸ hq)) fun _ _ e => e)))
theorem dq_truthy_N {Q : Bool → Shared → Prop} (N : News h₀ L s.heap news) (hm : (D, dqO n xs) ∈ news) (hfit : (xs.length : Int) < 2 ^ 63)
    (h : ∀ k, Q (!xs.isEmpty) { s with toks := k }) : wpAny (model prog w) A (truthy (.ref D)) Q E s := dq_truthy (N _ hm).1 hfit (h _)
theorem dq_method {name : Str} {id : String} {pl : Sem Bool} {Q : Value × List Value → Shared → Prop} (N : News h₀ L s.heap news) (hm : (D, dqO n xs) ∈ news) (slot : Slot "collections.deque" name id)
    (hty : typeOf (.builtin id) = pure (.type "method_descriptor")) (h : Q (.builtin id, [.ref D]) s) : wpAny (model prog w) A (getMethod (.ref D) name pl) Q E s :=
  getMethod_builtin (dq_type (N _ hm).1) plainAttrs_dq slot hty (fun a e => by cases e; exact ⟨_, (N _ hm).1, rfl⟩) h
theorem dq_change {Q : Unit → Shared → Prop} {f : Array Value → Array Value} {ys : List Value} (F : Fr h₀ L s.heap m) (N : News h₀ L s.heap news) (U : Upd D (dqO n xs) (dqO (n + 1) ys) news news') (hf : f xs.toArray = ys.toArray) (hsz : ys.length ≤ sizeLine)
    (h : ∀ h', Fr h₀ L h' m → News h₀ L h' news' → Q () { s with heap := h' }) : wpAny (model prog w) A (Deque.change (.ref D) f) Q E s := by
  obtain ⟨pre, post, rfl, rfl, a, b⟩ := U.split
  have z := N (D, dqO n xs) (List.mem_append.mpr (.inr (.head _)))
  unfold Deque.change Deque.state
  refine wpAny_bind (wpAny_bind (wpAny_field z.1 rfl (x := rawInt n) (by simp) (wpAny_pure ?_)))
  have he : (#[Value.none, rawInt n] ++ xs.toArray).extract 2 (#[Value.none, rawInt n] ++ xs.toArray).size = xs.toArray := by
    apply Array.ext'
    simp
  have hg : (fun vs : Array Value => #[vs.getD 0 .none, rawInt (if true = true then n + 1 else n)] ++ f (vs.extract 2 vs.size)) (#[Value.none, rawInt n] ++ xs.toArray) = #[Value.none, rawInt (n + 1)] ++ ys.toArray := by
    show #[(#[Value.none, rawInt n] ++ xs.toArray).getD 0 .none, rawInt (n + 1)] ++ f _ = _
    rw [he, hf]
    congr 1
    simp [Array.getD]
  refine wpAny_updateFields z.1 rfl ?_ (Nat.le_trans (Nat.le_of_eq (congrArg Array.size hg)) (by simp; omega))
  refine h _ (F.change (Heap.SameBut.update ..) z.2.1 z.2.2) (news_set N a b (Heap.SameBut.update ..) ?_)
  rw [Heap.get?_update_self _ z.1 rfl]
  exact congrArg (fun z => some (⟨.type "collections.deque", none, .fields z, #[]⟩ : Obj)) hg
theorem dq_appendleft {x : Value} {Q : Value → Shared → Prop} (F : Fr h₀ L s.heap m) (N : News h₀ L s.heap news) (U : Upd D (dqO n xs) (dqO (n + 1) (x :: xs)) news news') (hsz : xs.length < 1000)
    (h : ∀ h', Fr h₀ L h' m → News h₀ L h' news' → Q .none { s with heap := h' }) : wpAny (model prog w) A (call (.builtin "collections.deque.appendleft") [.ref D, x]) Q E s := by
  have hz : sizeLine = 16777216 := by decide
  have hmem : (D, dqO n xs) ∈ news := by
    obtain ⟨pre, post, rfl, rfl, a, b⟩ := U.split
    simp
  have hmem' : (D, dqO (n + 1) (x :: xs)) ∈ news' := by
    obtain ⟨pre, post, rfl, rfl, a, b⟩ := U.split
    simp
  refine wpAny_call_entry slot_dq_appendleft (dq_type (N _ hmem).1) entry_dq_appendleft ?_ (args_dq_appendleft _ _)
  show wpAny _ _ (do Deque.pushLeft (.ref D) x; ret .none) _ _ s
  unfold Deque.pushLeft
  refine wpAny_bind (wpAny_bind (dq_change F N U (by simp) (by simp; omega) fun h' F' N' => ?_))
  unfold Deque.maxlen
  refine wpAny_bind (wpAny_bind (wpAny_field (N' _ hmem').1 rfl (x := .none) (by simp) (wpAny_pure ?_)))
  exact wpAny_pure (wpAny_pure ⟨.none, rfl, h h' F' N'⟩)
theorem dq_popleft {x : Value} {Q : Value → Shared → Prop} (F : Fr h₀ L s.heap m) (N : News h₀ L s.heap news) (U : Upd D (dqO n (x :: xs)) (dqO (n + 1) xs) news news') (hsz : xs.length < 1000)
    (h : ∀ h', Fr h₀ L h' m → News h₀ L h' news' → Q x { s with heap := h' }) : wpAny (model prog w) A (call (.builtin "collections.deque.popleft") [.ref D]) Q E s := by
  have hz : sizeLine = 16777216 := by decide
  have hmem : (D, dqO n (x :: xs)) ∈ news := by
    obtain ⟨pre, post, rfl, rfl, a, b⟩ := U.split
    simp
  refine wpAny_call_entry slot_dq_popleft (dq_type (N _ hmem).1) entry_dq_popleft ?_ (args_dq_popleft _)
  show wpAny _ _ (do
    let some x := (← Deque.items (.ref D))[0]? | rule "collections.deque.popleft.empty"; raiseError "IndexError" "pop from an empty deque"
    Deque.change (.ref D) (·.eraseIdxIfInBounds 0)
    ret x) _ _ s
  unfold Deque.items
  refine wpAny_bind (wpAny_bind (wpAny_fieldsOf (N _ hmem).1 rfl (wpAny_pure ?_)))
  have he : ((#[Value.none, rawInt n] ++ (x :: xs).toArray).extract 2 (#[Value.none, rawInt n] ++ (x :: xs).toArray).size)[0]? = some x := by
    simp
  rw [he]
  refine wpAny_bind (dq_change F N U (by simp) (by omega) fun h' F' N' => ?_)
  exact wpAny_pure ⟨x, rfl, h h' F' N'⟩
end
end Mine

end
section
open Mine
namespace Mine
theorem Con.use {lv : Nat} {w : World} {f : Addr} {news : List (Addr × Obj)} {pre : Prop} {vs : List Value} {R : Value → List (Addr × Obj) → Prop} {RE : List Value → List (Addr × Obj) → Prop} (C : Con lv w f news pre vs R RE)
    {p : Program} {loose : List Str} {mean : ExcName → Option Value} {mg mb : Str → Option Value} {dp un : Nat} {gd : Option (List Code)} {cn : Str} {cs : Scope} {a : Addr} {ccd : Value} {cl : List (Str × Addr)} {outer : List Env} {A₀ : Around} {base h₀ : Heap} {L : Addr} {m : Str → Option Value} {s : Shared} {Q E : Value → Shared → Prop}
    (B : Below A₀ base outer h₀) (F : Fr h₀ L s.heap m) (X : (Mine.KK w.params).In h₀) (N : News h₀ L s.heap news) (T : Top p loose mean mg mb h₀) (hk : cs.kind = .function)
    (hp : pre) (hd : dp + 5 * lv < recursionLimit) (hu : un + 40 * lv < cLine)
    (ret : ∀ (v : Value) (h' : Heap) (tk' : Nat) (news' : List (Addr × Obj)), R v news' → Fr h₀ L h' m → News h₀ L h' news' → Q v { s with heap := h', toks := tk' })
    (exc : ∀ (e t : Addr) (g' h' : Heap) (tk' : Nat) (es : List Value) (news' : List (Addr × Obj)), RE es news' → Fr h₀ L g' m → RaisedS base g' (envX cn cs L a ccd cl :: outer) e (.type "ValueError") t es news' h' → RaisedK base (envX cn cs L a ccd cl :: outer) e (.type "ValueError") t es news' h' → g'.UpToSlots h' → E (.ref e) { s with heap := h', toks := tk' }) :
    wpAny (model PySem.Challenge.pw_in0151_01 w) (ktrTop dp un gd cn cs L a ccd cl outer) (call (.ref f) vs) Q E s :=
  C p loose mean mg mb dp un gd cn cs a ccd cl outer A₀ base h₀ L m s Q E B F X N T hk hp hd hu ret exc
end Mine

end
section
open Mine
namespace Mine
inductive St | fin | ws | sq | dq | esc | wd
inductive ES | sp | wd | dq
noncomputable def St.val (t : Tok) : St → Value
  | .fin => .none
  | .ws => .str (T [32]) t
  | .sq => .str (T [39]) t
  | .dq => .str (T [34]) t
  | .esc => .str (T [92]) t
  | .wd => .str (T [97]) t
noncomputable def ES.str : ES → Str
  | .sp => T [32]
  | .wd => T [97]
  | .dq => T [34]
noncomputable def ES.st : ES → St
  | .sp => .ws
  | .wd => .wd
  | .dq => .dq
noncomputable def bump (c : Nat) (line : Int) : Int := if c = 10 then line + 1 else line
inductive Out
  | done (s : List Nat) (st : St) (tok : List Nat) (line : Int) (q : Bool) (push : List Nat)
  | bad (esc : Bool) (st : St) (tok : List Nat) (line : Int)
inductive Run : List Nat → St → List Nat → Int → Bool → ES → Out → Prop
  | fin0 {tok line q es} : Run [] .fin tok line q es (.done [] .fin [] line q [])
  | ws0 {tok line q es} : Run [] .ws tok line q es (.done [] .fin tok line q [])
  | wsW {c s line line' es O} : line' = bump c line → isW c = true → Run s .ws [] line' false es O → Run (c :: s) .ws [] line false es O
  | wsC {s tok line q es O} : Run (aft s) .ws tok (line + 1) q es O → Run (35 :: s) .ws tok line q es O
  | wsE {s tok line q es O} : Run s .esc tok line q .wd O → Run (92 :: s) .ws tok line q es O
  | wsD {c s tok line q es O} : isC c = true → Run s .wd [c] line q es O → Run (c :: s) .ws tok line q es O
  | wsQ {s tok line q es O} : Run s .sq tok line q es O → Run (39 :: s) .ws tok line q es O
  | wsR {s tok line q es O} : Run s .dq tok line q es O → Run (34 :: s) .ws tok line q es O
  | wsP {c s tok line q es} : isW c = false → (c == 35) = false → (c == 92) = false → isC c = false → isQ c = false → Run (c :: s) .ws tok line q es (.done s .ws [c] line q [])
  | sq0 {tok line q es} : Run [] .sq tok line q es (.bad false .sq tok line)
  | dq0 {tok line q es} : Run [] .dq tok line q es (.bad false .dq tok line)
  | sqE {s tok line q es O} : Run s .wd tok line true es O → Run (39 :: s) .sq tok line q es O
  | sqC {c s tok line line' q es O} : line' = bump c line → c ≠ 39 → Run s .sq (tok ++ [c]) line' true es O → Run (c :: s) .sq tok line q es O
  | dqE {s tok line q es O} : Run s .wd tok line true es O → Run (34 :: s) .dq tok line q es O
  | dqX {s tok line q es O} : Run s .esc tok line true .dq O → Run (92 :: s) .dq tok line q es O
  | dqC {c s tok line line' q es O} : line' = bump c line → c ≠ 34 → (c == 92) = false → Run s .dq (tok ++ [c]) line' true es O → Run (c :: s) .dq tok line q es O
  | esc0 {tok line q es} : Run [] .esc tok line q es (.bad true .esc tok line)
  | escC {c s tok line line' q es O} : line' = bump c line → (es = .dq → c = 92 ∨ c = 34) → Run s es.st (tok ++ [c]) line' q es O → Run (c :: s) .esc tok line q es O
  | escB {c s tok line line' q O} : line' = bump c line → c ≠ 92 → c ≠ 34 → Run s .dq (tok ++ [92] ++ [c]) line' q .dq O → Run (c :: s) .esc tok line q .dq O
  | wd0 {tok line q es} : Run [] .wd tok line q es (.done [] .fin tok line q [])
  | wdW {c s tok line line' q es} : line' = bump c line → isW c = true → Run (c :: s) .wd tok line q es (.done s .ws tok line' q [])
  | wdC {s tok line q es} : Run (35 :: s) .wd tok line q es (.done (aft s) .ws tok (line + 1) q [])
  | wdQ {s tok line q es O} : Run s .sq tok line q es O → Run (39 :: s) .wd tok line q es O
  | wdR {s tok line q es O} : Run s .dq tok line q es O → Run (34 :: s) .wd tok line q es O
  | wdE {s tok line q es O} : Run s .esc tok line q .wd O → Run (92 :: s) .wd tok line q es O
  | wdD {c s tok line q es O} : isC c = true → Run s .wd (tok ++ [c]) line q es O → Run (c :: s) .wd tok line q es O
  | wdP {c s tok line q es} : isW c = false → (c == 35) = false → (c == 92) = false → isC c = false → isQ c = false → Run (c :: s) .wd tok line q es (.done s .ws tok line q [c])
noncomputable def out0 : St → List Nat → Int → Bool → Out
  | .fin, _, line, q => .done [] .fin [] line q []
  | .ws, tok, line, q => .done [] .fin tok line q []
  | .sq, tok, line, _ => .bad false .sq tok line
  | .dq, tok, line, _ => .bad false .dq tok line
  | .esc, tok, line, _ => .bad true .esc tok line
  | .wd, tok, line, q => .done [] .fin tok line q []
noncomputable def nilP (s : List Nat) (P : Prop) : Prop := match s with
  | [] => P
  | _ :: _ => True
theorem Run.inv {s : List Nat} {st : St} {tok : List Nat} {line : Int} {q : Bool} {es : ES} {O : Out} (h : Run s st tok line q es O) : nilP s (O = out0 st tok line q) := by
  apply Run.casesOn (motive := fun s st tok line q es O _ => nilP s (O = out0 st tok line q)) h
  all_goals intros; first | exact True.intro | exact rfl
theorem Run.inv0 {s : List Nat} {st : St} {tok : List Nat} {line : Int} {q : Bool} {es : ES} {O : Out} (h : Run s st tok line q es O) (e : s = []) : O = out0 st tok line q := by
  subst e; exact h.inv
structure LC where
  pos : Nat
  st : St
  tok : List Nat
  line : Int
  q : Bool
  es : ES
  tst : Tok
  tl : Tok
  tt : Tok
  t3 : Tok
  tes : Tok
theorem isQ_cases {c : Nat} (h : isQ c = true) : c = 39 ∨ c = 34 := by
  unfold isQ at h
  simpa using h
theorem drop_succ {r s : List Nat} {pos c : Nat} (h : r.drop pos = c :: s) : r.drop (pos + 1) = s := by
  rw [← List.drop_drop, h]; rfl
theorem aft_suffix : ∀ (l : List Nat), ∃ p, l = p ++ aft l
  | [] => ⟨[], rfl⟩
  | c :: l => by
    rw [aft_cons]
    split
    · exact ⟨[c], rfl⟩
    · obtain ⟨p, hp⟩ := aft_suffix l
      exact ⟨c :: p, by rw [List.cons_append, ← hp]⟩
theorem drop_tail {r y z : List Nat} (h : r = y ++ z) : r.drop (r.length - z.length) = z := by
  subst h
  have : (y ++ z).length - z.length = y.length := by simp
  rw [this, List.drop_left]
theorem drop_aft {r : List Nat} {p : Nat} : r.drop (r.length - (aft (r.drop p)).length) = aft (r.drop p) := by
  obtain ⟨q, hq⟩ := aft_suffix (r.drop p)
  exact drop_tail (y := r.take p ++ q) (by rw [List.append_assoc, ← hq, List.take_append_drop])
noncomputable def pushV (l : List (Nat × Tok)) : List Value := l.map fun p => .str (T [p.1]) p.2
end Mine

end
section
open Mine
namespace Mine
noncomputable abbrev Loc := List (Str × Value)
noncomputable abbrev Led := List (Addr × Obj)
structure Fn where
  cn : Str
  cs : Scope
  a : Addr
  ccd : Value
structure Fx where
  w : World
  p : Program
  loose : List Str
  mean : ExcName → Option Value
  mg : Str → Option Value
  mb : Str → Option Value
  dp : Nat
  un : Nat
  c : Nat
  u : Nat
  gd : Option (List Code)
  cl : List (Str × Addr)
  outer : List Env
  A₀ : Around
  base : Heap
  G : Heap
  L : Addr
noncomputable abbrev Fx.M (x : Fx) : Model := model PySem.Challenge.pw_in0151_01 x.w
noncomputable abbrev Fx.env (x : Fx) (f : Fn) : Env := envX f.cn f.cs x.L f.a f.ccd x.cl
noncomputable abbrev Fx.A (x : Fx) (f : Fn) : Around := ktrTop x.dp x.un x.gd f.cn f.cs x.L f.a f.ccd x.cl x.outer
structure Fx.Ok (x : Fx) (f : Fn) : Prop where
  B : Below x.A₀ x.base x.outer x.G
  X : (Mine.KK x.w.params).In x.G
  T : Top x.p x.loose x.mean x.mg x.mb x.G
  k : f.cs.kind = .function
  hd : x.dp + x.c < recursionLimit
  hu : x.un + x.u < cLine
noncomputable def look (m : Loc) (y : Str) : Option Value := m.lookup y
noncomputable def Kn (x : Fx) (m : Loc) (n : Led) (h : Heap) : Prop := (∃ mm, Fr x.G x.L h mm ∧ ∀ y v, look m y = some v → mm y = some v) ∧ News x.G x.L h n
noncomputable def Rz (x : Fx) (f : Fn) (e : Addr) (es : List Value) (n : Led) (h' : Heap) : Prop :=
  (∃ h mm, Heap.MadeExcOf h h' e (.type "ValueError") es ∧ Fr x.G x.L h mm ∧ News x.G x.L h n) ∨
  (∃ t g mm, Fr x.G x.L g mm ∧ RaisedS x.base g (x.env f :: x.outer) e (.type "ValueError") t es n h' ∧ g.UpToSlots h')
structure Tr {α : Type} (x : Fx) (f : Fn) (m : Loc) (n : Led) (t : Sem α) (R : α → Loc → Led → Prop) (X : List Value → Led → Prop) : Prop where
  mk ::
  run : ∀ (s : Shared) (Q : α → Shared → Prop) (E : Value → Shared → Prop), x.Ok f → Kn x m n s.heap →
    (∀ a m' n' h' tk', R a m' n' → Kn x m' n' h' → Q a { s with heap := h', toks := tk' }) →
    (∀ e h' tk' es n', X es n' → Rz x f e es n' h' → E (.ref e) { s with heap := h', toks := tk' }) →
    PassesOwn x.M (x.A f) (x.env f) E → wpAny x.M (x.A f) t Q E s
noncomputable abbrev NoX : List Value → Led → Prop := fun _ _ => False
section
variable {α β : Type} {x : Fx} {f : Fn} {m : Loc} {n : Led}
theorem Tr.mono {t : Sem α} {R R' : α → Loc → Led → Prop} {X X' : List Value → Led → Prop} (h : Tr x f m n t R X) (hr : ∀ a m' n', R a m' n' → R' a m' n') (hx : ∀ es n', X es n' → X' es n') : Tr x f m n t R' X' :=
  Tr.mk fun s Q E ok st q e po => h.run s Q E ok st (fun a m' n' h' tk' r => q a m' n' h' tk' (hr _ _ _ r)) (fun e' h' tk' es n' r => e e' h' tk' es n' (hx _ _ r)) po
theorem Kn.weak {m' : Loc} {n' : Led} {h : Heap} (s : Kn x m n h) (hm : ∀ p ∈ m', look m p.1 = some p.2) (hn : ∀ q ∈ n', q ∈ n) : Kn x m' n' h := by
  obtain ⟨⟨mm, F, k⟩, N⟩ := s
  refine ⟨⟨mm, F, fun y v e => ?_⟩, fun q hq => N q (hn q hq)⟩
  have : (y, v) ∈ m' := by
    clear k hn hm
    unfold look at e
    induction m' with
    | nil => cases e
    | cons p r ih =>
      rw [List.lookup_cons] at e
      split at e
      · next hy => rw [beq_iff_eq] at hy; cases e; subst hy; exact List.mem_cons_self
      · exact List.mem_cons_of_mem _ (ih e)
  exact k y v (hm _ this)
theorem Tr.weak {m' : Loc} {n' : Led} {t : Sem α} {R : α → Loc → Led → Prop} {X : List Value → Led → Prop} (hm : ∀ p ∈ m', look m p.1 = some p.2) (hn : ∀ q ∈ n', q ∈ n) (h : Tr x f m' n' t R X) : Tr x f m n t R X :=
  Tr.mk fun s Q E ok st => h.run s Q E ok (st.weak hm hn)
theorem Tr.seq {t : Sem β} {t₁ : Sem α} {t₂ : α → Sem β} {R₁ : α → Loc → Led → Prop} {R : β → Loc → Led → Prop} {X : List Value → Led → Prop}
    (k : ∀ (s : Shared) (Q : β → Shared → Prop) (E : Value → Shared → Prop), wpAny x.M (x.A f) t₁ (fun v s₁ => wpAny x.M (x.A f) (t₂ v) Q E s₁) E s → wpAny x.M (x.A f) t Q E s)
    (h₁ : Tr x f m n t₁ R₁ X) (h₂ : ∀ v m₁ n₁, R₁ v m₁ n₁ → Tr x f m₁ n₁ (t₂ v) R X) : Tr x f m n t R X :=
  Tr.mk fun s Q E ok st q e po => k s Q E (h₁.run s _ E ok st (fun v m₁ n₁ h' tk' r st' => (h₂ v m₁ n₁ r).run _ Q E ok st' q e po) e po)
theorem Tr.as {t t₁ : Sem α} {R : α → Loc → Led → Prop} {X : List Value → Led → Prop}
    (k : ∀ (s : Shared) (Q : α → Shared → Prop) (E : Value → Shared → Prop), wpAny x.M (x.A f) t₁ Q E s → wpAny x.M (x.A f) t Q E s) (h₁ : Tr x f m n t₁ R X) : Tr x f m n t R X :=
  Tr.mk fun s Q E ok st q e po => k s Q E (h₁.run s Q E ok st q e po)
theorem Tr.fin {t : Sem α} {R : α → Loc → Led → Prop} {X : List Value → Led → Prop} {V : α → Prop}
    (k : ∀ (s : Shared) (Q : α → Shared → Prop) (E : Value → Shared → Prop), (∀ v tk, V v → Q v { s with toks := tk }) → wpAny x.M (x.A f) t Q E s) (h : ∀ v, V v → R v m n) : Tr x f m n t R X :=
  Tr.mk fun s Q E _ st q _ _ => k s Q E fun v tk hv => q v m n s.heap tk (h v hv) st
theorem Tr.finS {t : Sem α} {R : α → Loc → Led → Prop} {X : List Value → Led → Prop} {V : α → Prop}
    (k : ∀ (s : Shared) (mm : Str → Option Value) (Q : α → Shared → Prop) (E : Value → Shared → Prop), x.Ok f → Fr x.G x.L s.heap mm → (∀ y v, look m y = some v → mm y = some v) → News x.G x.L s.heap n → (∀ v tk, V v → Q v { s with toks := tk }) → wpAny x.M (x.A f) t Q E s) (h : ∀ v, V v → R v m n) : Tr x f m n t R X :=
  Tr.mk fun s Q E ok st q _ _ => by
    obtain ⟨⟨mm, F, km⟩, N⟩ := st
    exact k s mm Q E ok F km N fun v tk hv => q v m n s.heap tk (h v hv) ⟨⟨mm, F, km⟩, N⟩
theorem Tr.use {t : Sem α} {V : α → Prop} (h : Tr x f m n t (fun v m' n' => V v ∧ m' = m ∧ n' = n) NoX) {s : Shared} {Q : α → Shared → Prop} {E : Value → Shared → Prop} (ok : x.Ok f) (st : Kn x m n s.heap)
    (q : ∀ v h' tk', V v → Kn x m n h' → Q v { s with heap := h', toks := tk' }) (po : PassesOwn x.M (x.A f) (x.env f) E) : wpAny x.M (x.A f) t Q E s :=
  h.run s Q E ok st (fun v m' n' h' tk' r st' => q v h' tk' r.1 (r.2.1 ▸ r.2.2 ▸ st')) (fun _ _ _ _ _ z => z.elim) po
noncomputable abbrev IsS (y : Str) (v : Value) : Prop := ∃ t, v = .str y t
noncomputable abbrev IsI (i : Int) (v : Value) : Prop := ∃ t, v = .int i t
noncomputable def Ep (x : Fx) (f : Fn) (m : Loc) (n : Led) (e : Expr) (V : Value → Prop) : Prop := Tr x f m n (eval e (x.env f)) (fun v m' n' => V v ∧ m' = m ∧ n' = n) NoX
noncomputable def Tp (x : Fx) (f : Fn) (m : Loc) (n : Led) (e : Expr) (b : Bool) : Prop := Tr x f m n (isTrue e (x.env f) (eval e (x.env f))) (fun c m' n' => c = b ∧ m' = m ∧ n' = n) NoX
noncomputable abbrev Ev (x : Fx) (f : Fn) (m : Loc) (n : Led) (e : Expr) (R : Value → Loc → Led → Prop) (X : List Value → Led → Prop) : Prop := Tr x f m n (eval e (x.env f)) R X
noncomputable abbrev Ex (x : Fx) (f : Fn) (m : Loc) (n : Led) (ts : List Stmt) (R : Flow → Loc → Led → Prop) (X : List Value → Led → Prop) : Prop := Tr x f m n (execs ts (x.env f)) R X
theorem Ep.go {e : Expr} {V : Value → Prop} {R : Value → Loc → Led → Prop} {X : List Value → Led → Prop} (h : Ep x f m n e V) (k : ∀ v, V v → R v m n) : Ev x f m n e R X :=
  Tr.mono h (fun v m' n' r => by obtain ⟨hv, rfl, rfl⟩ := r; exact k v hv) (fun _ _ z => z.elim)
theorem Tp.go {e : Expr} {b : Bool} {R : Bool → Loc → Led → Prop} {X : List Value → Led → Prop} (h : Tp x f m n e b) (k : R b m n) : Tr x f m n (isTrue e (x.env f) (eval e (x.env f))) R X :=
  Tr.mono h (fun v m' n' r => by obtain ⟨rfl, rfl, rfl⟩ := r; exact k) (fun _ _ z => z.elim)
theorem Ex.nil {R : Flow → Loc → Led → Prop} {X : List Value → Led → Prop} (h : R .next m n) : Ex x f m n [] R X :=
  Tr.mk fun s _ _ _ st q _ _ => wpAny_execs_nil (q _ _ _ s.heap s.toks h st)
theorem Ex.st {a : Stmt} {r : List Stmt} {R : Flow → Loc → Led → Prop} {X : List Value → Led → Prop} {R₁ : Flow → Loc → Led → Prop} (h₁ : Tr x f m n (exec a (x.env f)) R₁ X)
    (h₂ : ∀ m₁ n₁, R₁ .next m₁ n₁ → Ex x f m₁ n₁ r R X) (h₃ : ∀ fl m₁ n₁, fl ≠ .next → R₁ fl m₁ n₁ → R fl m₁ n₁) : Ex x f m n (a :: r) R X :=
  Tr.mk fun s Q E ok st q e po => wpAny_execs_cons (h₁.run s _ E ok st (fun fl m₁ n₁ h' tk' r st' => by
    cases fl with
    | next => exact (h₂ m₁ n₁ r).run _ Q E ok st' q e po
    | brk => exact q _ _ _ h' tk' (h₃ _ _ _ (by intro z; cases z) r) st'
    | cont => exact q _ _ _ h' tk' (h₃ _ _ _ (by intro z; cases z) r) st'
    | ret v => exact q _ _ _ h' tk' (h₃ _ _ _ (by intro z; cases z) r) st') e po)
theorem Ex.go {a : Stmt} {r : List Stmt} {R : Flow → Loc → Led → Prop} {X : List Value → Led → Prop} (h₁ : Tr x f m n (exec a (x.env f)) (fun fl m₁ n₁ => fl = .next ∧ Ex x f m₁ n₁ r R X) X) : Ex x f m n (a :: r) R X :=
  Ex.st h₁ (fun _ _ h => h.2) (fun _ _ _ hn h => absurd h.1 hn)
theorem execs_app (env : Env) (b : List Stmt) : ∀ a : List Stmt, execs (a ++ b) env = (do match ← execs a env with | .next => execs b env | fl => pure fl)
  | [] => rfl
  | t :: a => by
    show execs (t :: (a ++ b)) env = _
    rw [execs_cons, execs_cons, bind_assoc]
    congr 1
    funext fl
    cases fl with
    | next => exact execs_app env b a
    | _ => rfl
theorem execs_if (env : Env) (test : Expr) (a b r : List Stmt) (pos : Pos) : execs (.If test a b pos :: r) env = (do standAt pos; if ← isTrue test env (eval test env) then execs (a ++ r) env else execs (b ++ r) env) := by
  rw [execs_cons, exec_If, execs_app, execs_app]
  simp only [bind_assoc]
  congr 1
  funext _
  congr 1
  funext c
  cases c <;> rfl
theorem wpAny_ifs {M : Model} {A : Around} {E : Value → Shared → Prop} {s : Shared} {env : Env} {test : Expr} {a b r : List Stmt} {pos : Pos} {Q : Flow → Shared → Prop}
    (h : wpAny M A (isTrue test env (eval test env)) (fun c s₂ => wpAny M A (if c then execs (a ++ r) env else execs (b ++ r) env) Q E s₂) E s) : wpAny M A (execs (.If test a b pos :: r) env) Q E s := fun Γ p hΓ => by
  rw [execs_if]
  simp only [Sem.wp_bind', Sem.wp_cmd_standAt]
  refine Sem.wp_mono M Γ _ (fun c p₂ s₂ h₂ => h₂ Γ p₂ hΓ) (fun _ _ _ h' => h') _ _ (h Γ _ hΓ)
theorem Ex.iff {test : Expr} {a b r : List Stmt} {pos : Pos} {c : Bool} {R : Flow → Loc → Led → Prop} {X : List Value → Led → Prop} (ht : Tp x f m n test c)
    (h1 : c = true → Ex x f m n (a ++ r) R X) (h2 : c = false → Ex x f m n (b ++ r) R X) : Ex x f m n (.If test a b pos :: r) R X :=
  Tr.seq (t₂ := fun c => if c then execs (a ++ r) (x.env f) else execs (b ++ r) (x.env f)) (fun s Q E h => wpAny_ifs h) (ht.go (R := fun c' m₁ n₁ => c' = c ∧ m₁ = m ∧ n₁ = n) ⟨rfl, rfl, rfl⟩) (by
    rintro v m₁ n₁ ⟨rfl, rfl, rfl⟩
    cases v with
    | true => exact h1 rfl
    | false => exact h2 rfl)
theorem Ex.ifT {test : Expr} {a b r : List Stmt} {pos : Pos} {R : Flow → Loc → Led → Prop} {X : List Value → Led → Prop} (ht : Tp x f m n test true)
    (h : Ex x f m n (a ++ r) R X) : Ex x f m n (.If test a b pos :: r) R X := Ex.iff ht (fun _ => h) (fun h => nomatch h)
theorem Ex.ifF {test : Expr} {a b r : List Stmt} {pos : Pos} {R : Flow → Loc → Led → Prop} {X : List Value → Led → Prop} (ht : Tp x f m n test false)
    (h : Ex x f m n (b ++ r) R X) : Ex x f m n (.If test a b pos :: r) R X := Ex.iff ht (fun h => nomatch h) (fun _ => h)
theorem look_cons {y : Str} {v : Value} {m : Loc} : look ((y, v) :: m) = fun z => if z = y then some v else look m z := by
  funext z
  show List.lookup z ((y, v) :: m) = _
  rw [List.lookup_cons]
  cases h : z == y with
  | true => rw [if_pos (beq_iff_eq.mp h)]
  | false => rw [if_neg (beq_eq_false_iff_ne.mp h)]; rfl
theorem Tr.store {y : Str} {v : Value} {R : Unit → Loc → Led → Prop} {X : List Value → Led → Prop} (hx : (x.env f).kindOf y = some .local) (h : R () ((y, v) :: m) n) : Tr x f m n (storeName (x.env f) y v) R X :=
  Tr.mk fun s Q E ok st q _ _ => by
    obtain ⟨⟨mm, F, km⟩, N⟩ := st
    refine storeX_L F N (fun h' F' N' => q () _ n h' (s.toks + 1) h ⟨⟨_, F', fun z u e => ?_⟩, N'⟩) ok.k hx
    rw [look_cons] at e
    dsimp only at e ⊢
    split at e
    · next hz => rw [if_pos hz]; exact e
    · next hz => rw [if_neg hz]; exact km z u e
theorem Ex.asg {y : Str} {p pos : Pos} {e : Expr} {r : List Stmt} {R : Flow → Loc → Led → Prop} {X : List Value → Led → Prop} {R₁ : Value → Loc → Led → Prop} (h₁ : Ev x f m n e R₁ X)
    (h₂ : ∀ v m₁ n₁, R₁ v m₁ n₁ → Ex x f ((y, v) :: m₁) n₁ r R X) (hs : swapsWith e (some (.Name y p)) pos.line (x.env f) = pure false := by rfl) (hx : (x.env f).kindOf y = some .local := by rfl) : Ex x f m n (.Assign [.Name y p] e pos :: r) R X :=
  Ex.go <| Tr.mk fun s Q E ok st q ee po => wpAny_Assign_Name (h₁.run s _ E ok st (fun v m₁ n₁ h' tk' r st' => (Tr.store hx (R := fun _ m₂ n₂ => m₂ = (y, v) :: m₁ ∧ n₂ = n₁) ⟨rfl, rfl⟩).run _ _ E ok st' (by rintro _ _ _ h'' tk'' ⟨e1, e2⟩ st''; rw [e1, e2] at st''; exact q _ _ _ h'' tk'' ⟨rfl, h₂ v m₁ n₁ r⟩ st'') ee po) ee po) hs
theorem Ex.asp {y : Str} {p pos : Pos} {e : Expr} {r : List Stmt} {R : Flow → Loc → Led → Prop} {X : List Value → Led → Prop} {V : Value → Prop} (h₁ : Ep x f m n e V)
    (h₂ : ∀ v, V v → Ex x f ((y, v) :: m) n r R X) (hs : swapsWith e (some (.Name y p)) pos.line (x.env f) = pure false := by rfl) (hx : (x.env f).kindOf y = some .local := by rfl) : Ex x f m n (.Assign [.Name y p] e pos :: r) R X :=
  Ex.asg (R₁ := fun v m₁ n₁ => V v ∧ m₁ = m ∧ n₁ = n) (h₁.go fun v hv => ⟨hv, rfl, rfl⟩) (by rintro v _ _ ⟨hv, rfl, rfl⟩; exact h₂ v hv) hs hx
theorem Ex.ret {e : Expr} {pos : Pos} {r : List Stmt} {R : Flow → Loc → Led → Prop} {X : List Value → Led → Prop} (h : Ev x f m n e (fun v => R (.ret v)) X) : Ex x f m n (.Return (some e) pos :: r) R X :=
  Ex.st (R₁ := fun fl m₁ n₁ => fl ≠ .next ∧ R fl m₁ n₁) (Tr.mk fun s Q E ok st q ee po => wpAny_Return_some (h.run s _ E ok st (fun v m₁ n₁ h' tk' r st' => q _ m₁ n₁ h' tk' ⟨by (intro z; cases z), r⟩ st') ee po)) (fun _ _ h => absurd rfl h.1) (fun _ _ _ _ h => h.2)
theorem Ex.brk {pos : Pos} {r : List Stmt} {R : Flow → Loc → Led → Prop} {X : List Value → Led → Prop} (h : R .brk m n) : Ex x f m n (.Break pos :: r) R X :=
  Ex.st (R₁ := fun fl m₁ n₁ => fl = .brk ∧ R fl m₁ n₁) (Tr.mk fun s Q E ok st q ee po => wpAny_Break (q _ m n s.heap s.toks ⟨rfl, h⟩ st)) (fun _ _ h => nomatch h.1) (fun _ _ _ _ h => h.2)
theorem Ex.cont {pos : Pos} {r : List Stmt} {R : Flow → Loc → Led → Prop} {X : List Value → Led → Prop} (h : R .cont m n) : Ex x f m n (.Continue pos :: r) R X :=
  Ex.st (R₁ := fun fl m₁ n₁ => fl = .cont ∧ R fl m₁ n₁) (Tr.mk fun s Q E ok st q ee po => wpAny_Continue (q _ m n s.heap s.toks ⟨rfl, h⟩ st)) (fun _ _ h => nomatch h.1) (fun _ _ _ _ h => h.2)
theorem Ex.exp {e : Expr} {pos : Pos} {r : List Stmt} {R : Flow → Loc → Led → Prop} {X : List Value → Led → Prop} (h : Ev x f m n e (fun _ m₁ n₁ => Ex x f m₁ n₁ r R X) X)
    (hs : swapsWith e none pos.line (x.env f) = pure false := by rfl) (hi : interactive (x.env f) = false := by rfl) : Ex x f m n (.Expr e pos :: r) R X :=
  Ex.go <| Tr.mk fun s Q E ok st q ee po => wpAny_Expr_any (h.run s _ E ok st (fun v m₁ n₁ h' tk' r st' => q _ m₁ n₁ h' tk' ⟨rfl, r⟩ st') ee po) hi hs
theorem Ep.name {y : Str} {pos : Pos} {v : Value} (hv : look m y = some v) (hx : (x.env f).kindOf y = some .local := by rfl) (hd : (y == ("__debug__" : Str)) = false := by decide) : Ep x f m n (.Name y pos) (· = v) :=
  Tr.finS (V := (· = v)) (fun s mm Q E ok F km N q => nameX_L F (km y v hv) (q v s.toks rfl) ok.k hx hd) fun v h => ⟨h, rfl, rfl⟩
theorem Ep.str {y : Str} {k : Nat} {pos : Pos} : Ep x f m n (.Constant (.str y) k pos) (IsS y) := Tr.fin (fun s Q E q => Calls.Constant_str (q _ _ ⟨_, rfl⟩)) fun v h => ⟨h, rfl, rfl⟩
theorem Ep.int {i : Int} {k : Nat} {pos : Pos} : Ep x f m n (.Constant (.int i) k pos) (IsI i) := Tr.fin (fun s Q E q => wpAny_Constant_int (q _ _ ⟨_, rfl⟩)) fun v h => ⟨h, rfl, rfl⟩
theorem Ep.none {k : Nat} {pos : Pos} : Ep x f m n (.Constant .none k pos) (· = .none) := Tr.fin (V := (· = .none)) (fun s Q E q => wpAny_Constant_none (q _ s.toks rfl)) fun v h => ⟨h, rfl, rfl⟩
theorem Ep.bool {b : Bool} {k : Nat} {pos : Pos} : Ep x f m n (.Constant (.bool b) k pos) (· = .bool b) := Tr.fin (V := (· = .bool b)) (fun s Q E q => wpAny_Constant_bool (q _ s.toks rfl)) fun v h => ⟨h, rfl, rfl⟩
theorem Ep.mono {e : Expr} {V V' : Value → Prop} (h : Ep x f m n e V) (k : ∀ v, V v → V' v) : Ep x f m n e V' := h.go fun v hv => ⟨k v hv, rfl, rfl⟩
noncomputable def Cop (op : CmpOp) (Vl Vr : Value → Prop) (b : Bool) : Prop :=
  ∀ (w : World) (A : Around) (E : Value → Shared → Prop) (s : Shared) (Q : Value → Shared → Prop) (vl vr : Value), Vl vl → Vr vr → (∀ k, Q (.bool b) { s with toks := k }) → wpAny (model PySem.Challenge.pw_in0151_01 w) A (compareOp op vl vr) Q E s
theorem Tp.cmp {l r : Expr} {op : CmpOp} {pos : Pos} {Vl Vr : Value → Prop} {b : Bool} (hl : Ep x f m n l Vl) (hr : Ep x f m n r Vr) (ho : Cop op Vl Vr b) (hm : behindInMarks op r = false := by with_unfolding_all rfl) : Tp x f m n (.Compare l [op] [r] pos) b :=
  Tr.mk fun s Q E ok st q ee po => wpAny_isTrue_Compare1 (hl.use ok st (fun vl h1 t1 e1 st1 => by
    refine hr.use ok st1 (fun vr h2 t2 e2 st2 => ?_) po
    exact ho _ _ _ _ _ _ _ e1 e2 fun k => wpAny_truthy_bool (q _ _ _ _ _ ⟨rfl, rfl, rfl⟩ st2)) po) hm
theorem Tp.cast {e : Expr} {b c : Bool} (h : Tp x f m n e b) (k : b = c) : Tp x f m n e c := k ▸ h
noncomputable def TL (x : Fx) (f : Fn) (m : Loc) (n : Led) (op : BoolOp) (es : List Expr) (b : Bool) : Prop := ∀ (pos : Pos) (whole : Sem Value), Tr x f m n (isTrue (.BoolOp op es pos) (x.env f) whole) (fun c m' n' => c = b ∧ m' = m ∧ n' = n) NoX
theorem TL.andN : TL x f m n .And [] true := fun _ _ => Tr.mk fun s Q E ok st q ee po => isTrue_and_nil (q _ _ _ s.heap s.toks ⟨rfl, rfl, rfl⟩ st)
theorem TL.orN : TL x f m n .Or [] false := fun _ _ => Tr.mk fun s Q E ok st q ee po => isTrue_or_nil (q _ _ _ s.heap s.toks ⟨rfl, rfl, rfl⟩ st)
theorem TL.andF {y : Expr} {r : List Expr} (h : Tp x f m n y false) : TL x f m n .And (y :: r) false := fun _ whole => Tr.mk fun s Q E ok st q ee po => isTrue_and (h.use ok st (fun v h1 t1 hv0 st1 => by
    subst hv0
    exact ite_ff (q _ _ _ _ _ ⟨rfl, rfl, rfl⟩ st1)) po)
theorem TL.andB {y : Expr} {r : List Expr} {b c : Bool} (h : Tp x f m n y b) (hr : TL x f m n .And r c) : TL x f m n .And (y :: r) (b && c) := fun _ whole => Tr.mk fun s Q E ok st q ee po => isTrue_and (h.use ok st (fun v h1 t1 hv0 st1 => by
    subst hv0
    cases v with
    | true => exact ite_tt ((hr _ whole).run _ Q E ok st1 q ee po)
    | false => exact ite_ff (q _ _ _ _ _ ⟨rfl, rfl, rfl⟩ st1)) po)
theorem TL.orT {y : Expr} {r : List Expr} (h : Tp x f m n y true) : TL x f m n .Or (y :: r) true := fun _ whole => Tr.mk fun s Q E ok st q ee po => isTrue_or (h.use ok st (fun v h1 t1 hv0 st1 => by
    subst hv0
    exact ite_tt (q _ _ _ _ _ ⟨rfl, rfl, rfl⟩ st1)) po)
theorem TL.orB {y : Expr} {r : List Expr} {b c : Bool} (h : Tp x f m n y b) (hr : TL x f m n .Or r c) : TL x f m n .Or (y :: r) (b || c) := fun _ whole => Tr.mk fun s Q E ok st q ee po => isTrue_or (h.use ok st (fun v h1 t1 hv0 st1 => by
    subst hv0
    cases v with
    | true => exact ite_tt (q _ _ _ _ _ ⟨rfl, rfl, rfl⟩ st1)
    | false => exact ite_ff ((hr _ whole).run _ Q E ok st1 q ee po)) po)
theorem TL.andT {y : Expr} {r : List Expr} {c : Bool} (h : Tp x f m n y true) (hr : TL x f m n .And r c) : TL x f m n .And (y :: r) c := Bool.true_and c ▸ TL.andB h hr
theorem TL.orF {y : Expr} {r : List Expr} {c : Bool} (h : Tp x f m n y false) (hr : TL x f m n .Or r c) : TL x f m n .Or (y :: r) c := Bool.false_or c ▸ TL.orB h hr
theorem TL.and1 {y : Expr} {b : Bool} (h : Tp x f m n y b) : TL x f m n .And [y] b := Bool.and_true b ▸ TL.andB h TL.andN
theorem TL.or1 {y : Expr} {b : Bool} (h : Tp x f m n y b) : TL x f m n .Or [y] b := Bool.or_false b ▸ TL.orB h TL.orN
theorem Tp.L {op : BoolOp} {es : List Expr} {pos : Pos} {b : Bool} (h : TL x f m n op es b) : Tp x f m n (.BoolOp op es pos) b := h pos _
theorem Tp.not {y : Expr} {pos : Pos} {b : Bool} (h : Tp x f m n y b) : Tp x f m n (.UnaryOp .Not y pos) (!b) := Tr.mk fun s Q E ok st q ee po => isTrue_not (h.use ok st (fun v h1 t1 hv0 st1 => by
    subst hv0
    exact q _ _ _ _ _ ⟨rfl, rfl, rfl⟩ st1) po)
noncomputable def Tv (V : Value → Prop) (b : Bool) : Prop := ∀ (w : World) (A : Around) (E : Value → Shared → Prop) (s : Shared) (Q : Bool → Shared → Prop) (v : Value), V v → (∀ k, Q b { s with toks := k }) → wpAny (model PySem.Challenge.pw_in0151_01 w) A (truthy v) Q E s
theorem Tp.val {e : Expr} {V : Value → Prop} {b : Bool} (h : Ep x f m n e V) (hv : Tv V b) (hp : isTrue e (x.env f) (eval e (x.env f)) = (do
      let v ← eval e (x.env f)
      standAt e.pos
      holding [v] (truthy v)) := by rfl) : Tp x f m n e b := Tr.mk fun s Q E ok st q ee po => isTrue_plain (h.use ok st (fun v h1 t1 e1 st1 => by
    exact hv _ _ _ _ _ _ e1 fun k => q _ _ _ _ _ ⟨rfl, rfl, rfl⟩ st1) po) hp
theorem Tv.bool {b : Bool} : Tv (· = .bool b) b := fun _ _ _ s _ _ h q => by subst h; exact wpAny_truthy_bool (q s.toks)
theorem Tv.none : Tv (· = .none) false := fun _ _ _ s _ _ h q => by subst h; exact truthy_none (q s.toks)
theorem Tv.one {c : Nat} {t : Tok} : Tv (· = .str (⟨[c].toArray⟩ : Str) t) true := fun _ _ _ _ _ _ h q => by subst h; exact truthy_one q
theorem Tv.txt {l : List Nat} {t : Tok} (hl : l.length < 1000000) : Tv (· = .str (⟨l.toArray⟩ : Str) t) (!l.isEmpty) := fun _ _ _ _ _ _ h q => by subst h; exact truthy_T hl q
theorem Tv.emp {t : Tok} : Tv (· = .str (Str.ofString "") t) false := fun _ _ _ _ _ _ h q => by
  subst h
  rw [show Str.ofString "" = (⟨([] : List Nat).toArray⟩ : Str) by decide +kernel]
  exact truthy_T (by decide) q
theorem Cop.isNN : Cop .Is (· = .none) (· = .none) true := fun _ _ _ s _ _ _ h1 h2 q => by subst h1 h2; exact is_none_none (q s.toks)
theorem Cop.isSN {y : Str} {t : Tok} : Cop .Is (· = .str y t) (· = .none) false := fun _ _ _ s _ _ _ h1 h2 q => by subst h1 h2; exact is_str_none (q s.toks)
theorem Cop.isIN {i : Int} {t : Tok} : Cop .Is (· = .int i t) (· = .none) false := fun _ _ _ s _ _ _ h1 h2 q => by subst h1 h2; exact is_int_none (q s.toks)
theorem Cop.eq1 {c d : Nat} {y : Str} {t : Tok} (hy : y = ⟨[d].toArray⟩) : Cop .Eq (· = .str (⟨[c].toArray⟩ : Str) t) (IsS y) (decide (c = d)) := fun _ _ _ s _ _ _ h1 h2 q => by
  obtain ⟨u, h2⟩ := h2
  subst h1 h2
  refine eq_one hy ?_
  rw [show (c == d) = decide (c = d) from rfl]
  exact q s.toks
theorem Cop.eqC {y z : Str} {t : Tok} {b : Bool} (hb : (y.cps.toList == z.cps.toList) = b) : Cop .Eq (· = .str y t) (IsS z) b := fun _ _ _ s _ _ _ h1 h2 q => by
  obtain ⟨u, h2⟩ := h2
  subst h1 h2
  refine P.eq_str ?_
  subst hb
  have e : (y == z) = (y.cps.toList == z.cps.toList) := by
    rw [Bool.eq_iff_iff, beq_iff_eq, beq_iff_eq]
    constructor
    · rintro rfl; rfl
    · intro h; cases y; cases z; simp only [Str.mk.injEq]; exact Array.toList_inj.mp h
  first | exact e ▸ q s.toks | (rw [e]; exact q s.toks)
section
variable {c d : Nat} {t u : Tok}
theorem Cop.nl : Cop .Eq (· = .str (⟨[c].toArray⟩ : Str) t) (IsS (Str.ofString "\n")) (decide (c = 10)) := Cop.eq1 (by decide +kernel)
theorem Cop.eqdd : Cop .Eq (· = .str (⟨[c].toArray⟩ : Str) t) (· = .str (⟨[d].toArray⟩ : Str) u) (decide (c = d)) := fun _ _ _ s _ _ _ h1 h2 q => Cop.eq1 rfl _ _ _ s _ _ _ h1 ⟨u, h2⟩ q
theorem Cop.nedd : Cop .NotEq (· = .str (⟨[c].toArray⟩ : Str) t) (· = .str (⟨[d].toArray⟩ : Str) u) (!decide (c = d)) := fun _ _ _ s _ _ _ h1 h2 q => by
  subst h1 h2
  refine ne_str ?_
  have e : ((⟨[c].toArray⟩ : Str) != ⟨[d].toArray⟩) = !decide (c = d) := by
    show (!((⟨[c].toArray⟩ : Str) == ⟨[d].toArray⟩)) = _
    congr 1
    rw [Bool.eq_iff_iff, beq_iff_eq, decide_eq_true_iff]
    constructor
    · intro h; simpa using h
    · rintro rfl; rfl
  rw [e]
  exact q s.toks
theorem Cop.of_in {y : Str} {b : Bool} (h : ∀ (prog : Program) (w : World) (A : Around) (E : Value → Shared → Prop) (s : Shared) (Q : Value → Shared → Prop), Q (.bool b) s → wpAny (model prog w) A (compareOp .In (.str (⟨[c].toArray⟩ : Str) t) (.str y u)) Q E s) :
    Cop .In (· = .str (⟨[c].toArray⟩ : Str) t) (· = .str y u) b := fun _ _ _ s _ _ _ h1 h2 q => by subst h1 h2; exact h _ _ _ _ _ _ (q s.toks)
theorem Cop.inW : Cop .In (· = .str (⟨[c].toArray⟩ : Str) t) (· = .str (Str.ofString " \t\r\n") u) (isW c) := Cop.of_in fun _ _ _ _ _ _ => in_ws
theorem Cop.inQ : Cop .In (· = .str (⟨[c].toArray⟩ : Str) t) (· = .str (Str.ofString "'\"") u) (isQ c) := Cop.of_in fun _ _ _ _ _ _ => in_qs
theorem Cop.inH : Cop .In (· = .str (⟨[c].toArray⟩ : Str) t) (· = .str (Str.ofString "#") u) (c == 35) := Cop.of_in fun _ _ _ _ _ _ => in_cm
theorem Cop.inB : Cop .In (· = .str (⟨[c].toArray⟩ : Str) t) (· = .str (Str.ofString "\\") u) (c == 92) := Cop.of_in fun _ _ _ _ _ _ => in_es
theorem Cop.inD : Cop .In (· = .str (⟨[c].toArray⟩ : Str) t) (· = .str (Str.ofString "\"") u) (c == 34) := Cop.of_in fun _ _ _ _ _ _ => in_dt
theorem Cop.inN : Cop .In (· = .str (⟨[c].toArray⟩ : Str) t) (· = .str (Str.ofString "") u) false := Cop.of_in fun _ _ _ _ _ _ => in_none
theorem Cop.inC : Cop .In (· = .str (⟨[c].toArray⟩ : Str) t) (· = .str wcs u) (isC c) := Cop.of_in fun _ _ _ _ _ _ => in_wc
theorem Cop.geI {i j : Int} {b : Bool} (hb : decide (i ≥ j) = b) : Cop .GtE (· = .int i t) (IsI j) b := fun _ _ _ s _ _ _ h1 h2 q => by obtain ⟨u, h2⟩ := h2; subst h1 h2 hb; exact P.ge_int (q s.toks)
theorem Cop.gtI {i j : Int} {b : Bool} (hb : decide (i > j) = b) : Cop .Gt (· = .int i t) (IsI j) b := fun _ _ _ s _ _ _ h1 h2 q => by obtain ⟨u, h2⟩ := h2; subst h1 h2 hb; exact P.gt_int (q s.toks)
end
theorem raisedS_less {base G : Heap} {l : List Env} {e t : Addr} {cls : Value} {vs : List Value} {n n' : Led} {h : Heap} (R : RaisedS base G l e cls t vs n h) (hs : ∀ q ∈ n', q ∈ n) : RaisedS base G l e cls t vs n' h := by
  obtain ⟨⟨B, h1, h2, h3, h4⟩, h5⟩ := R
  exact ⟨⟨B, h1, h2, fun q hq => h3 q (hs q hq), h4⟩, h5⟩
noncomputable def Ea (x : Fx) (f : Fn) (m : Loc) (n : Led) (es : List Expr) (V : List Value → Prop) : Prop := ∀ pos, Tr x f m n (spliced (backTo pos (starEach es (x.env f)))) (fun vs m' n' => V vs ∧ m' = m ∧ n' = n) NoX
theorem Ea.nil : Ea x f m n [] (· = []) := fun _ => Tr.mk fun s Q E ok st q ee po => args_nil (q _ _ _ s.heap s.toks ⟨rfl, rfl, rfl⟩ st)
theorem Ea.cons {e : Expr} {r : List Expr} {V₁ : Value → Prop} {V₂ : List Value → Prop} (h₁ : Ep x f m n e V₁) (h₂ : Ea x f m n r V₂) (hs : starEach (e :: r) (x.env f) = (false, eval e (x.env f)) :: starEach r (x.env f) := by rfl) :
    Ea x f m n (e :: r) (fun l => ∃ v vs, l = v :: vs ∧ V₁ v ∧ V₂ vs) := fun pos => Tr.mk fun s Q E ok st q ee po => args_cons (h₁.use ok st (fun v h1 t1 e1 st1 => by
    refine (h₂ pos).use ok st1 (fun vs h2 t2 e2 st2 => ?_) po
    exact q _ _ _ _ _ ⟨⟨v, vs, rfl, e1, e2⟩, rfl, rfl⟩ st2) po) hs
theorem Tr.con {lv : Nat} {fa : Addr} {n₀ : Led} {pre : Prop} {vs : List Value} {R : Value → Led → Prop} {RE : List Value → Led → Prop} (C : Con lv x.w fa n₀ pre vs R RE) (hp : pre) (hn : ∀ q ∈ n₀, q ∈ n) (h5 : 5 * lv ≤ x.c) (hu : 40 * lv ≤ x.u)
    {R' : Value → Loc → Led → Prop} {X : List Value → Led → Prop} (hR : ∀ v n', R v n' → ∃ n₂, (∀ q ∈ n₂, q ∈ n') ∧ R' v m n₂) (hX : ∀ es n', RE es n' → ∃ n₂, (∀ q ∈ n₂, q ∈ n') ∧ X es n₂) : Tr x f m n (call (.ref fa) vs) R' X := Tr.mk fun s Q E ok st q ee _ => by
  obtain ⟨⟨mm, F, km⟩, N⟩ := st
  have h1 := ok.hd
  have h2 := ok.hu
  refine C x.p x.loose x.mean x.mg x.mb x.dp x.un x.gd f.cn f.cs f.a f.ccd x.cl x.outer x.A₀ x.base x.G x.L mm s Q E ok.B F ok.X (fun q hq => N q (hn q hq)) ok.T ok.k hp (by omega) (by omega) (fun v h' tk' n' r F' N' => ?_) (fun e t g' h' tk' es n' r F' RS _ u => ?_)
  · obtain ⟨n₂, hs, hr⟩ := hR v n' r
    exact q v m n₂ h' tk' hr ⟨⟨mm, F', km⟩, fun q hq => N' q (hs q hq)⟩
  · obtain ⟨n₂, hs, hr⟩ := hX es n' r
    exact ee e h' tk' es n₂ hr (.inr ⟨t, g', mm, F', raisedS_less RS hs, u⟩)
end
noncomputable def retv : Flow → Value
  | .ret v => v
  | _ => .none
theorem code_of {c u : Nat} {w : World} {fa : Addr} {news : Led} {args : Args} {R : Value → Led → Prop} {RE : List Value → Led → Prop}
    {name qual : Str} {params : Arguments} {body : List Stmt} {scope : Scope} {dV kV doc pm cdv ct oc : Value} {an od : Option Addr} {osl : Array (Option Value)} {binds : List (Str × Value)}
    (ho : (Mine.KK w.params).lookup fa = some ⟨oc, od, .func (fnOf name qual params body scope dV kV doc pm an cdv ct), osl⟩) (hcd : codeIn (Mine.KK w.params) cdv qual = true)
    (hbind : ∀ s : Shared, (Mine.KK w.params).In s.heap → BindsTo s (fnOf name qual params body scope dV kV doc pm an cdv ct) args binds) (hloc : ∀ y ∈ binds, scope.names.lookup y.1 = some .local)
    (h : ∀ x : Fx, x.w = w → x.c = c → x.u = u → x.cl = [] → Ex x ⟨qual, scope, fa, cdv⟩ binds.reverse news body (fun fl _ n' => R (retv fl) n') RE)
    (hco : scope.isCoroutine = false) (hgen : scope.isGenerator = false) (hk : scope.kind = .function) (hcell : ∀ x ∈ scope.names, x.2 ≠ .cell)
    {p : Program} {loose : List Str} {mean : ExcName → Option Value} {mg mb : Str → Option Value} {A : Around} {env : Env} {outer : List Env} {A₀ : Around} {base h₀ : Heap} {L : Addr} {m : Str → Option Value} {s : Shared} {Q E : Value → Shared → Prop}
    (hA : A.frames = some (env :: outer)) (hf : env.frame = some L) (hck : env.scope.kind = .function) (hh : A.handled = none)
    (B : Below A₀ base outer h₀) (F : Fr h₀ L s.heap m) (X : (Mine.KK w.params).In h₀) (N : News h₀ L s.heap news) (T : Top p loose mean mg mb h₀) (hdp : A.depth + 1 + c < recursionLimit) (hun : A.units + 3 + u < cLine)
    (ret : ∀ (v : Value) (h' : Heap) (tk' : Nat) (news' : Led), R v news' → Fr h₀ L h' m → News h₀ L h' news' → Q v { s with heap := h', toks := tk' })
    (rai : ∀ (e t : Addr) (g' h' : Heap) (tk' : Nat) (es : List Value) (news' : Led), RE es news' → Fr h₀ L g' m → RaisedS base g' (env :: outer) e (.type "ValueError") t es news' h' → RaisedK base (env :: outer) e (.type "ValueError") t es news' h' → g'.UpToSlots h' → E (.ref e) { s with heap := h', toks := tk' }) :
    codeAny (model PySem.Challenge.pw_in0151_01 w) A (.call (.ref fa) args) (fun r s' => match r with | .ok (.ret v) => Q v s' | .ok _ => False | .error e => E e s') s := by
  refine code_def (env := env) (outer := outer) B F X N T hA hf hck ho hcd (Nat.lt_of_le_of_lt (Nat.le_trans (Nat.le_add_right _ 1) (Nat.le_add_right _ c)) hdp) (hbind s (X.keeps F.keep)) hloc ?_ hco hgen hk hcell
  intro G LL h1 FG F1 N1 B1 X1 T1
  obtain ⟨ah, ad, af, ag, au⟩ := A
  cases hA
  cases hh
  refine (h ⟨w, p, loose, mean, mg, mb, ad + 1, au + 3, c, u, ag, [], env :: outer, _, base, G, LL⟩ rfl rfl rfl rfl).run _ _ _ ⟨B1, X1, T1, hk, hdp, hun⟩ ⟨⟨_, F1, fun _ _ e => e⟩, N1⟩ ?_ ?_ ?_
  · rintro fl m' n' h' tk' r ⟨⟨mm, F', _⟩, N'⟩
    exact ⟨LL, mm, n', F', N', fun F₂ N₂ => by
      have := ret (retv fl) h' tk' n' r F₂ N₂
      cases fl <;> exact this⟩
  · rintro e h' tk' es n' r z
    rcases z with ⟨g, mm, hx, F', N'⟩ | ⟨t, g, mm, F', RS, u⟩
    · exact leave_raiseS B1 hx F' N' (fun h₂ t R₁ R₂ U => rai e t G h₂ tk' es n' r FG R₁ R₂ U) hk
    · exact leave_onS B1 F' RS u (fun h₂ R₁ R₂ U => rai e t G h₂ tk' es n' r FG R₁ R₂ U)
  · exact PassesOwn.leaving
theorem Con.of {lv : Nat} {w : World} {fa : Addr} {news : Led} {pre : Prop} {vs : List Value} {R : Value → Led → Prop} {RE : List Value → Led → Prop}
    {name qual : Str} {params : Arguments} {body : List Stmt} {scope : Scope} {dV kV doc pm cdv ct oc : Value} {an od : Option Addr} {osl : Array (Option Value)} {binds : List (Str × Value)}
    (ho : (Mine.KK w.params).lookup fa = some ⟨oc, od, .func (fnOf name qual params body scope dV kV doc pm an cdv ct), osl⟩) (hcd : codeIn (Mine.KK w.params) cdv qual = true)
    (hbind : ∀ s : Shared, (Mine.KK w.params).In s.heap → BindsTo s (fnOf name qual params body scope dV kV doc pm an cdv ct) ⟨vs, []⟩ binds) (hloc : ∀ y ∈ binds, scope.names.lookup y.1 = some .local)
    (hlv : 0 < lv) (h : pre → ∀ x : Fx, x.w = w → x.c = 5 * lv - 1 → x.u = 40 * lv - 3 → x.cl = [] → Ex x ⟨qual, scope, fa, cdv⟩ binds.reverse news body (fun fl _ n' => R (retv fl) n') RE)
    (hco : scope.isCoroutine = false) (hgen : scope.isGenerator = false) (hk : scope.kind = .function) (hcell : ∀ x ∈ scope.names, x.2 ≠ .cell) : Con lv w fa news pre vs R RE := by
  intro p loose mean mg mb dp un gd cn cs a ccd cl outer A₀ base h₀ L m s Q E B F X N T hck hpre hdp hun ret rai
  exact wpAny_call (code_of (env := envX cn cs L a ccd cl) (outer := outer) ho hcd hbind hloc (h hpre) hco hgen hk hcell rfl rfl hck rfl B F X N T (by show dp + 1 + (5 * lv - 1) < recursionLimit; omega) (by show un + 3 + (40 * lv - 3) < cLine; omega) ret rai)
end Mine

end
section
open Mine
namespace Mine
noncomputable def ownOk (K : Frag) (C : Addr) (name : Str) : Bool := plainGet K C name && hasDictIn K C && (match findIn K (.ref C) name with | some r => noGet K r | none => false)
section
variable {α β : Type} {x : Fx} {f : Fn} {m : Loc} {n : Led}
theorem Tr.ep {t : Sem β} {e : Expr} {t₂ : Value → Sem β} {V : Value → Prop} {R : β → Loc → Led → Prop} {X : List Value → Led → Prop}
    (k : ∀ (s : Shared) (Q : β → Shared → Prop) (E : Value → Shared → Prop), wpAny x.M (x.A f) (eval e (x.env f)) (fun v s₁ => wpAny x.M (x.A f) (t₂ v) Q E s₁) E s → wpAny x.M (x.A f) t Q E s)
    (h₁ : Ep x f m n e V) (h₂ : ∀ v, V v → Tr x f m n (t₂ v) R X) : Tr x f m n t R X :=
  Tr.seq k (h₁.go (R := fun v m₁ n₁ => V v ∧ m₁ = m ∧ n₁ = n) fun v hv => ⟨hv, rfl, rfl⟩) (by rintro v _ _ ⟨hv, rfl, rfl⟩; exact h₂ v hv)
theorem Ep.at {o : Expr} {a : Addr} {name : Str} {pos : Pos} {V : Value → Prop} {y : Str} {yp : Pos} (ho : o = .Name y yp) (h₁ : Ep x f m n o (· = .ref a)) (h₂ : Tr x f m n (getAttr (.ref a) name true) (fun v m' n' => V v ∧ m' = m ∧ n' = n) NoX)
    (he : eval (.Attribute (.Name y yp) name pos) (x.env f) = (do
      let o ← eval (.Name y yp) (x.env f)
      standAt pos.atName
      let r ← holding [o] (getAttr o name true)
      letTemporaryGo (.Name y yp) o r
      pure r) := by rfl) : Ep x f m n (.Attribute o name pos) V := by
  subst ho
  exact Tr.ep (t₂ := fun v => getAttr v name true) (fun s Q E h => Attribute_Name_ h he) h₁ (by rintro v rfl; exact h₂)
theorem Tr.own {a C d : Addr} {es : List DictEntry} {k : Nat} {name : Str} {v : Value} {sl : Array (Option Value)} {b : Bool} (h1 : (a, (⟨.ref C, some d, .plain, sl⟩ : Obj)) ∈ n) (h2 : (d, dictOf es k) ∈ n)
    (hc : ∀ P, ownOk (Mine.KK P) C name = true) (hl : getL name es = some (some v)) (hv : handedIn v = true) {R : Value → Loc → Led → Prop} {X : List Value → Led → Prop} (h : R v m n) : Tr x f m n (getAttr (.ref a) name b) R X := Tr.mk fun s Q E ok st q _ _ => by
  obtain ⟨⟨mm, F, km⟩, N⟩ := st
  have hc := hc x.w.params
  unfold ownOk at hc
  cases ha : findIn (Mine.KK x.w.params) (.ref C) name with
  | none => rw [ha] at hc; simp at hc
  | some r =>
    rw [ha] at hc
    obtain ⟨h3, h4⟩ := Bool.and_eq_true_iff.mp hc
    exact get_own F ok.X (InstAt.of_news N h1 h2) (Bool.and_eq_true_iff.mp h3).1 (Bool.and_eq_true_iff.mp h3).2 ha h4 hl hv (q v m n s.heap _ h ⟨⟨mm, F, km⟩, N⟩)
noncomputable def methIn (K : Frag) (C : Addr) (name : Str) (fa : Addr) : Bool := plainGet K C name && (match findIn K (.ref C) name with | some (some (.ref g)) => g == fa | _ => false) && isFn K (.ref fa) && keepIn K (.ref fa)
theorem Tr.meth {a C d fa : Addr} {es : List DictEntry} {k : Nat} {name : Str} {pl : Sem Bool} {sl : Array (Option Value)} (h1 : (a, (⟨.ref C, some d, .plain, sl⟩ : Obj)) ∈ n) (h2 : (d, dictOf es k) ∈ n)
    (hc : ∀ P, methIn (Mine.KK P) C name fa = true) (hl : getL name es = some none) {R : Value × List Value → Loc → Led → Prop} {X : List Value → Led → Prop} (h : R (.ref fa, [.ref a]) m n) : Tr x f m n (getMethod (.ref a) name pl) R X := Tr.mk fun s Q E ok st q _ _ => by
  obtain ⟨⟨mm, F, km⟩, N⟩ := st
  have hc := hc x.w.params
  unfold methIn at hc
  simp only [Bool.and_eq_true] at hc
  obtain ⟨⟨⟨h3, h4⟩, h5⟩, h6⟩ := hc
  have ha : findIn (Mine.KK x.w.params) (.ref C) name = some (some (.ref fa)) := by
    split at h4
    · next g hg => rw [hg]; rw [beq_iff_eq.mp h4]
    · cases h4
  exact method_inst F ok.X (InstAt.of_news N h1 h2) h3 ha h5 hl (q _ m n s.heap s.toks h ⟨⟨mm, F, km⟩, N⟩)
theorem methIn_keep {K : Frag} {C fa : Addr} {name : Str} (h : methIn K C name fa = true) : keepIn K (.ref fa) = true := (Bool.and_eq_true_iff.mp h).2
theorem Ep.glb {y : Str} {pos : Pos} {v : Value} (e : ∀ Q, nsIn (Mine.KK Q) mainGlobals y = some (some v)) (hx : (x.env f).kindOf y = some .globalImplicit := by rfl) (hd : (y == ("__debug__" : Str)) = false := by decide) : Ep x f m n (.Name y pos) (· = v) :=
  Tr.finS (V := (· = v)) (fun s mm Q E ok F km N q => nameX_K F ok.X (topRead_of ok.T) (e x.w.params) (q v s.toks rfl) ok.k hx hd) fun v h => ⟨h, rfl, rfl⟩
theorem Ep.blt {y : Str} {pos : Pos} {v : Value} (e : ∀ Q, nsIn (Mine.KK Q) mainGlobals y = some Option.none) (hv : bootBuiltins y = some v) (hn : y ≠ "__name__") (hx : (x.env f).kindOf y = some .globalImplicit := by rfl) (hd : (y == ("__debug__" : Str)) = false := by decide) : Ep x f m n (.Name y pos) (· = v) :=
  Tr.finS (V := (· = v)) (fun s mm Q E ok F km N q => nameX_B F ok.X (topRead_of ok.T) (e x.w.params) hv hn (q v s.toks rfl) ok.k hx hd) fun v h => ⟨h, rfl, rfl⟩
theorem g_VE : ∀ Q, nsIn (Mine.KK Q) mainGlobals (Str.ofString "ValueError") = some none := by intro Q; kernel_rfl
theorem b_VE : bootBuiltins (Str.ofString "ValueError") = some (.type "ValueError") := by boot_by_name
theorem Ev.meth {o : Expr} {name : Str} {ap pos : Pos} {a C d fa : Addr} {es : List DictEntry} {k : Nat} {sl : Array (Option Value)} {e : Expr} {rest : List Expr} {V : List Value → Prop} {R : Value → Loc → Led → Prop} {X : List Value → Led → Prop} {pl : Sem Bool}
    (ho : Ep x f m n o (· = .ref a)) (h1 : (a, (⟨.ref C, some d, .plain, sl⟩ : Obj)) ∈ n) (h2 : (d, dictOf es k) ∈ n) (hc : ∀ P, methIn (Mine.KK P) C name fa = true) (hl : getL name es = some none)
    (ha : Ea x f m n (e :: rest) V) (h : ∀ vs, V vs → Tr x f m n (call (.ref fa) (.ref a :: vs)) R X)
    (he : eval (.Call (.Attribute o name ap) (e :: rest) [] pos) (x.env f) = (do
      let ov ← eval o (x.env f)
      standAt ap.atName
      let (fv, first) ← holding [ov] (getMethod ov name pl)
      callWith pos fv first (backTo pos (starEach (e :: rest) (x.env f))) []) := by rfl)
    (hs : starEach (e :: rest) (x.env f) = (false, eval e (x.env f)) :: starEach rest (x.env f) := by rfl) (hs2 : ((backTo pos (starEach rest (x.env f))).any fun x => x.1) = false := by rfl) : Ev x f m n (.Call (.Attribute o name ap) (e :: rest) [] pos) R X :=
  Tr.mk fun s Q E ok st q ee po => MethodCall_ (ho.use ok st (fun v h' t1 hv0 st1 => by
    subst hv0
    refine (Tr.meth h1 h2 hc hl (R := fun p m' n' => p = (.ref fa, [.ref a]) ∧ m' = m ∧ n' = n) (X := NoX) ⟨rfl, rfl, rfl⟩).use ok st1 (fun p h2 t2 hv0 st2 => ?_) po
    subst hv0
    refine callWith_K ok.X (methIn_keep (hc x.w.params)) ((ha pos).run _ _ E ok st2 ?_ (fun _ _ _ _ _ z => z.elim) po) hs hs2
    rintro vs _ _ h3 t3 ⟨hv, rfl, rfl⟩ st3
    refine ⟨?_, (h vs hv).run _ Q E ok st3 q ee po⟩
    obtain ⟨⟨mm, F, _⟩, _⟩ := st3
    exact ok.X.keeps F.keep) po) he
theorem Ev.meth0 {o : Expr} {name : Str} {ap pos : Pos} {a C d fa : Addr} {es : List DictEntry} {k : Nat} {sl : Array (Option Value)} {R : Value → Loc → Led → Prop} {X : List Value → Led → Prop} {pl : Sem Bool}
    (ho : Ep x f m n o (· = .ref a)) (h1 : (a, (⟨.ref C, some d, .plain, sl⟩ : Obj)) ∈ n) (h2 : (d, dictOf es k) ∈ n) (hc : ∀ P, methIn (Mine.KK P) C name fa = true) (hl : getL name es = some none)
    (h : Tr x f m n (call (.ref fa) [.ref a]) R X)
    (he : eval (.Call (.Attribute o name ap) [] [] pos) (x.env f) = (do
      let ov ← eval o (x.env f)
      standAt ap.atName
      let (fv, first) ← holding [ov] (getMethod ov name pl)
      callWith pos fv first (backTo pos (starEach [] (x.env f))) []) := by rfl) : Ev x f m n (.Call (.Attribute o name ap) [] [] pos) R X :=
  Tr.mk fun s Q E ok st q ee po => MethodCall_ (ho.use ok st (fun v h' t1 hv0 st1 => by
    subst hv0
    refine (Tr.meth h1 h2 hc hl (R := fun p m' n' => p = (.ref fa, [.ref a]) ∧ m' = m ∧ n' = n) (X := NoX) ⟨rfl, rfl, rfl⟩).use ok st1 (fun p h2 t2 hv0 st2 => ?_) po
    subst hv0
    refine callWith_K0 ?_ (methIn_keep (hc x.w.params)) (h.run _ Q E ok st2 q ee po)
    obtain ⟨⟨mm, F, _⟩, _⟩ := st2
    exact ok.X.keeps F.keep) po) he
theorem Ev.methB {o : Expr} {name : Str} {ap pos : Pos} {ov : Value} {id : String} {first : List Value} {e : Expr} {rest : List Expr} {V : List Value → Prop} {R : Value → Loc → Led → Prop} {X : List Value → Led → Prop} {pl : Sem Bool}
    (ho : Ep x f m n o (· = ov)) (hm : Tr x f m n (getMethod ov name pl) (fun p m' n' => p = (.builtin id, first) ∧ m' = m ∧ n' = n) NoX)
    (ha : Ea x f m n (e :: rest) V) (h : ∀ vs, V vs → Tr x f m n (call (.builtin id) (first ++ vs)) R X)
    (he : eval (.Call (.Attribute o name ap) (e :: rest) [] pos) (x.env f) = (do
      let ov ← eval o (x.env f)
      standAt ap.atName
      let (fv, first) ← holding [ov] (getMethod ov name pl)
      callWith pos fv first (backTo pos (starEach (e :: rest) (x.env f))) []) := by rfl)
    (hs : starEach (e :: rest) (x.env f) = (false, eval e (x.env f)) :: starEach rest (x.env f) := by rfl) (hs2 : ((backTo pos (starEach rest (x.env f))).any fun x => x.1) = false := by rfl) : Ev x f m n (.Call (.Attribute o name ap) (e :: rest) [] pos) R X :=
  Tr.mk fun s Q E ok st q ee po => MethodCall_ (ho.use ok st (fun v h' t1 hv0 st1 => by
    subst hv0
    refine hm.use ok st1 (fun p h2 t2 hv0 st2 => ?_) po
    subst hv0
    refine callWith_method1 ((ha pos).run _ _ E ok st2 ?_ (fun _ _ _ _ _ z => z.elim) po) hs hs2
    rintro vs _ _ h3 t3 ⟨hv, rfl, rfl⟩ st3
    exact (h vs hv).run _ Q E ok st3 q ee po) po) he
theorem Ex.seta {y : Str} {yp ap pos : Pos} {name : Str} {e : Expr} {r : List Stmt} {a : Addr} {V : Value → Prop} {R : Flow → Loc → Led → Prop} {X : List Value → Led → Prop} (he : Ep x f m n e V) (hy : Ep x f m n (.Name y yp) (· = .ref a))
    (h : ∀ v, V v → Tr x f m n (setAttr (.ref a) name v) (fun _ m' n' => Ex x f m' n' r R X) X) (hs : swapsWith e (some (.Attribute (.Name y yp) name ap)) pos.line (x.env f) = pure false := by rfl) : Ex x f m n (.Assign [.Attribute (.Name y yp) name ap] e pos :: r) R X :=
  Ex.go <| Tr.mk fun s Q E ok st q ee po => plainObj_wpAny_Assign_Attribute (he.use ok st (fun v h1 t1 hv st1 => by
    refine hy.use ok st1 (fun v0 h2 t2 hv0 st2 => ?_) po
    subst hv0
    exact (h v hv).run _ _ E ok st2 (fun _ m' n' h' tk' z st3 => q _ _ _ h' tk' ⟨rfl, z⟩ st3) ee po) po) hs
theorem Ex.auga {y : Str} {yp ap pos : Pos} {name : Str} {op : Operator} {e : Expr} {r : List Stmt} {a : Addr} {V W : Value → Prop} {old : Value} {R : Flow → Loc → Led → Prop} {X : List Value → Led → Prop} (hy : Ep x f m n (.Name y yp) (· = .ref a))
    (ho : Tr x f m n (getAttr (.ref a) name true) (fun v m' n' => v = old ∧ m' = m ∧ n' = n) NoX) (he : Ep x f m n e V) (hop : ∀ v, V v → Tr x f m n (inplaceOp op old v) (fun v m' n' => W v ∧ m' = m ∧ n' = n) NoX)
    (h : ∀ v, W v → Tr x f m n (setAttr (.ref a) name v) (fun _ m' n' => Ex x f m' n' r R X) X) : Ex x f m n (.AugAssign (.Attribute (.Name y yp) name ap) op e pos :: r) R X :=
  Ex.go <| Tr.mk fun s Q E ok st q ee po => wpAny_AugAssign_AttributeAny (hy.use ok st (fun v0 h1 t1 hv0 st1 => by
    subst hv0
    refine ho.use ok st1 (fun v0 h2 t2 hv0 st2 => ?_) po
    subst hv0
    refine he.use ok st2 (fun v h3 t3 hv st3 => ?_) po
    refine (hop v hv).use ok st3 (fun v' h4 t4 hv' st4 => ?_) po
    exact (h v' hv').run _ _ E ok st4 (fun _ m' n' h' tk' z st3 => q _ _ _ h' tk' ⟨rfl, z⟩ st3) ee po) po)
theorem Ex.raiseVE {y : Str} {yp p pos cp : Pos} {msg : Str} {k : Nat} {r : List Stmt} {R : Flow → Loc → Led → Prop} {X : List Value → Led → Prop} (hf : Ep x f m n (.Name y yp) (· = .type "ValueError")) (h : ∀ t, X [.str msg t] n)
    (hs : starEach [.Constant (.str msg) k p] (x.env f) = (false, eval (.Constant (.str msg) k p) (x.env f)) :: starEach [] (x.env f) := by rfl)
    (hc : eval (.Call (.Name y yp) [.Constant (.str msg) k p] [] cp) (x.env f) = (do callWith cp (← eval (.Name y yp) (x.env f)) [] (backTo cp (starEach [.Constant (.str msg) k p] (x.env f))) (backToKw cp (keywordEach [] (x.env f)))) := by rfl) :
    Ex x f m n (.Raise (some (.Call (.Name y yp) [.Constant (.str msg) k p] [] cp)) none pos :: r) R X :=
  Ex.go <| Tr.mk fun s Q E ok st q ee po => Raise_new rfl (Call_ (hf.use ok st (fun v0 h1 t1 hv0 st1 => by
    subst hv0
    refine PyProof.Rows.callWith_type1 (args_cons (Calls.Constant_str (args_nil (raise_VE ?_))) hs) hs rfl
    intro h' e hx
    obtain ⟨⟨mm, F, km⟩, N⟩ := st1
    exact ee e h' _ _ _ (h _) (.inl ⟨_, mm, Heap.MadeExc.of hx, F, N⟩)) po) hc)
noncomputable def WPost (x : Fx) (f : Fn) {σ : Type} (ps : σ → Loc) (led : σ → Led) (P : σ → Prop) (μ : σ → Nat) (c : σ) (r : List Stmt) (R : Flow → Loc → Led → Prop) (X : List Value → Led → Prop) : Flow → Loc → Led → Prop
  | .ret v, m', n' => R (.ret v) m' n'
  | .brk, m', n' => Ex x f m' n' r R X
  | _, m', n' => ∃ c', P c' ∧ μ c' < μ c ∧ (∀ p ∈ ps c', look m' p.1 = some p.2) ∧ (∀ q ∈ led c', q ∈ n')
theorem look_of : ∀ {m : Loc} {mm : Str → Option Value}, (∀ p ∈ m, mm p.1 = some p.2) → ∀ y v, look m y = some v → mm y = some v
  | [], _, _, _, _, e => nomatch e
  | p :: r, mm, h, y, v, e => by
    rw [show p = (p.1, p.2) from rfl, look_cons] at e
    dsimp only at e
    split at e
    · next hy => subst hy; rw [← Option.some.inj e]; exact h p List.mem_cons_self
    · exact look_of (fun q hq => h q (List.mem_cons_of_mem _ hq)) y v e
theorem Ex.whl {σ : Type} {test : Expr} {body r : List Stmt} {pos : Pos} {R : Flow → Loc → Led → Prop} {X : List Value → Led → Prop} (ps : σ → Loc) (led : σ → Led) (P : σ → Prop) (μ : σ → Nat) (c₀ : σ)
    (hm : ∀ p ∈ ps c₀, look m p.1 = some p.2) (hn : ∀ q ∈ led c₀, q ∈ n) (hp : P c₀)
    (turn : ∀ c, P c → Tr x f (ps c) (led c) (isTrue test (x.env f) (eval test (x.env f))) (fun b m₁ n₁ => if b = true then Ex x f m₁ n₁ body (WPost x f ps led P μ c r R X) X else Ex x f m₁ n₁ r R X) X) :
    Ex x f m n (.While test body [] pos :: r) R X := by
  refine Ex.st (R₁ := fun fl m₁ n₁ => match fl with | .next => Ex x f m₁ n₁ r R X | fl => R fl m₁ n₁) (Tr.mk fun s Q E ok st q ee po => ?_) (fun _ _ h => h) (fun fl _ _ hne h => by cases fl <;> first | exact absurd rfl hne | exact h)
  obtain ⟨⟨mm, F, km⟩, N⟩ := st
  refine While_inv2 (fun k mm nx => ∃ c : σ, nx = led c ∧ μ c = k ∧ (∀ p ∈ ps c, mm p.1 = some p.2) ∧ P c) F (fun q hq => N q (hn q hq)) ⟨c₀, rfl, rfl, fun p hp => km _ _ (hm p hp), hp⟩ ?_ po
  rintro k mm₁ nx h tk F₁ N₁ ⟨c, rfl, rfl, hk, hP⟩
  refine (turn c hP).run _ _ E ok ⟨⟨mm₁, F₁, look_of hk⟩, N₁⟩ ?_ (fun e h' tk' es n' hx hz => ee e h' tk' es n' hx hz) po
  intro b m₁ n₁ h₁ t₁ hb st₁
  cases b with
  | false =>
    simp only [Bool.false_eq_true, if_false] at hb ⊢
    exact q .next m₁ n₁ h₁ t₁ hb st₁
  | true =>
    simp only [if_true] at hb ⊢
    refine hb.run _ _ E ok st₁ ?_ (fun e h' tk' es n' hx hz => ee e h' tk' es n' hx hz) po
    intro fl m₂ n₂ h₂ t₂ hr st₂
    cases fl with
    | ret v => exact q _ m₂ n₂ h₂ t₂ hr st₂
    | brk => exact q _ m₂ n₂ h₂ t₂ hr st₂
    | next =>
      obtain ⟨c', h3, h4, h5, h6⟩ := hr
      obtain ⟨⟨mm₂, F₂, k₂⟩, N₂⟩ := st₂
      exact ⟨h₂, t₂, mm₂, led c', μ c', rfl, F₂, fun q hq => N₂ q (h6 q hq), h4, c', rfl, rfl, fun p hp => k₂ _ _ (h5 p hp), h3⟩
    | cont =>
      obtain ⟨c', h3, h4, h5, h6⟩ := hr
      obtain ⟨⟨mm₂, F₂, k₂⟩, N₂⟩ := st₂
      exact ⟨h₂, t₂, mm₂, led c', μ c', rfl, F₂, fun q hq => N₂ q (h6 q hq), h4, c', rfl, rfl, fun p hp => k₂ _ _ (h5 p hp), h3⟩
end
end Mine

end
section
open Mine
namespace Mine
noncomputable def Fi {α : Type} (t : Sem α) (V : α → Prop) : Prop := ∀ (w : World) (A : Around) (E : Value → Shared → Prop) (s : Shared) (Q : α → Shared → Prop), A.handled = none → (∀ v k, V v → Q v { s with toks := k }) → wpAny (model PySem.Challenge.pw_in0151_01 w) A t Q E s
section
variable {α : Type} {x : Fx} {f : Fn} {m : Loc} {n : Led} {R : Flow → Loc → Led → Prop} {X : List Value → Led → Prop}
theorem Tr.fi {t : Sem α} {V : α → Prop} {R : α → Loc → Led → Prop} (h : Fi t V) (k : ∀ v, V v → R v m n) : Tr x f m n t R X := Tr.fin (fun s Q E q => h _ _ E s Q rfl q) k
theorem Ex.asE {y : Str} {p pos : Pos} {e : Expr} {r : List Stmt} {v : Value} (h₁ : Ep x f m n e (· = v)) (h₂ : Ex x f ((y, v) :: m) n r R X) (hs : swapsWith e (some (.Name y p)) pos.line (x.env f) = pure false := by rfl) (hx : (x.env f).kindOf y = some .local := by rfl) : Ex x f m n (.Assign [.Name y p] e pos :: r) R X :=
  Ex.asp h₁ (fun _ e => e ▸ h₂) hs hx
theorem Ex.asS {y : Str} {p pos : Pos} {e : Expr} {r : List Stmt} {z : Str} (h₁ : Ep x f m n e (IsS z)) (h₂ : ∀ t, Ex x f ((y, .str z t) :: m) n r R X) (hs : swapsWith e (some (.Name y p)) pos.line (x.env f) = pure false := by rfl) (hx : (x.env f).kindOf y = some .local := by rfl) : Ex x f m n (.Assign [.Name y p] e pos :: r) R X :=
  Ex.asp h₁ (fun _ ⟨t, e⟩ => e ▸ h₂ t) hs hx
theorem Ex.asI {y : Str} {p pos : Pos} {e : Expr} {r : List Stmt} {i : Int} (h₁ : Ep x f m n e (IsI i)) (h₂ : ∀ t, Ex x f ((y, .int i t) :: m) n r R X) (hs : swapsWith e (some (.Name y p)) pos.line (x.env f) = pure false := by rfl) (hx : (x.env f).kindOf y = some .local := by rfl) : Ex x f m n (.Assign [.Name y p] e pos :: r) R X :=
  Ex.asp h₁ (fun _ ⟨t, e⟩ => e ▸ h₂ t) hs hx
theorem Ex.asK {y : Str} {p pos : Pos} {e : Expr} {r : List Stmt} (h₁ : Ev x f m n e (fun v m₁ n₁ => Ex x f ((y, v) :: m₁) n₁ r R X) X) (hs : swapsWith e (some (.Name y p)) pos.line (x.env f) = pure false := by rfl) (hx : (x.env f).kindOf y = some .local := by rfl) : Ex x f m n (.Assign [.Name y p] e pos :: r) R X :=
  Ex.asg h₁ (fun _ _ _ h => h) hs hx
theorem Ex.retE {e : Expr} {pos : Pos} {r : List Stmt} {v : Value} (h : Ep x f m n e (· = v)) (k : R (.ret v) m n) : Ex x f m n (.Return (some e) pos :: r) R X := Ex.ret (h.go fun _ e => e ▸ k)
theorem Ex.retS {e : Expr} {pos : Pos} {r : List Stmt} {z : Str} (h : Ep x f m n e (IsS z)) (k : ∀ t, R (.ret (.str z t)) m n) : Ex x f m n (.Return (some e) pos :: r) R X := Ex.ret (h.go fun _ ⟨t, e⟩ => e ▸ k t)
theorem Ex.retI {e : Expr} {pos : Pos} {r : List Stmt} {i : Int} (h : Ep x f m n e (IsI i)) (k : ∀ t, R (.ret (.int i t)) m n) : Ex x f m n (.Return (some e) pos :: r) R X := Ex.ret (h.go fun _ ⟨t, e⟩ => e ▸ k t)
theorem Ex.aug {y : Str} {p pos : Pos} {op : Operator} {e : Expr} {r : List Stmt} {old : Value} {V W : Value → Prop} (hy : look m y = some old) (he : Ep x f m n e V) (ho : ∀ v, V v → Fi (inplaceOp op old v) W) (h : ∀ v, W v → Ex x f ((y, v) :: m) n r R X)
    (hx : (x.env f).kindOf y = some .local := by rfl) : Ex x f m n (.AugAssign (.Name y p) op e pos :: r) R X :=
  Ex.go <| Tr.mk fun s Q E ok st q ee po => wpAny_AugAssign_Name (by
    obtain ⟨⟨mm, F, km⟩, N⟩ := st
    refine wpAny_loadName_local ok.k hx F.ns (km _ _ hy) (he.run _ _ E ok ⟨⟨mm, F, km⟩, N⟩ ?_ (fun _ _ _ _ _ z => z.elim) po)
    rintro v m₀ n₀ h1 t1 ⟨hv, e1, e2⟩ st1
    refine ho v hv _ _ E _ _ rfl fun w k hw => ?_
    exact (Tr.store hx (R := fun _ m₂ n₂ => m₂ = (y, w) :: m₀ ∧ n₂ = n₀) (X := X) ⟨rfl, rfl⟩).run _ _ E ok st1 (by rintro _ _ _ h'' tk'' ⟨e3, e4⟩ st''; rw [e3, e4] at st''; exact q _ _ _ h'' tk'' ⟨rfl, e1 ▸ e2 ▸ h w hw⟩ st'') ee po)
theorem Ep.nameI {y : Str} {pos : Pos} {i : Int} {t : Tok} (hv : look m y = some (.int i t)) (hx : (x.env f).kindOf y = some .local := by rfl) (hd : (y == ("__debug__" : Str)) = false := by decide) : Ep x f m n (.Name y pos) (IsI i) := (Ep.name hv hx hd).mono fun _ e => ⟨t, e⟩
theorem Ep.nameS {y : Str} {pos : Pos} {z : Str} {t : Tok} (hv : look m y = some (.str z t)) (hx : (x.env f).kindOf y = some .local := by rfl) (hd : (y == ("__debug__" : Str)) = false := by decide) : Ep x f m n (.Name y pos) (IsS z) := (Ep.name hv hx hd).mono fun _ e => ⟨t, e⟩
theorem Ep.bin {l r : Expr} {op : Operator} {pos : Pos} {Vl Vr V : Value → Prop} (hl : Ep x f m n l Vl) (hr : Ep x f m n r Vr) (ho : ∀ a b, Vl a → Vr b → Fi (binaryOp op a b) V) : Ep x f m n (.BinOp l op r pos) V :=
  Tr.mk fun s Q E ok st q ee po => wpAny_BinOp (hl.use ok st (fun a h1 t1 ha st1 => hr.use ok st1 (fun b h2 t2 hb st2 => ho a b ha hb _ _ E _ Q rfl fun v k hv => q v m n h2 k ⟨hv, rfl, rfl⟩ st2) po) po)
theorem Ep.ife {t b o : Expr} {pos : Pos} {c : Bool} {V : Value → Prop} (ht : Tp x f m n t c) (h1 : c = true → Ep x f m n b V) (h2 : c = false → Ep x f m n o V) : Ep x f m n (.IfExp t b o pos) V := Tr.mk fun s Q E ok st q ee po => IfExp_ (ht.use ok st (fun v h' t' hv0 st1 => by
    subst hv0
    cases v with
    | true => exact ite_tt ((h1 rfl).run _ Q E ok st1 q ee po)
    | false => exact ite_ff ((h2 rfl).run _ Q E ok st1 q ee po)) po)
theorem Ep.sub {a b : Expr} {pos : Pos} {Va Vb V : Value → Prop} (ha : Ep x f m n a Va) (hb : Ep x f m n b Vb) (ho : ∀ u v, Va u → Vb v → Fi (subscriptTail a b u v) V) : Ep x f m n (.Subscript a b pos) V :=
  Tr.mk fun s Q E ok st q ee po => Subscript_ (ha.use ok st (fun u h1 t1 hu st1 => hb.use ok st1 (fun v h2 t2 hv st2 => ho u v hu hv _ _ E _ Q rfl fun w k hw => q w m n h2 k ⟨hw, rfl, rfl⟩ st2) po) po)
theorem Ep.item {a b : Expr} {pos : Pos} {r s' : List Nat} {i c : Nat} (ha : Ep x f m n a (IsS (T r))) (hb : Ep x f m n b (IsI i)) (hd : r.drop i = c :: s') (hl : r.length < 1000000)
    (hs : ∀ t u, subscripted b false (.str (T r) t) (.int i u) = operate [.str (T r) t, .int i u] (getItem (.str (T r) t) (.int i u)) := by intros; with_unfolding_all rfl)
    (ht : ∀ t z, letTemporaryGo a (.str (T r) t) z = pure () := by intros; with_unfolding_all rfl) : Ep x f m n (.Subscript a b pos) (IsS (T [c])) :=
  Ep.sub ha hb (by
    rintro _ _ ⟨t, rfl⟩ ⟨u, rfl⟩ w A E s Q _ q
    have hl2 := congrArg List.length hd
    simp only [List.length_drop, List.length_cons] at hl2
    exact item_H ⟨hd, by omega⟩ hl (fun tk k => q _ k ⟨tk, rfl⟩) (hs t u) (ht t))
theorem Ep.slSS {a lo up : Expr} {p pos : Pos} {z : Str} {i j : Int} (ha : Ep x f m n a (IsS z)) (hlo : Ep x f m n lo (IsI i)) (hup : Ep x f m n up (IsI j)) (hz : z.length ≤ 16777216)
    (hs : ∀ t b, subscripted (.Slice (some lo) (some up) Option.none p) false (.str z t) (.ref b) = operate [.ref b, .str z t] (getItem (.str z t) (.ref b)) := by intros; with_unfolding_all rfl)
    (ht : ∀ t r, letTemporaryGo a (.str z t) r = pure () := by intros; with_unfolding_all rfl) : Ep x f m n (.Subscript a (.Slice (some lo) (some up) Option.none p) pos) (IsS (Txt.slice z (some i) (some j))) :=
  Tr.mk fun s Q E ok st q ee po => Subscript_ (ha.use ok st (fun v0 h1 t1 ⟨t, hu⟩ st1 => wpAny_Slice (evalPart_some_step (hlo.use ok st1 (fun v0 h2 t2 ⟨ti, hi⟩ st2 => evalPart_some_step (hup.use ok st2 (fun v0 h3 t3 ⟨tj, hj⟩ st3 => evalPart_none_step (by
    subst hu hi hj
    obtain ⟨⟨mm, F, km⟩, N⟩ := st3
    refine slice_strN_ss_len F N (fun h' t' k F' N' _ => q _ _ _ h' k ⟨⟨t', rfl⟩, rfl, rfl⟩ ⟨⟨mm, F', km⟩, N'⟩) (hs _ _) (ht _) (by rw [sizeLine_eq]; exact hz))) po)) po))) po)
theorem Ep.slSN {a lo : Expr} {p pos : Pos} {z : Str} {i : Int} (ha : Ep x f m n a (IsS z)) (hlo : Ep x f m n lo (IsI i)) (hz : z.length ≤ 16777216)
    (hs : ∀ t b, subscripted (.Slice (some lo) Option.none Option.none p) false (.str z t) (.ref b) = operate [.ref b, .str z t] (getItem (.str z t) (.ref b)) := by intros; with_unfolding_all rfl)
    (ht : ∀ t r, letTemporaryGo a (.str z t) r = pure () := by intros; with_unfolding_all rfl) : Ep x f m n (.Subscript a (.Slice (some lo) Option.none Option.none p) pos) (IsS (Txt.slice z (some i) Option.none)) :=
  Tr.mk fun s Q E ok st q ee po => Subscript_ (ha.use ok st (fun v0 h1 t1 ⟨t, hu⟩ st1 => wpAny_Slice (evalPart_some_step (hlo.use ok st1 (fun v0 h2 t2 ⟨ti, hi⟩ st2 => evalPart_none_step (evalPart_none_step (by
    subst hu hi
    obtain ⟨⟨mm, F, km⟩, N⟩ := st2
    refine slice_strN_sn_len F N (fun h' t' k F' N' _ => q _ _ _ h' k ⟨⟨t', rfl⟩, rfl, rfl⟩ ⟨⟨mm, F', km⟩, N'⟩) (hs _ _) (ht _) (by rw [sizeLine_eq]; exact hz)))) po))) po)
theorem Ep.slNS {a up : Expr} {p pos : Pos} {z : Str} {j : Int} (ha : Ep x f m n a (IsS z)) (hup : Ep x f m n up (IsI j)) (hz : z.length ≤ 16777216)
    (hs : ∀ t b, subscripted (.Slice Option.none (some up) Option.none p) false (.str z t) (.ref b) = operate [.ref b, .str z t] (getItem (.str z t) (.ref b)) := by intros; with_unfolding_all rfl)
    (ht : ∀ t r, letTemporaryGo a (.str z t) r = pure () := by intros; with_unfolding_all rfl) : Ep x f m n (.Subscript a (.Slice Option.none (some up) Option.none p) pos) (IsS (Txt.slice z Option.none (some j))) :=
  Tr.mk fun s Q E ok st q ee po => Subscript_ (ha.use ok st (fun v0 h1 t1 ⟨t, hu⟩ st1 => wpAny_Slice (evalPart_none_step (evalPart_some_step (hup.use ok st1 (fun v0 h2 t2 ⟨ti, hi⟩ st2 => evalPart_none_step (by
    subst hu hi
    obtain ⟨⟨mm, F, km⟩, N⟩ := st2
    refine slice_strN_ns_len F N (fun h' t' k F' N' _ => q _ _ _ h' k ⟨⟨t', rfl⟩, rfl, rfl⟩ ⟨⟨mm, F', km⟩, N'⟩) (hs _ _) (ht _) (by rw [sizeLine_eq]; exact hz))) po)))) po)
noncomputable def Er (x : Fx) (f : Fn) (m : Loc) (n : Led) (es : List Expr) (K : List Value → Loc → Led → Prop) (X : List Value → Led → Prop) : Prop := ∀ pos, Tr x f m n (spliced (backTo pos (starEach es (x.env f)))) K X
section
variable {K : List Value → Loc → Led → Prop} {e : Expr} {r : List Expr}
theorem Er.nil (h : K [] m n) : Er x f m n [] K X := fun _ => Tr.mk fun s Q E ok st q ee po => args_nil (q _ _ _ s.heap s.toks h st)
theorem Er.cons (h : Ev x f m n e (fun v m₁ n₁ => Er x f m₁ n₁ r (fun vs => K (v :: vs)) X) X) (hs : starEach (e :: r) (x.env f) = (false, eval e (x.env f)) :: starEach r (x.env f) := by rfl) : Er x f m n (e :: r) K X :=
  fun pos => Tr.mk fun s Q E ok st q ee po => args_cons (h.run s _ E ok st (fun v m₁ n₁ h1 t1 h2 st1 => (h2 pos).run _ _ E ok st1 (fun vs m₂ n₂ h' t' k st2 => q _ m₂ n₂ h' t' k st2) ee po) ee po) hs
theorem Er.E {v : Value} (h : Ep x f m n e (· = v)) (k : Er x f m n r (fun vs => K (v :: vs)) X) (hs : starEach (e :: r) (x.env f) = (false, eval e (x.env f)) :: starEach r (x.env f) := by rfl) : Er x f m n (e :: r) K X := Er.cons (h.go fun _ e => e ▸ k) hs
theorem Er.S {z : Str} (h : Ep x f m n e (IsS z)) (k : ∀ t, Er x f m n r (fun vs => K (.str z t :: vs)) X) (hs : starEach (e :: r) (x.env f) = (false, eval e (x.env f)) :: starEach r (x.env f) := by rfl) : Er x f m n (e :: r) K X := Er.cons (h.go fun _ ⟨t, e⟩ => e ▸ k t) hs
theorem Er.I {i : Int} (h : Ep x f m n e (IsI i)) (k : ∀ t, Er x f m n r (fun vs => K (.int i t :: vs)) X) (hs : starEach (e :: r) (x.env f) = (false, eval e (x.env f)) :: starEach r (x.env f) := by rfl) : Er x f m n (e :: r) K X := Er.cons (h.go fun _ ⟨t, e⟩ => e ▸ k t) hs
end
theorem Ev.tup {es : List Expr} {k : Nat} {pos : Pos} {R : Value → Loc → Led → Prop} (h : Er x f m n es (fun vs m₁ n₁ => vs.length ≤ 1000 ∧ ∀ D, (∀ p ∈ n₁, @LT.lt Nat _ p.1 D) → R (.ref D) m₁ ((D, ⟨.type "tuple", none, .seq vs.toArray, #[]⟩) :: n₁)) X) : Ev x f m n (.Tuple es k pos) R X :=
  Tr.mk fun s Q E ok st q ee po => Tuple_ ((h pos).run s _ E ok st (fun vs m₁ n₁ h1 t1 ⟨hv, hR⟩ ⟨⟨mm, F, km⟩, N⟩ => kup_newTuple F N (fun D h' F' N' hlt => q _ m₁ _ h' _ (hR D hlt) ⟨⟨mm, F', km⟩, N'⟩) (by rw [sizeLine_eq]; omega)) ee po)
theorem Ev.lst {es : List Expr} {pos : Pos} {R : Value → Loc → Led → Prop} (h : Er x f m n es (fun vs m₁ n₁ => vs.length ≤ 1000 ∧ ∀ D, (∀ p ∈ n₁, @LT.lt Nat _ p.1 D) → R (.ref D) m₁ ((D, W.listOf vs.toArray 0) :: n₁)) X) : Ev x f m n (.List es pos) R X :=
  Tr.mk fun s Q E ok st q ee po => List_ ((h pos).run s _ E ok st (fun vs m₁ n₁ h1 t1 ⟨hv, hR⟩ ⟨⟨mm, F, km⟩, N⟩ => newList_K F N (fun D h' F' N' hlt => q _ m₁ _ h' _ (hR D hlt) ⟨⟨mm, F', km⟩, N'⟩) (by rw [sizeLine_eq]; omega)) ee po)
theorem Ev.dcall {y : Str} {p pos : Pos} {fa : Addr} {e : Expr} {r : List Expr} {R : Value → Loc → Led → Prop} (hg : ∀ Q, nsIn (Mine.KK Q) mainGlobals y = some (some (.ref fa))) (hk : ∀ Q, keepIn (Mine.KK Q) (.ref fa) = true) (h : Er x f m n (e :: r) (fun vs m₁ n₁ => Tr x f m₁ n₁ (call (.ref fa) vs) R X) X)
    (he : eval (.Call (.Name y p) (e :: r) [] pos) (x.env f) = (do callWith pos (← eval (.Name y p) (x.env f)) [] (backTo pos (starEach (e :: r) (x.env f))) (backToKw pos (keywordEach [] (x.env f)))) := by rfl)
    (hs : starEach (e :: r) (x.env f) = (false, eval e (x.env f)) :: starEach r (x.env f) := by rfl) (hs2 : ((backTo pos (starEach r (x.env f))).any fun x => x.1) = false := by rfl)
    (hx : (x.env f).kindOf y = some .globalImplicit := by rfl) (hd : (y == ("__debug__" : Str)) = false := by decide) : Ev x f m n (.Call (.Name y p) (e :: r) [] pos) R X :=
  Tr.mk fun s Q E ok st q ee po => Call_ ((Ep.glb hg hx hd).use ok st (fun v h1 t1 hv st1 => by
    subst hv
    refine callWith_K ok.X (hk _) ((h pos).run _ _ E ok st1 (fun vs m₂ n₂ h2 t2 hc st2 => ⟨?_, hc.run _ Q E ok st2 q ee po⟩) ee po) hs hs2
    obtain ⟨⟨mm, F, _⟩, _⟩ := st2
    exact ok.X.keeps F.keep) po) he
theorem Ev.callB {y : Str} {p pos : Pos} {id : String} {e : Expr} {r : List Expr} {R : Value → Loc → Led → Prop} (hg : ∀ Q, nsIn (Mine.KK Q) mainGlobals y = some none) (hb : bootBuiltins y = some (.builtin id)) (hn : y ≠ "__name__") (h : Er x f m n (e :: r) (fun vs m₁ n₁ => Tr x f m₁ n₁ (call (.builtin id) vs) R X) X)
    (he : eval (.Call (.Name y p) (e :: r) [] pos) (x.env f) = (do callWith pos (← eval (.Name y p) (x.env f)) [] (backTo pos (starEach (e :: r) (x.env f))) (backToKw pos (keywordEach [] (x.env f)))) := by rfl)
    (hs : starEach (e :: r) (x.env f) = (false, eval e (x.env f)) :: starEach r (x.env f) := by rfl) (hs2 : ((backTo pos (starEach r (x.env f))).any fun x => x.1) = false := by rfl)
    (hx : (x.env f).kindOf y = some .globalImplicit := by rfl) (hd : (y == ("__debug__" : Str)) = false := by decide) : Ev x f m n (.Call (.Name y p) (e :: r) [] pos) R X :=
  Tr.mk fun s Q E ok st q ee po => Call_ ((Ep.blt hg hb hn hx hd).use ok st (fun v h1 t1 hv st1 => by
    subst hv
    exact PyProof.Rows.callWith_builtin1 ((h pos).run _ _ E ok st1 (fun vs m₂ n₂ h2 t2 hc st2 => hc.run _ Q E ok st2 q ee po) ee po) hs hs2) po) he
theorem Ev.callT {y : Str} {p pos : Pos} {id : String} {e : Expr} {r : List Expr} {R : Value → Loc → Led → Prop} (hg : ∀ Q, nsIn (Mine.KK Q) mainGlobals y = some none) (hb : bootBuiltins y = some (.type id)) (hn : y ≠ "__name__") (h : Er x f m n (e :: r) (fun vs m₁ n₁ => Tr x f m₁ n₁ (call (.type id) vs) R X) X)
    (he : eval (.Call (.Name y p) (e :: r) [] pos) (x.env f) = (do callWith pos (← eval (.Name y p) (x.env f)) [] (backTo pos (starEach (e :: r) (x.env f))) (backToKw pos (keywordEach [] (x.env f)))) := by rfl)
    (hs : starEach (e :: r) (x.env f) = (false, eval e (x.env f)) :: starEach r (x.env f) := by rfl) (hs2 : ((backTo pos (starEach r (x.env f))).any fun x => x.1) = false := by rfl)
    (hx : (x.env f).kindOf y = some .globalImplicit := by rfl) (hd : (y == ("__debug__" : Str)) = false := by decide) : Ev x f m n (.Call (.Name y p) (e :: r) [] pos) R X :=
  Tr.mk fun s Q E ok st q ee po => Call_ ((Ep.blt hg hb hn hx hd).use ok st (fun v h1 t1 hv st1 => by
    subst hv
    exact PyProof.Rows.callWith_type1 ((h pos).run _ _ E ok st1 (fun vs m₂ n₂ h2 t2 hc st2 => hc.run _ Q E ok st2 q ee po) ee po) hs hs2) po) he
theorem Ep.call1 {y : Str} {p pos : Pos} {id : String} {e : Expr} {V W : Value → Prop} (hg : ∀ Q, nsIn (Mine.KK Q) mainGlobals y = some Option.none) (hb : bootBuiltins y = some (.builtin id)) (hn : y ≠ "__name__") (ha : Ep x f m n e V) (hc : ∀ v, V v → Fi (call (.builtin id) [v]) W)
    (he : eval (.Call (.Name y p) [e] [] pos) (x.env f) = (do callWith pos (← eval (.Name y p) (x.env f)) [] (backTo pos (starEach [e] (x.env f))) (backToKw pos (keywordEach [] (x.env f)))) := by rfl)
    (hs : starEach [e] (x.env f) = (false, eval e (x.env f)) :: starEach [] (x.env f) := by rfl)
    (hx : (x.env f).kindOf y = some .globalImplicit := by rfl) (hd : (y == ("__debug__" : Str)) = false := by decide) : Ep x f m n (.Call (.Name y p) [e] [] pos) W :=
  Ev.callB hg hb hn (Er.cons (ha.go fun v hv => Er.nil (Tr.fi (hc v hv) fun w hw => ⟨hw, rfl, rfl⟩)) hs) he hs rfl hx hd
theorem Ev.methS {o : Expr} {name : Str} {ap pos : Pos} {z : Str} {id : String} {e : Expr} {r : List Expr} {R : Value → Loc → Led → Prop} {pl : Sem Bool}
    (ho : Ep x f m n o (IsS z)) (hm : ∀ t, Fi (getMethod (.str z t) name pl) (· = (.builtin id, [.str z t])))
    (h : ∀ t, Er x f m n (e :: r) (fun vs m₁ n₁ => Tr x f m₁ n₁ (call (.builtin id) (.str z t :: vs)) R X) X)
    (he : eval (.Call (.Attribute o name ap) (e :: r) [] pos) (x.env f) = (do
      let ov ← eval o (x.env f)
      standAt ap.atName
      let (fv, first) ← holding [ov] (getMethod ov name pl)
      callWith pos fv first (backTo pos (starEach (e :: r) (x.env f))) []) := by rfl)
    (hs : starEach (e :: r) (x.env f) = (false, eval e (x.env f)) :: starEach r (x.env f) := by rfl) (hs2 : ((backTo pos (starEach r (x.env f))).any fun x => x.1) = false := by rfl) : Ev x f m n (.Call (.Attribute o name ap) (e :: r) [] pos) R X :=
  Tr.mk fun s Q E ok st q ee po => MethodCall_ (ho.use ok st (fun v h1 t1 ⟨t, hv⟩ st1 => by
    subst hv
    refine hm t _ _ E _ _ rfl fun p k hp => ?_
    subst hp
    exact callWith_method1 ((h t pos).run _ _ E ok st1 (fun vs m₂ n₂ h2 t2 hc st2 => hc.run _ Q E ok st2 q ee po) ee po) hs hs2) po) he
theorem Ex.unp2 {y₁ y₂ : Str} {p₁ p₂ tp pos : Pos} {k : Nat} {e : Expr} {r : List Stmt} (h : Ev x f m n e (fun v m₁ n₁ => ∃ D a b o, v = .ref D ∧ (D, ⟨.type "tuple", none, .seq #[a, b], o⟩) ∈ n₁ ∧ Ex x f ((y₂, b) :: (y₁, a) :: m₁) n₁ r R X) X)
    (hs : swapsWithSole [.Tuple [.Name y₁ p₁, .Name y₂ p₂] k tp] e pos.line (x.env f) = pure false := by rfl) (hs2 : swappedStores [.Tuple [.Name y₁ p₁, .Name y₂ p₂] k tp] e (x.env f) = pure none := by rfl)
    (hx : (x.env f).kindOf y₁ = some .local := by rfl) (hx2 : (x.env f).kindOf y₂ = some .local := by rfl) : Ex x f m n (.Assign [.Tuple [.Name y₁ p₁, .Name y₂ p₂] k tp] e pos :: r) R X :=
  Ex.go <| Tr.mk fun s Q E ok st q ee po => Assign_Tuple (h.run s _ E ok st (fun v m₁ n₁ h1 t1 ⟨D, a, b, o, hv, hm, hE⟩ ⟨⟨mm, F, km⟩, N⟩ => by
    subst hv
    refine unpackN_ F N (N.isTup hm) rfl rfl rfl fun h' F' N' => ?_
    refine assignInOrder_cons (PyProof.Rows.assign_Name ((Tr.store hx (R := fun _ m₂ n₂ => m₂ = (y₁, a) :: m₁ ∧ n₂ = n₁) (X := X) ⟨rfl, rfl⟩).run _ _ E ok ⟨⟨mm, F', km⟩, N'⟩ ?_ ee po))
    rintro _ _ _ h2 t2 ⟨rfl, e2⟩ st2
    rw [e2] at st2
    refine assignInOrder_cons (PyProof.Rows.assign_Name ((Tr.store hx2 (R := fun _ m₂ n₂ => m₂ = (y₂, b) :: (y₁, a) :: m₁ ∧ n₂ = n₁) (X := X) ⟨rfl, rfl⟩).run _ _ E ok st2 ?_ ee po))
    rintro _ _ _ h3 t3 ⟨rfl, e3⟩ st3
    rw [e3] at st3
    exact assignInOrder_nil (q _ _ _ h3 t3 ⟨rfl, hE⟩ st3)) ee po) hs hs2
theorem Ex.swp2 {y₁ y₂ : Str} {p₁ p₂ tp pos : Pos} {k : Nat} {e : Expr} {r : List Stmt} (h : Ev x f m n e (fun v m₁ n₁ => ∃ D a b o, v = .ref D ∧ (D, ⟨.type "tuple", none, .seq #[a, b], o⟩) ∈ n₁ ∧ Ex x f ((y₁, a) :: (y₂, b) :: m₁) n₁ r R X) X)
    (hs : swapsWithSole [.Tuple [.Name y₁ p₁, .Name y₂ p₂] k tp] e pos.line (x.env f) = pure false := by rfl) (hs2 : swappedStores [.Tuple [.Name y₁ p₁, .Name y₂ p₂] k tp] e (x.env f) = pure (some [y₁, y₂]) := by rfl)
    (hx : (x.env f).kindOf y₁ = some .local := by rfl) (hx2 : (x.env f).kindOf y₂ = some .local := by rfl) : Ex x f m n (.Assign [.Tuple [.Name y₁ p₁, .Name y₂ p₂] k tp] e pos :: r) R X :=
  Ex.go <| Tr.mk fun s Q E ok st q ee po => Assign_Tuple_swapped (h.run s _ E ok st (fun v m₁ n₁ h1 t1 ⟨D, a, b, o, hv, hm, hE⟩ ⟨⟨mm, F, km⟩, N⟩ => by
    subst hv
    refine unpackItemsN_ F N (N.isTup hm) rfl rfl fun h' F' N' => ?_
    show wpAny _ _ (assignInOrder [bindName (x.env f) y₂, bindName (x.env f) y₁] [b, a]) _ _ _
    refine assignInOrder_cons (bindName_ ((Tr.store hx2 (R := fun _ m₂ n₂ => m₂ = (y₂, b) :: m₁ ∧ n₂ = n₁) (X := X) ⟨rfl, rfl⟩).run _ _ E ok ⟨⟨mm, F', km⟩, N'⟩ ?_ ee po))
    rintro _ _ _ h2 t2 ⟨rfl, e2⟩ st2
    rw [e2] at st2
    refine assignInOrder_cons (bindName_ ((Tr.store hx (R := fun _ m₂ n₂ => m₂ = (y₁, a) :: (y₂, b) :: m₁ ∧ n₂ = n₁) (X := X) ⟨rfl, rfl⟩).run _ _ E ok st2 ?_ ee po))
    rintro _ _ _ h3 t3 ⟨rfl, e3⟩ st3
    rw [e3] at st3
    exact assignInOrder_nil (q _ _ _ h3 t3 ⟨rfl, hE⟩ st3)) ee po) hs hs2
theorem Ex.less {n' : Led} {r : List Stmt} (hn : ∀ q ∈ n', q ∈ n) (h : Ex x f m n' r R X) : Ex x f m n r R X := Tr.mk fun s Q E ok st => h.run s Q E ok ⟨st.1, fun q hq => st.2 q (hn q hq)⟩
end
section
variable {a b : Int} {y z : Str}
theorem Bo.addI : ∀ u v, IsI a u → IsI b v → Fi (binaryOp .Add u v) (IsI (a + b)) := by rintro _ _ ⟨t, rfl⟩ ⟨t', rfl⟩ w A E s Q _ q; exact add_int (q _ _ ⟨_, rfl⟩)
theorem Bo.subI : ∀ u v, IsI a u → IsI b v → Fi (binaryOp .Sub u v) (IsI (a - b)) := by rintro _ _ ⟨t, rfl⟩ ⟨t', rfl⟩ w A E s Q _ q; exact sub_int (q _ _ ⟨_, rfl⟩)
theorem Bo.addS (h : y.length + z.length ≤ 16777216) : ∀ u v, IsS y u → IsS z v → Fi (binaryOp .Add u v) (IsS (y ++ z)) := by rintro _ _ ⟨t, rfl⟩ ⟨t', rfl⟩ w A E s Q _ q; exact add_str (fun t k => q _ _ ⟨_, rfl⟩) (by rw [sizeLine_eq]; exact h)
theorem Io.addI {t : Tok} : ∀ v, IsI b v → Fi (inplaceOp .Add (.int a t) v) (IsI (a + b)) := by rintro _ ⟨t', rfl⟩ w A E s Q _ q; exact iadd_int (q _ _ ⟨_, rfl⟩)
theorem Io.addT {l l' : List Nat} {t : Tok} (h : l.length + l'.length ≤ 1000000) : ∀ v, IsS (T l') v → Fi (inplaceOp .Add (.str (T l) t) v) (IsS (T (l ++ l'))) := by rintro _ ⟨t', rfl⟩ w A E s Q _ q; exact iadd_T h fun t k => q _ _ ⟨_, rfl⟩
theorem Co.ltI : Cop .Lt (IsI a) (IsI b) (decide (a < b)) := by rintro w A E s Q _ _ ⟨t, rfl⟩ ⟨t', rfl⟩ q; exact P.lt_int (q s.toks)
theorem Co.leI : Cop .LtE (IsI a) (IsI b) (decide (a ≤ b)) := by rintro w A E s Q _ _ ⟨t, rfl⟩ ⟨t', rfl⟩ q; exact P.le_int (q s.toks)
theorem Co.gtI : Cop .Gt (IsI a) (IsI b) (decide (a > b)) := by rintro w A E s Q _ _ ⟨t, rfl⟩ ⟨t', rfl⟩ q; exact P.gt_int (q s.toks)
theorem Co.geI : Cop .GtE (IsI a) (IsI b) (decide (a ≥ b)) := by rintro w A E s Q _ _ ⟨t, rfl⟩ ⟨t', rfl⟩ q; exact P.ge_int (q s.toks)
theorem Co.eqI : Cop .Eq (IsI a) (IsI b) (a == b) := by rintro w A E s Q _ _ ⟨t, rfl⟩ ⟨t', rfl⟩ q; exact P.eq_int (q s.toks)
theorem Co.eq1 {c d : Nat} (hy : z = T [d]) : Cop .Eq (IsS (T [c])) (IsS z) (decide (c = d)) := by rintro w A E s Q _ _ ⟨t, rfl⟩ h q; exact Cop.eq1 hy _ _ _ s _ _ _ rfl h q
theorem Co.eqC {b : Bool} (hb : (y.cps.toList == z.cps.toList) = b) : Cop .Eq (IsS y) (IsS z) b := by rintro w A E s Q _ _ ⟨t, rfl⟩ h q; exact Cop.eqC hb _ _ _ s _ _ _ rfl h q
theorem Co.in1 {c : Nat} {p : Nat → Bool} (hz : ∀ c : Fin 256, decide (c.val ∈ z.cps.toList) = p c.val) (h2 : ∀ d ∈ z.cps.toList, d < 256) (h3 : ∀ d, 256 ≤ d → p d = false) : Cop .In (IsS (T [c])) (IsS z) (p c) := by rintro w A E s Q _ _ ⟨t, rfl⟩ ⟨t', rfl⟩ q; exact in_lit (small_mem _ p hz h2 h3 c) (q s.toks)
theorem Fi.len (h : z.length < 2 ^ 62) : ∀ v, IsS z v → Fi (call (.builtin "len") [v]) (IsI (z.length : Nat)) := by rintro _ ⟨t, rfl⟩ w A E s Q _ q; exact P.len_str (by omega) (q _ _ ⟨_, rfl⟩)
theorem Fi.ord {c : Nat} : ∀ v, IsS (T [c]) v → Fi (call (.builtin "ord") [v]) (IsI c) := by rintro _ ⟨t, rfl⟩ w A E s Q _ q; exact P.ord_of_char (q _ _ ⟨_, rfl⟩)
theorem Fi.count {pl : Sem Bool} {t : Tok} : Fi (getMethod (.str z t) (Str.ofString "count") pl) (· = (.builtin "str.count", [.str z t])) := fun w A E s Q _ q => GM.count (q _ s.toks rfl)
theorem Fi.find {pl : Sem Bool} {t : Tok} : Fi (getMethod (.str z t) (Str.ofString "find") pl) (· = (.builtin "str.find", [.str z t])) := fun w A E s Q _ q => GM.find (q _ s.toks rfl)
end
noncomputable def fb (o : Obj) : List Stmt := match o.data with
  | .func f => (match f.body with | .stmts b => b | _ => [])
  | _ => []
noncomputable def fnO (o : Obj) (a : Addr) : Fn := match o.data with
  | .func f => ⟨f.qualname, f.scope, a, f.code⟩
  | _ => ⟨Str.ofString "", default, a, .none⟩
noncomputable def wb : Stmt → List Stmt
  | .While _ b _ _ => b
  | _ => []
theorem Ep.strT {x : Fx} {f : Fn} {m : Loc} {n : Led} {y : Str} {l : List Nat} {k : Nat} {pos : Pos} (h : y = T l) : Ep x f m n (.Constant (.str y) k pos) (IsS (T l)) := h ▸ Ep.str
theorem g_len : ∀ Q, nsIn (Mine.KK Q) mainGlobals (Str.ofString "len") = some none := by intro Q; kernel_rfl
theorem b_len : bootBuiltins (Str.ofString "len") = some (.builtin "len") := by boot_by_name
theorem g_ord : ∀ Q, nsIn (Mine.KK Q) mainGlobals (Str.ofString "ord") = some none := by intro Q; kernel_rfl
theorem b_ord : bootBuiltins (Str.ofString "ord") = some (.builtin "ord") := by boot_by_name
section
variable {x : Fx} {f : Fn} {m : Loc} {n : Led}
theorem Ep.len {p pos : Pos} {e : Expr} {z : Str} (h : Ep x f m n e (IsS z)) (hz : z.length < 2 ^ 62)
    (he : eval (.Call (.Name (Str.ofString "len") p) [e] [] pos) (x.env f) = (do callWith pos (← eval (.Name (Str.ofString "len") p) (x.env f)) [] (backTo pos (starEach [e] (x.env f))) (backToKw pos (keywordEach [] (x.env f)))) := by rfl)
    (hs : starEach [e] (x.env f) = (false, eval e (x.env f)) :: starEach [] (x.env f) := by rfl) (hx : (x.env f).kindOf (Str.ofString "len") = some .globalImplicit := by rfl) : Ep x f m n (.Call (.Name (Str.ofString "len") p) [e] [] pos) (IsI (z.length : Nat)) :=
  Ep.call1 g_len b_len (by decide) h (Fi.len hz) he hs hx
theorem Ep.ord {p pos : Pos} {e : Expr} {c : Nat} (h : Ep x f m n e (IsS (T [c])))
    (he : eval (.Call (.Name (Str.ofString "ord") p) [e] [] pos) (x.env f) = (do callWith pos (← eval (.Name (Str.ofString "ord") p) (x.env f)) [] (backTo pos (starEach [e] (x.env f))) (backToKw pos (keywordEach [] (x.env f)))) := by rfl)
    (hs : starEach [e] (x.env f) = (false, eval e (x.env f)) :: starEach [] (x.env f) := by rfl) (hx : (x.env f).kindOf (Str.ofString "ord") = some .globalImplicit := by rfl) : Ep x f m n (.Call (.Name (Str.ofString "ord") p) [e] [] pos) (IsI c) :=
  Ep.call1 g_ord b_ord (by decide) h Fi.ord he hs hx
end
end Mine

end
section
open Mine
set_option maxHeartbeats 300000
namespace Mine
section
variable {x : Fx} {f : Fn} {m : Loc} {n : Led} {R : Value → Loc → Led → Prop} {X : List Value → Led → Prop}
theorem Tr.callD {c u : Nat} {fa : Addr} {vs : List Value} {name qual : Str} {params : Arguments} {body : List Stmt} {scope : Scope} {dV kV doc pm cdv ct oc : Value} {an od : Option Addr} {osl : Array (Option Value)} {binds : List (Str × Value)}
    (ho : (Mine.KK x.w.params).lookup fa = some ⟨oc, od, .func (fnOf name qual params body scope dV kV doc pm an cdv ct), osl⟩) (hcd : codeIn (Mine.KK x.w.params) cdv qual = true)
    (hbind : ∀ s : Shared, (Mine.KK x.w.params).In s.heap → BindsTo s (fnOf name qual params body scope dV kV doc pm an cdv ct) ⟨vs, []⟩ binds) (hloc : ∀ y ∈ binds, scope.names.lookup y.1 = some .local)
    (hco : scope.isCoroutine = false) (hgen : scope.isGenerator = false) (hk : scope.kind = .function) (hcell : ∀ x ∈ scope.names, x.2 ≠ .cell) (h5 : c + 1 ≤ x.c) (h6 : u + 3 ≤ x.u)
    (h : ∀ y : Fx, y.w = x.w → y.c = c → y.u = u → y.cl = [] → Ex y ⟨qual, scope, fa, cdv⟩ binds.reverse n body (fun fl _ n' => R (retv fl) m n') X) : Tr x f m n (call (.ref fa) vs) R X := Tr.mk fun s Q E ok st q ee _ => by
  obtain ⟨⟨mm, F, km⟩, N⟩ := st
  have h1 := ok.hd
  have h2 := ok.hu
  exact wpAny_call (code_of (env := x.env f) (outer := x.outer) ho hcd hbind hloc h hco hgen hk hcell rfl rfl ok.k rfl ok.B F ok.X N ok.T (by show x.dp + 1 + c < recursionLimit; omega) (by show x.un + 3 + u < cLine; omega) (fun v h' tk' n' r F' N' => q v m n' h' tk' r ⟨⟨mm, F', km⟩, N'⟩) fun e t g' h' tk' es n' r F' RS _ u => ee e h' tk' es n' r (.inr ⟨t, g', mm, F', RS, u⟩))
theorem Ep.neg {e : Expr} {pos : Pos} {i : Int} (h : Ep x f m n e (IsI i)) : Ep x f m n (.UnaryOp .USub e pos) (IsI (-i)) := Tr.mk fun s Q E ok st q ee po => UnaryOp_ (h.use ok st (fun v h1 t1 ⟨t, hv⟩ st1 => by
  subst hv
  exact neg_int (q _ _ _ h1 _ ⟨⟨_, rfl⟩, rfl, rfl⟩ st1)) po)
theorem Co.self {v : Value} (h : plainIs v v = true) : Cop .IsNot (· = v) (· = v) false := fun w A E s Q a b e1 e2 q => by subst e1 e2; exact wpAny_isNot_self h (q s.toks)
theorem Co.isIN {i : Int} : Cop .Is (IsI i) (· = .none) false := fun w A E s Q a b ⟨t, e1⟩ e2 q => Cop.isIN (t := t) w A E s Q a b e1 e2 q
theorem Co.isSN {z : Str} : Cop .Is (IsS z) (· = .none) false := fun w A E s Q a b ⟨t, e1⟩ e2 q => Cop.isSN (t := t) w A E s Q a b e1 e2 q
theorem Ep.typI {p pos : Pos} {e : Expr} {i : Int} (h : Ep x f m n e (IsI i))
    (he : eval (.Call (.Name (Str.ofString "type") p) [e] [] pos) (x.env f) = (do callWith pos (← eval (.Name (Str.ofString "type") p) (x.env f)) [] (backTo pos (starEach [e] (x.env f))) (backToKw pos (keywordEach [] (x.env f)))) := by rfl)
    (hs : starEach [e] (x.env f) = (false, eval e (x.env f)) :: starEach [] (x.env f) := by rfl) (hx : (x.env f).kindOf (Str.ofString "type") = some .globalImplicit := by rfl) : Ep x f m n (.Call (.Name (Str.ofString "type") p) [e] [] pos) (· = .type "int") :=
  Ev.callT (id := "type") (by intro Q; kernel_rfl) (by boot_by_name) (by decide) (Er.cons (h.go fun v ⟨t, hv⟩ => Er.nil (Tr.fin (V := (· = .type "int")) (fun s Q E q => hv ▸ call_type_of (typeIs_int s i t) (by decide) (q _ s.toks rfl)) fun _ h => ⟨h, rfl, rfl⟩)) hs) he hs rfl hx
theorem Ep.intI {p pos : Pos} {e : Expr} {i : Int} (h : Ep x f m n e (IsI i))
    (he : eval (.Call (.Name (Str.ofString "int") p) [e] [] pos) (x.env f) = (do callWith pos (← eval (.Name (Str.ofString "int") p) (x.env f)) [] (backTo pos (starEach [e] (x.env f))) (backToKw pos (keywordEach [] (x.env f)))) := by rfl)
    (hs : starEach [e] (x.env f) = (false, eval e (x.env f)) :: starEach [] (x.env f) := by rfl) (hx : (x.env f).kindOf (Str.ofString "int") = some .globalImplicit := by rfl) : Ep x f m n (.Call (.Name (Str.ofString "int") p) [e] [] pos) (IsI i) :=
  Ev.callT (id := "int") (by intro Q; kernel_rfl) (by boot_by_name) (by decide) (Er.cons (h.go fun v ⟨t, hv⟩ => Er.nil (Tr.fin (V := IsI i) (fun s Q E q => hv ▸ call_int_int (q _ s.toks ⟨t, rfl⟩)) fun _ h => ⟨h, rfl, rfl⟩)) hs) he hs rfl hx
theorem Tr.index {i : Int} {t : Tok} {w : Value} (h5 : 1 ≤ x.c) (h6 : 3 ≤ x.u) (h0 : -1 ≤ i) (h1 : i < 300) (h : ∀ t, R (.int i t) m n) : Tr x f m n (call (.ref 74) [.int i t, w]) R X := by
  refine Tr.callD (c := 0) (u := 0) (binds := [(Str.ofString "n", .int i t), (Str.ofString "what", w)]) (by k_is) (by k_is) (fun s X => BindsTo.of_eq rfl) (locs rfl) rfl rfl rfl (by decide) h5 h6 fun y hw hc hu hcl => ?_
  show Ex y (fnO o74.1 74) _ _ (fb o74.1) _ _
  refine Ex.ifF (Tp.L (TL.andF (Tp.cmp (Ep.typI (Ep.nameI rfl)) ?a (Co.self rfl)))) ?_
  case a => exact Ep.blt (by intro Q; kernel_rfl) (by boot_by_name) (by decide)
  refine Ex.asI (Ep.intI (Ep.nameI rfl)) fun t' => ?_
  refine Ex.ifF (Tp.L (TL.orF (Tp.cast (Tp.cmp (Ep.nameI rfl) Ep.int Co.gtI) (decide_eq_false (by omega))) (TL.orF (Tp.cast (Tp.cmp (Ep.nameI rfl) (Ep.neg Ep.int) Co.ltI) (decide_eq_false (by omega))) TL.orN))) ?_
  exact Ex.retI (Ep.nameI rfl) h
end
noncomputable def setIn (K : Frag) (C : Addr) (name : Str) : Bool := (match findIn K (.ref C) "__setattr__" with | some (some (.builtin b)) => b == "object.__setattr__" | _ => false) && plainOver K C && hasDictIn K C && (match takerIn K C name with | some none => true | _ => false)
theorem setIn_of {K : Frag} {C : Addr} {name : Str} (h : setIn K C name = true) : findIn K (.ref C) "__setattr__" = some (some (.builtin "object.__setattr__")) ∧ plainOver K C = true ∧ hasDictIn K C = true ∧ takerIn K C name = some none := by
  unfold setIn at h
  simp only [Bool.and_eq_true] at h
  obtain ⟨⟨⟨h1, h2⟩, h3⟩, h4⟩ := h
  refine ⟨?_, h2, h3, ?_⟩
  · split at h1
    · next b hb => rw [hb, beq_iff_eq.mp h1]
    · cases h1
  · split at h4
    · assumption
    · cases h4
structure SP where
  sio : Addr
  sd : Addr
  hs : Nat → Int
  ts : Nat → Tok
  r : List Nat
  t1 : Tok
  t2 : Tok
noncomputable def sioL (P : SP) (pos : Int) (t3 : Tok) : List DictEntry := [en P.hs P.ts 0 "_StringIO__newline" (.str (Str.ofString "\n") P.t1), en P.hs P.ts 1 "_StringIO__buf" (.str (T P.r) P.t2), en P.hs P.ts 2 "_StringIO__pos" (.int pos t3)]
noncomputable def sN (P : SP) (pos : Int) (t3 : Tok) (news : Led) : Led := (P.sio, instObj 608 P.sd) :: (P.sd, dictOf (sioL P pos t3) 3) :: news
theorem sa_pos {P : SP} {pos : Int} {t3 : Tok} : getL (Str.ofString "_StringIO__pos") (sioL P pos t3) = some (some (.int pos t3)) := by kernel_rfl
theorem sa_buf {P : SP} {pos : Int} {t3 : Tok} : getL (Str.ofString "_StringIO__buf") (sioL P pos t3) = some (some (.str (T P.r) P.t2)) := by kernel_rfl
theorem sa_nl {P : SP} {pos : Int} {t3 : Tok} : getL (Str.ofString "_StringIO__newline") (sioL P pos t3) = some (some (.str (Str.ofString "\n") P.t1)) := by kernel_rfl
theorem sp_put {P : SP} {pos j : Int} {t3 t : Tok} {h : Int} {k : Value} : (putL (Str.ofString "_StringIO__pos") h k (.int j t) (sioL P pos t3), putN (Str.ofString "_StringIO__pos") (sioL P pos t3) 3) = (sioL P j t, 3) := by kernel_rfl
theorem so_pos : ∀ Q, ownOk (Mine.KK Q) 608 (Str.ofString "_StringIO__pos") = true := by intro Q; kernel_rfl
theorem so_buf : ∀ Q, ownOk (Mine.KK Q) 608 (Str.ofString "_StringIO__buf") = true := by intro Q; kernel_rfl
theorem so_nl : ∀ Q, ownOk (Mine.KK Q) 608 (Str.ofString "_StringIO__newline") = true := by intro Q; kernel_rfl
section
variable {x : Fx} {f : Fn} {m : Loc} {P : SP} {pos : Int} {t3 : Tok} {news : Led} {R : Flow → Loc → Led → Prop} {X : List Value → Led → Prop}
theorem Ep.sa {y name : Str} {yp ap : Pos} {v : Value} (hy : look m y = some (.ref P.sio)) (hA : getL name (sioL P pos t3) = some (some v)) (hO : ∀ Q, ownOk (Mine.KK Q) 608 name = true) (hv : handedIn v = true := by rfl)
    (hx : (x.env f).kindOf y = some .local := by rfl) (hd : (y == ("__debug__" : Str)) = false := by decide) : Ep x f m (sN P pos t3 news) (.Attribute (.Name y yp) name ap) (· = v) :=
  Ep.at rfl (Ep.name hy hx hd) (Tr.own (.head _) (.tail _ (.head _)) hO hA hv ⟨rfl, rfl, rfl⟩)
theorem Ep.sbuf {y : Str} {yp ap : Pos} (hy : look m y = some (.ref P.sio)) (hx : (x.env f).kindOf y = some .local := by rfl) (hd : (y == ("__debug__" : Str)) = false := by decide) : Ep x f m (sN P pos t3 news) (.Attribute (.Name y yp) (Str.ofString "_StringIO__buf") ap) (IsS (T P.r)) :=
  Ep.mono (Ep.sa hy sa_buf so_buf rfl hx hd) fun _ e => ⟨_, e⟩
theorem Ex.spos {y : Str} {yp ap pos' : Pos} {e : Expr} {r : List Stmt} {j : Int} (hne : ∀ q ∈ news, q.1 ≠ P.sd) (hne' : @Ne Nat P.sio P.sd) (he : Ep x f m (sN P pos t3 news) e (IsI j)) (hy : look m y = some (.ref P.sio)) (h : ∀ t, Ex x f m (sN P j t news) r R X)
    (hs : swapsWith e (some (.Attribute (.Name y yp) (Str.ofString "_StringIO__pos") ap)) pos'.line (x.env f) = pure false := by rfl) (hx : (x.env f).kindOf y = some .local := by rfl) (hd' : (y == ("__debug__" : Str)) = false := by decide) : Ex x f m (sN P pos t3 news) (.Assign [.Attribute (.Name y yp) (Str.ofString "_StringIO__pos") ap] e pos' :: r) R X :=
  Ex.seta he (Ep.name hy hx hd') (fun v ⟨t, e⟩ => Tr.mk fun s Q E ok st q _ _ => by
    subst e
    obtain ⟨⟨mm, F, km⟩, N⟩ := st
    obtain ⟨h1, h2, h3, h4⟩ := setIn_of (show setIn (Mine.KK x.w.params) 608 (Str.ofString "_StringIO__pos") = true by kernel_rfl)
    exact set_dict F ok.X N (InstAt.of_news N (.head _) (.tail _ (.head _))) rfl h1 h2 h4 h3 (by kernel_rfl) sp_put (.tail hne' (.head hne)) (by show 3 ≤ 1000; decide) fun h' F' N' => q () m _ h' _ (h t) ⟨⟨mm, F', km⟩, N'⟩) hs
theorem Ev.scheck {y : Str} {yp ap cp : Pos} {R : Value → Loc → Led → Prop} (h5 : 1 ≤ x.c) (h6 : 3 ≤ x.u) (hy : look m y = some (.ref P.sio)) (h : R .none m (sN P pos t3 news)) (hx : (x.env f).kindOf y = some .local := by rfl) (hd : (y == ("__debug__" : Str)) = false := by decide) {pl : Sem Bool}
    (he : eval (.Call (.Attribute (.Name y yp) (Str.ofString "_StringIO__check") ap) [] [] cp) (x.env f) = (do
      let ov ← eval (.Name y yp) (x.env f)
      standAt ap.atName
      let (fv, first) ← holding [ov] (getMethod ov (Str.ofString "_StringIO__check") pl)
      callWith cp fv first (backTo cp (starEach [] (x.env f))) []) := by rfl) : Ev x f m (sN P pos t3 news) (.Call (.Attribute (.Name y yp) (Str.ofString "_StringIO__check") ap) [] [] cp) R X :=
  Ev.meth0 (fa := 392) (Ep.name hy hx hd) (.head _) (.tail _ (.head _)) (by intro Q; kernel_rfl) (by kernel_rfl)
    (Tr.callD (c := 0) (u := 0) (binds := [(Str.ofString "self", .ref P.sio)]) (by k_is) (by k_is) (fun s X => BindsTo.of_eq rfl) (locs rfl) rfl rfl rfl (by decide) h5 h6 fun y hw hc hu hcl => Ex.ifF (Tp.cmp (Ep.sbuf rfl) Ep.none Co.isSN) (Ex.nil h)) he
theorem Ep.part {y a b : Str} {yp ap p1 p2 p3 p4 p5 p6 p7 p8 p9 pp : Pos} {k k1 : Nat} {i j : Int} {ti tj : Tok} (hl : P.r.length < 10000) (hy : look m y = some (.ref P.sio)) (ha : look m a = some (.int i ti)) (hb : look m b = some (.int j tj))
    (hx : (x.env f).kindOf y = some .local := by rfl) (hd : (y == ("__debug__" : Str)) = false := by decide) (hxa : (x.env f).kindOf a = some .local := by rfl) (hda : (a == ("__debug__" : Str)) = false := by decide) (hxb : (x.env f).kindOf b = some .local := by rfl) (hdb : (b == ("__debug__" : Str)) = false := by decide) :
    Ep x f m (sN P pos t3 news) (.Subscript (.BinOp (.Subscript (.Attribute (.Name y yp) (Str.ofString "_StringIO__buf") ap) (.Slice (some (.Name a p1)) (some (.Name b p2)) Option.none p3) p4) .Add (.Constant (.str (Str.ofString " ")) k p5) p6) (.Slice Option.none (some (.UnaryOp .USub (.Constant (.int 1) k1 p7) p8)) Option.none p9) pp) (IsS (Txt.slice (T P.r) (some i) (some j))) := by
  have h1 : (Txt.slice (T P.r) (some i) (some j)).length ≤ 10000 := Nat.le_trans (Txt.slice_le _ _ _) (by rw [T_len]; omega)
  have h2 := Ep.slNS (x := x) (f := f) (m := m) (n := sN P pos t3 news) (p := p9) (pos := pp) (Ep.bin (pos := p6) (Ep.slSS (p := p3) (pos := p4) (Ep.sbuf (yp := yp) (ap := ap) hy hx hd) (Ep.nameI (pos := p1) ha hxa hda) (Ep.nameI (pos := p2) hb hxb hdb) (by rw [T_len]; omega)) (Ep.str (y := Str.ofString " ") (k := k) (pos := p5)) (Bo.addS (by rw [show (Str.ofString " ").length = 1 by decide +kernel]; omega))) (Ep.neg (pos := p8) (Ep.int (i := 1) (k := k1) (pos := p7))) (by rw [Str.length_append, show (Str.ofString " ").length = 1 by decide +kernel]; omega)
  exact Ep.mono h2 fun v ⟨t, e⟩ => ⟨t, e.trans (congrArg (Value.str · t) ((congrArg (fun z => Txt.slice (_ ++ z) Option.none (some (-1))) (show Str.ofString " " = ⟨#[32]⟩ by decide +kernel)).trans (slice_chop _ 32)))⟩
end
theorem rd_spec {w : World} (news : List (Addr × Obj)) (sio sd : Addr) (hs ts) (r : List Nat) (pos n : Nat) (t1 t2 t3 tk : Tok)
  (hne : ∀ q ∈ news, q.1 ≠ sd) (hne' : @Ne Nat sio sd) :
  Con 1 w 554 ((sio, instObj 608 sd) :: (sd, sioD hs ts (T r) pos t1 t2 t3) :: news) (pos ≤ r.length ∧ r.length < 10000 ∧ n < 300) [.ref sio, .int n tk]
    (fun v news' => ∃ o', (∃ x t p' t', x = T ((r.drop pos).take n) ∧ p' = ((pos + ((r.drop pos).take n).length : Nat) : Int) ∧ v = .str x t ∧ o' = sioD hs ts (T r) p' t1 t2 t') ∧ news' = (sio, instObj 608 sd) :: (sd, o') :: news) (fun _ _ => False) := by
  refine' Con.of (binds := [(Str.ofString "self", .ref sio), (Str.ofString "size", .int n tk)]) ?a ?b ?c ?d ?e ?h ?i ?j ?k ?l
  case a => k_is
  case b => k_is
  case c => exact fun s X => binds_K X rfl (by k_is) rfl rfl rfl
  case d => exact locs rfl
  case e => decide
  case i => exact rfl
  case j => exact rfl
  case k => exact rfl
  case l => decide
  rintro ⟨hpos, hlen, hn⟩ x hw hc hu hcl
  show Ex x (fnO o554.1 554) _ (sN ⟨sio, sd, hs, ts, r, t1, t2⟩ pos t3 news) (fb o554.1) _ _
  have hl : (T r).length = r.length := T_len r
  have hend : ∀ (m : Loc) (e : Nat) (te ts' : Tok), look m (Str.ofString "self") = some (.ref sio) → look m (Str.ofString "start") = some (.int pos ts') → look m (Str.ofString "stop") = some (.int e te) → pos ≤ e → e = pos + ((r.drop pos).take n).length →
      Ex x (fnO o554.1 554) m (sN ⟨sio, sd, hs, ts, r, t1, t2⟩ pos t3 news) ((fb o554.1).drop 7) (fun fl _ news' => ∃ o', (∃ x t p' t', x = T ((r.drop pos).take n) ∧ p' = ((pos + ((r.drop pos).take n).length : Nat) : Int) ∧ retv fl = .str x t ∧ o' = sioD hs ts (T r) p' t1 t2 t') ∧ news' = (sio, instObj 608 sd) :: (sd, o') :: news) (fun _ _ => False) := fun m e te ts' h1 h2 h3 h4 h6 =>
    Ex.spos hne hne' (Ep.nameI h3) h1 fun t5 => Ex.retS (Ep.part hlen h1 h2 h3) fun t7 => ⟨_, ⟨_, t7, e, t5, by
      have hll : ((r.drop pos).take n).length = e - pos := by omega
      show Txt.slice (T r) (some (pos : Int)) (some (e : Int)) = _
      rw [slice_T _ _ _ h4 (by rw [h6]; simp only [List.length_take, List.length_drop]; omega)]
      simp only [List.length_take, List.length_drop] at hll
      congr 1
      rw [← hll]
      simp [List.take_eq_take_iff], congrArg Int.ofNat h6, rfl, rfl⟩, rfl⟩
  refine Ex.ifF (Tp.cmp (Ep.nameI rfl) Ep.none Co.isIN) ?_
  refine Ex.asK (Ev.dcall (fa := 74) ?g ?k (Er.I (Ep.nameI rfl) fun t5 => Er.S Ep.str fun t6 => Er.nil (Tr.index (by omega) (by omega) (by omega) (by omega) fun t4 => ?_)))
  case g => (intro Q; kernel_rfl)
  case k => (intro Q; kernel_rfl)
  refine Ex.exp (Ev.scheck (by omega) (by omega) rfl ?_)
  refine Ex.asE (Ep.sa rfl sa_pos so_pos) ?_
  refine Ex.asI (Ep.len (Ep.sbuf rfl) (by rw [hl]; omega)) fun t7 => ?_
  rw [hl]
  by_cases h1 : r.length ≤ pos
  · refine Ex.ifT (Tp.cast (Tp.cmp (Ep.nameI rfl) (Ep.nameI rfl) Co.geI) (decide_eq_true (by omega))) ?_
    have hd : (r.drop pos).take n = [] := by rw [List.drop_eq_nil_of_le h1, List.take_nil]
    exact Ex.retS Ep.str fun t8 => ⟨_, ⟨_, t8, pos, t3, by rw [hd]; rfl, by rw [hd]; rfl, rfl, rfl⟩, rfl⟩
  · refine Ex.ifF (Tp.cast (Tp.cmp (Ep.nameI rfl) (Ep.nameI rfl) Co.geI) (decide_eq_false (by omega))) ?_
    by_cases h2 : pos + n < r.length
    · refine Ex.ifT (Tp.L (TL.andT (Tp.cast (Tp.cmp (Ep.nameI rfl) Ep.int Co.geI) (decide_eq_true (by omega))) (TL.andT (Tp.cast (Tp.cmp (Ep.bin (Ep.nameI rfl) (Ep.nameI rfl) Bo.addI) (Ep.nameI rfl) Co.ltI) (decide_eq_true (by omega))) TL.andN))) ?_
      refine Ex.asI (Ep.bin (Ep.nameI rfl) (Ep.nameI rfl) Bo.addI) fun t8 => ?_
      exact hend _ (pos + n) t8 _ rfl rfl rfl (by omega) (by simp; omega)
    · refine Ex.ifF (Tp.L (TL.andT (Tp.cast (Tp.cmp (Ep.nameI rfl) Ep.int Co.geI) (decide_eq_true (by omega))) (TL.andF (Tp.cast (Tp.cmp (Ep.bin (Ep.nameI rfl) (Ep.nameI rfl) Bo.addI) (Ep.nameI rfl) Co.ltI) (decide_eq_false (by omega)))))) ?_
      exact hend _ r.length t7 _ rfl rfl rfl (by omega) (by simp; omega)
theorem line_run {y : Fx} {P : SP} {pos : Nat} {t3 tk : Tok} {news : Led} {R : Flow → Loc → Led → Prop} {X : List Value → Led → Prop} (hne : ∀ q ∈ news, q.1 ≠ P.sd) (hne' : @Ne Nat P.sio P.sd) (hpos : pos ≤ P.r.length) (hlen : P.r.length < 10000)
    (h : ∀ (z : Str) t m' t', R (.ret (.str z t)) m' (sN P ((P.r.length - (aft (P.r.drop pos)).length : Nat) : Int) t' news)) : Ex y (fnO o406.1 406) [(Str.ofString "limit", .int (-1) tk), (Str.ofString "self", .ref P.sio)] (sN P pos t3 news) (fb o406.1) R X := by
  have hl : (T P.r).length = P.r.length := T_len P.r
  have hend : ∀ (m : Loc) (e : Nat) (te ts' : Tok), look m (Str.ofString "self") = some (.ref P.sio) → look m (Str.ofString "start") = some (.int pos ts') → look m (Str.ofString "stop") = some (.int e te) → e = P.r.length - (aft (P.r.drop pos)).length →
      Ex y (fnO o406.1 406) m (sN P pos t3 news) ((fb o406.1).drop 7) R X := fun m e te ts' h1 h2 h3 h4 =>
    Ex.spos hne hne' (Ep.nameI h3) h1 fun t5 => Ex.retS (Ep.part hlen h1 h2 h3) fun t7 => by subst h4; exact h _ t7 _ t5
  refine Ex.asE (Ep.sa rfl sa_pos so_pos) ?_
  refine Ex.asI (Ep.len (Ep.sbuf rfl) (by rw [hl]; omega)) fun t7 => ?_
  rw [hl]
  by_cases h1 : P.r.length ≤ pos
  · refine Ex.ifT (Tp.cast (Tp.cmp (Ep.nameI rfl) (Ep.nameI rfl) Co.geI) (decide_eq_true (by omega))) ?_
    have e : P.r.length - (aft (P.r.drop pos)).length = pos := by rw [List.drop_eq_nil_of_le h1]; simp [aft]; omega
    rw [e] at h
    exact Ex.retS Ep.str fun t8 => h _ t8 _ t3
  · refine Ex.ifF (Tp.cast (Tp.cmp (Ep.nameI rfl) (Ep.nameI rfl) Co.geI) (decide_eq_false (by omega))) ?_
    refine Ex.asE Ep.bool ?_
    refine Ex.ifF (Tp.L (TL.andF (Tp.cast (Tp.cmp (Ep.nameI rfl) Ep.int Co.geI) (decide_eq_false (by omega))))) ?_
    refine Ex.asE (Ep.sa rfl sa_nl so_nl) ?_
    refine Ex.ifF (Tp.cmp (Ep.nameS rfl) Ep.str (Co.eqC (by decide +kernel))) ?_
    refine Ex.asS (z := Str.ofString "\n") (Ep.ife (Tp.cmp (Ep.nameS rfl) Ep.none Co.isSN) (fun h => nomatch h) fun _ => Ep.nameS rfl) fun t8 => ?_
    refine Ex.ifF (Tp.L (TL.andF (Tp.val (Ep.name rfl) Tv.bool))) ?_
    refine Ex.asK (Ev.methS (Ep.sbuf rfl) (fun _ => Fi.find) (fun t => Er.S (Ep.nameS rfl) fun t' => Er.I (Ep.nameI rfl) fun u => Er.I (Ep.nameI rfl) fun u2 => Er.nil (Tr.fi (V := IsI (Txt.find3 (T P.r) (Str.ofString "\n") pos)) (fun w A E s Q _ q => find4 (by rw [hl]) (q _ _ ⟨_, rfl⟩)) ?_)))
    rintro _ ⟨u3, rfl⟩
    rcases find_nl P.r pos hpos with ⟨h2, h3⟩ | ⟨k, h2, h3, h4, h5⟩
    · rw [h2]
      refine Ex.ifF (Tp.cast (Tp.cmp (Ep.nameI rfl) Ep.int Co.geI) (decide_eq_false (by omega))) ?_
      exact hend _ _ t7 _ rfl rfl rfl (by rw [h3]; rfl)
    · rw [h2]
      refine Ex.ifT (Tp.cast (Tp.cmp (Ep.nameI rfl) Ep.int Co.geI) (decide_eq_true (by omega))) ?_
      refine Ex.asI (i := ((k + 1 : Nat) : Int)) (Ep.bin (Ep.nameI rfl) (Ep.len (Ep.nameS rfl) (by decide +kernel)) fun a b ha hb => Bo.addI a b ha hb) fun t9 => ?_
      exact hend _ (k + 1) t9 _ rfl rfl rfl (by rw [h5]; simp; omega)
theorem rl_spec {w : World} (news : List (Addr × Obj)) (sio sd : Addr) (hs ts) (r : List Nat) (pos : Nat) (t1 t2 t3 : Tok)
  (hne : ∀ q ∈ news, q.1 ≠ sd) (hne' : @Ne Nat sio sd) :
  Con 1 w 562 ((sio, instObj 608 sd) :: (sd, sioD hs ts (T r) pos t1 t2 t3) :: news) (pos ≤ r.length ∧ r.length < 10000) [.ref sio]
    (fun v news' => ∃ o', (∃ x t p' t', p' = ((r.length - (aft (r.drop pos)).length : Nat) : Int) ∧ v = .str x t ∧ o' = sioD hs ts (T r) p' t1 t2 t') ∧ news' = (sio, instObj 608 sd) :: (sd, o') :: news) (fun _ _ => False) := by
  refine' Con.of (binds := [(Str.ofString "self", .ref sio), (Str.ofString "size", .int (-1) 903)]) ?a ?b ?c ?d ?e ?h ?i ?j ?k ?l
  case a => k_is
  case b => k_is
  case c => exact fun s X => binds_K X rfl (by k_is) rfl rfl rfl
  case d => exact locs rfl
  case e => decide
  case i => exact rfl
  case j => exact rfl
  case k => exact rfl
  case l => decide
  rintro ⟨hpos, hlen⟩ x hw hc hu hcl
  show Ex x (fnO o562.1 562) _ (sN ⟨sio, sd, hs, ts, r, t1, t2⟩ pos t3 news) (fb o562.1) _ _
  refine Ex.ifF (Tp.cmp (Ep.nameI rfl) Ep.none Co.isIN) ?_
  refine Ex.asK (Ev.dcall (fa := 74) ?g ?k (Er.I (Ep.nameI rfl) fun t5 => Er.S Ep.str fun t6 => Er.nil (Tr.index (by omega) (by omega) (by omega) (by omega) fun t4 => ?_)))
  case g => (intro Q; kernel_rfl)
  case k => (intro Q; kernel_rfl)
  refine Ex.exp (Ev.scheck (by omega) (by omega) rfl ?_)
  refine Ex.ret (Ev.meth (fa := 406) (V := fun l => ∃ v vs, l = v :: vs ∧ IsI (-1) v ∧ vs = []) (Ep.name rfl) (.head _) (.tail _ (.head _)) (by intro Q; kernel_rfl) (by kernel_rfl) (Ea.cons (Ep.nameI rfl) Ea.nil rfl) ?_)
  rintro _ ⟨v, vs, rfl, ⟨t, rfl⟩, rfl⟩
  refine Tr.callD (c := 0) (u := 0) (binds := [(Str.ofString "self", .ref sio), (Str.ofString "limit", .int (-1) t)]) (by k_is) (by k_is) (fun s X => BindsTo.of_eq rfl) (locs rfl) rfl rfl rfl (by decide) (by omega) (by omega) fun y hw' hc' hu' hcl' => ?_
  exact line_run (P := ⟨sio, sd, hs, ts, r, t1, t2⟩) hne hne' hpos hlen fun z t m' t' => ⟨_, ⟨z, t, _, t', rfl, rfl, rfl⟩, rfl⟩
end Mine

end
section
open Mine
namespace Mine
section
variable {x : Fx} {f : Fn} {m : Loc} {n : Led}
theorem Ep.or {a b : Expr} {r : List Expr} {pos : Pos} {c d : Bool} (h1 : Ep x f m n a (· = .bool c)) (h2 : Ep x f m n (.BoolOp .Or (b :: r) pos) (· = .bool d)) : Ep x f m n (.BoolOp .Or (a :: b :: r) pos) (· = .bool (c || d)) :=
  Tr.mk fun s Q E ok st q ee po => BoolOp_or (h1.use ok st (fun v g1 t1 hv st1 => by
    subst hv
    refine wpAny_truthy_bool ?_
    cases c with
    | true => exact ite_tt (q _ _ _ _ _ ⟨rfl, rfl, rfl⟩ st1)
    | false => exact ite_ff (h2.run _ Q E ok st1 q ee po)) po)
theorem Ep.and {a b : Expr} {r : List Expr} {pos : Pos} {c d : Bool} (h1 : Ep x f m n a (· = .bool c)) (h2 : Ep x f m n (.BoolOp .And (b :: r) pos) (· = .bool d)) : Ep x f m n (.BoolOp .And (a :: b :: r) pos) (· = .bool (c && d)) :=
  Tr.mk fun s Q E ok st q ee po => BoolOp_and (h1.use ok st (fun v g1 t1 hv st1 => by
    subst hv
    refine wpAny_truthy_bool ?_
    cases c with
    | true => exact ite_tt (h2.run _ Q E ok st1 q ee po)
    | false => exact ite_ff (q _ _ _ _ _ ⟨rfl, rfl, rfl⟩ st1)) po)
theorem Ep.one {op : BoolOp} {a : Expr} {pos : Pos} {V : Value → Prop} (h : Ep x f m n a V) : Ep x f m n (.BoolOp op [a] pos) V := Tr.as (fun _ _ _ => BoolOp_one) h
theorem Ep.cmp {l r : Expr} {op : CmpOp} {pos : Pos} {Vl Vr : Value → Prop} {b : Bool} (hl : Ep x f m n l Vl) (hr : Ep x f m n r Vr) (ho : Cop op Vl Vr b) (hm : behindInMarks op r = false := by with_unfolding_all rfl) : Ep x f m n (.Compare l [op] [r] pos) (· = .bool b) :=
  Tr.mk fun s Q E ok st q ee po => wpAny_Compare1 (hl.use ok st (fun u g1 t1 hu st1 => hr.use ok st1 (fun v g2 t2 hv st2 => ho _ _ _ _ _ _ _ hu hv fun k => q _ m n g2 k ⟨rfl, rfl, rfl⟩ st2) po) po) hm
theorem Ep.ch2 {l y r : Expr} {op op' : CmpOp} {pos : Pos} {Vl Vy Vr : Value → Prop} {b c : Bool} (hl : Ep x f m n l Vl) (hy : Ep x f m n y Vy) (hr : Ep x f m n r Vr) (ho : Cop op Vl Vy b) (ho' : Cop op' Vy Vr c) (hm : lastMarks [op, op'] [y, r] = false := by with_unfolding_all rfl) : Ep x f m n (.Compare l [op, op'] [y, r] pos) (· = .bool (b && c)) :=
  Tr.mk fun s Q E ok st q ee po => Compare_chain (hl.use ok st (fun u g1 t1 hu st1 => chain_link (hy.use ok st1 (fun v g2 t2 hv st2 => ho _ _ _ _ _ _ _ hu hv fun k => wpAny_truthy_bool (by
    cases b with
    | true => exact ite_tt (chain_last (hr.use ok st2 (fun z g3 t3 hz st3 => ho' _ _ _ _ _ _ _ hv hz fun k => q _ m n g3 k ⟨rfl, rfl, rfl⟩ st3) po))
    | false => exact ite_ff (q _ m n g2 k ⟨rfl, rfl, rfl⟩ st2))) po)) po) hm
theorem Ep.ni2 {e : Expr} {a b : Int} {ka kb kt : Nat} {pa pb pt pos : Pos} {i : Int} (he : Ep x f m n e (IsI i))
    (hs : starEach [.Constant (.int a) ka pa, .Constant (.int b) kb pb] (x.env f) = (false, eval (.Constant (.int a) ka pa) (x.env f)) :: starEach [.Constant (.int b) kb pb] (x.env f) := by rfl)
    (hs2 : starEach [.Constant (.int b) kb pb] (x.env f) = (false, eval (.Constant (.int b) kb pb) (x.env f)) :: starEach [] (x.env f) := by rfl)
    (hm : behindInMarks .NotIn (.Tuple [.Constant (.int a) ka pa, .Constant (.int b) kb pb] kt pt) = false := by with_unfolding_all rfl) :
    Ep x f m n (.Compare e [.NotIn] [.Tuple [.Constant (.int a) ka pa, .Constant (.int b) kb pb] kt pt] pos) (· = .bool (!([a, b].any (fun z => z == i)))) := Tr.mk fun s Q E ok st q ee po => wpAny_Compare1 (he.use ok st (fun v h1 t1 ⟨t, hv⟩ st1 => by
      subst hv
      obtain ⟨⟨mm, F, km⟩, N⟩ := st1
      refine Tuple_ (args_cons (wpAny_Constant_int (args_cons (wpAny_Constant_int (args_nil ?_)) hs2)) hs)
      refine kup_newTuple F N (fun D h' F' N' hlt => ?_) (by show 2 ≤ sizeLine; decide)
      refine notin_tuple_ints (N'.isTup (.head _)) (ns := [a, b]) (.cons _ _ (.cons _ _ .nil)) ?_
      exact q _ _ _ h' _ ⟨rfl, rfl, rfl⟩ ⟨⟨mm, F', km⟩, fun q hq => N' q (.tail _ hq)⟩) po) hm
end
theorem bl_spec {w : World} (news : List (Addr × Obj)) (r : List Nat) (pl : Nat) (t1 t2 : Tok) :
  Con 1 w 780 news (pl ≤ r.length ∧ r.length < 10000) [.str (T r) t1, .int pl t2] (fun v n' => ∃ t k, k = ((r.length - (aft (r.drop pl)).length : Nat) : Int) ∧ v = .int k t ∧ n' = news) (fun _ _ => False) := by
  refine' Con.of (binds := [(Str.ofString "row", .str (T r) t1), (Str.ofString "place", .int pl t2)]) ?a ?b ?c ?d ?e ?h ?i ?j ?k ?l
  case a => k_is
  case b => k_is
  case c => exact fun s X => BindsTo.of_eq rfl
  case d => exact locs rfl
  case e => decide
  case i => exact rfl
  case j => exact rfl
  case k => exact rfl
  case l => decide
  rintro ⟨hp1, hp2⟩ x hw hc hu hcl
  show Ex x (fnO o780.1 780) _ _ (fb o780.1) _ _
  have hl : (T r).length = r.length := T_len r
  have hfind := find_nl r pl hp1
  refine Ex.asK (Ev.methS (Ep.nameS rfl) (fun _ => Fi.find) (fun t => Er.S Ep.str fun t' => Er.I (Ep.nameI rfl) fun u => Er.nil (Tr.fi (V := IsI (Txt.find3 (T r) (Str.ofString "\n") pl)) (fun w A E s Q _ q => SC.find3 (q _ _ ⟨_, rfl⟩)) ?_)))
  rintro _ ⟨t, rfl⟩
  refine Ex.retI (i := ((r.length - (aft (r.drop pl)).length : Nat) : Int)) (Ep.ife (Tp.cmp (Ep.nameI rfl) Ep.int Co.ltI) (fun h => ?_) (fun h => ?_)) (fun t => ⟨t, _, rfl, rfl, rfl⟩)
  · have h := of_decide_eq_true h
    rcases hfind with ⟨h1, h2⟩ | ⟨k, h1, h2, h3, h4⟩
    · refine Ep.mono (Ep.len (Ep.nameS rfl) (by rw [hl]; omega)) ?_
      rintro _ ⟨t, rfl⟩
      exact ⟨t, by rw [hl, h2, List.length_nil, Nat.sub_zero]⟩
    · omega
  · have h := of_decide_eq_false h
    rcases hfind with ⟨h1, h2⟩ | ⟨k, h1, h2, h3, h4⟩
    · omega
    · refine Ep.mono (Ep.bin (Ep.nameI rfl) Ep.int Bo.addI) ?_
      rintro _ ⟨t, rfl⟩
      exact ⟨t, by rw [h1, h4]; congr 1; simp; omega⟩
noncomputable def isP (c : Nat) : Bool := (48 ≤ c && c ≤ 57) || (65 ≤ c && c ≤ 90) || (97 ≤ c && c ≤ 122) || c == 95 || (192 ≤ c && c != 215 && c != 247)
theorem pw_spec {w : World} (news : List (Addr × Obj)) (c : Nat) (t1 : Tok) :
  Con 1 w 773 news (c < 1114112) [.str (T [c]) t1] (fun v n' => ∃ b, b = isP c ∧ v = .bool b ∧ n' = news) (fun _ _ => False) := by
  refine' Con.of (binds := [(Str.ofString "sign", .str (T [c]) t1)]) ?a ?b ?c ?d ?e ?h ?i ?j ?k ?l
  case a => k_is
  case b => k_is
  case c => exact fun s X => BindsTo.of_eq rfl
  case d => exact locs rfl
  case e => decide
  case i => exact rfl
  case j => exact rfl
  case k => exact rfl
  case l => decide
  intro hp x hw hc hu hcl
  show Ex x (fnO o773.1 773) _ _ (fb o773.1) _ _
  refine Ex.asI (Ep.ord (Ep.nameS rfl)) fun t => ?_
  refine Ex.retE (Ep.or (Ep.ch2 Ep.int (Ep.nameI rfl) Ep.int Co.leI Co.leI) (Ep.or (Ep.ch2 Ep.int (Ep.nameI rfl) Ep.int Co.leI Co.leI) (Ep.or (Ep.ch2 Ep.int (Ep.nameI rfl) Ep.int Co.leI Co.leI)
    (Ep.or (Ep.cmp (Ep.nameI rfl) Ep.int Co.eqI) (Ep.one (Ep.and (Ep.cmp (Ep.nameI rfl) Ep.int Co.geI) (Ep.one (Ep.ni2 (Ep.nameI rfl))))))))) ⟨_, ?_, rfl, rfl⟩
  have e1 : ∀ a : Nat, decide ((a : Int) ≤ (c : Int)) = decide (a ≤ c) := fun a => decide_eq_decide.mpr Int.ofNat_le
  have e2 : ∀ a : Nat, decide ((c : Int) ≤ (a : Int)) = decide (c ≤ a) := fun a => decide_eq_decide.mpr Int.ofNat_le
  have e3 : ∀ a : Nat, ((c : Int) == (a : Int)) = (c == a) := fun a => by rw [Bool.eq_iff_iff, beq_iff_eq, beq_iff_eq]; exact Int.ofNat_inj
  have e4 : ∀ a : Nat, ((a : Int) == (c : Int)) = (c == a) := fun a => by rw [Bool.eq_iff_iff, beq_iff_eq, beq_iff_eq]; exact ⟨fun h => (Int.ofNat_inj.mp h).symm, fun h => Int.ofNat_inj.mpr h.symm⟩
  have e5 : ∀ p q r s t u v w y z : Bool, (p && q || (r && s || (t && u || (v || (w && !(y || (z || false))))))) = (p && q || r && s || t && u || v || w && !y && !z) := by decide
  refine Eq.trans ?_ (e5 (decide (48 ≤ c)) (decide (c ≤ 57)) (decide (65 ≤ c)) (decide (c ≤ 90)) (decide (97 ≤ c)) (decide (c ≤ 122)) (c == 95) (decide (192 ≤ c)) (c == 215) (c == 247))
  rw [← e1 48, ← e2 57, ← e1 65, ← e2 90, ← e1 97, ← e2 122, ← e3 95, ← e1 192, ← e4 215, ← e4 247]
  rfl
end Mine

end
section
open Mine
namespace Mine
open PySem.Builtin PySem.Builtin.Str PySem.StrLaws
noncomputable def cons1 (a : Nat) : List (List Nat) → List (List Nat)
  | [] => [[a]]
  | x :: xs => (a :: x) :: xs
noncomputable def splitL (p q : Nat) : List Nat → List (List Nat)
  | a :: b :: s => if a = p ∧ b = q then [] :: splitL p q s else cons1 a (splitL p q (b :: s))
  | [a] => [[a]]
  | [] => [[]]
noncomputable def replL (p q z : Nat) : List Nat → List Nat
  | a :: b :: s => if a = p ∧ b = q then z :: replL p q z s else a :: replL p q z (b :: s)
  | [a] => [a]
  | [] => []
noncomputable def joinL (sep : List Nat) : List (List Nat) → List Nat
  | [] => []
  | [x] => x
  | x :: y :: r => x ++ sep ++ joinL sep (y :: r)
theorem cons1_ne (a : Nat) (L : List (List Nat)) : ∃ x xs, cons1 a L = x :: xs := by cases L <;> exact ⟨_, _, rfl⟩
theorem splitL_ne (p q : Nat) : ∀ s, ∃ x xs, splitL p q s = x :: xs
  | [] => ⟨_, _, rfl⟩
  | [a] => ⟨_, _, rfl⟩
  | a :: b :: s => by
    rw [splitL]
    split
    · exact ⟨_, _, rfl⟩
    · exact cons1_ne _ _
theorem splitL_cons {p q a : Nat} (h : a ≠ p) (s : List Nat) : splitL p q (a :: s) = cons1 a (splitL p q s) := by
  cases s with
  | nil => simp [splitL, cons1]
  | cons b s => rw [splitL, if_neg (fun x => h x.1)]
theorem replL_cons {p q z a : Nat} (h : a ≠ p) (s : List Nat) : replL p q z (a :: s) = a :: replL p q z s := by
  cases s with
  | nil => simp [replL]
  | cons b s => rw [replL, if_neg (fun x => h x.1)]
theorem joinL_cons1 (sep : List Nat) (a : Nat) : ∀ L : List (List Nat), L ≠ [] → joinL sep (cons1 a L) = a :: joinL sep L
  | [], h => (h rfl).elim
  | [x], _ => rfl
  | x :: y :: r, _ => by simp [cons1, joinL]
theorem join_splitL (p q z : Nat) : ∀ s, joinL [z] (splitL p q s) = replL p q z s
  | [] => rfl
  | [a] => rfl
  | a :: b :: s => by
    rw [splitL, replL]
    split
    · obtain ⟨x, xs, e⟩ := splitL_ne p q s
      rw [e, joinL, ← e, join_splitL p q z s]; rfl
    · obtain ⟨x, xs, e⟩ := splitL_ne p q (b :: s)
      rw [joinL_cons1 _ _ _ (by rw [e]; simp), join_splitL p q z (b :: s)]
theorem replL_le (p q z : Nat) : ∀ s, (replL p q z s).length ≤ s.length
  | [] => by simp [replL]
  | [a] => by simp [replL]
  | a :: b :: s => by
    rw [replL]
    split
    · have := replL_le p q z s; simp; omega
    · have := replL_le p q z (b :: s); simp at this ⊢; omega
theorem splitL_none (p q : Nat) : ∀ s, (∀ k r, s.drop k ≠ p :: q :: r) → splitL p q s = [s]
  | [], _ => rfl
  | [a], _ => rfl
  | a :: b :: s, h => by
    rw [splitL, if_neg (fun x => h 0 s (by rw [x.1, x.2]; rfl)), splitL_none p q (b :: s) (fun k r e => h (k + 1) r (by simpa using e))]
    rfl
theorem splitL_first (p q : Nat) : ∀ (j : Nat) (s rest : List Nat), s.drop j = p :: q :: rest → (∀ k, k < j → ∀ r, s.drop k ≠ p :: q :: r) → splitL p q s = s.take j :: splitL p q rest
  | 0, s, rest, h, _ => by
    rw [List.drop_zero] at h
    subst h
    rw [splitL, if_pos ⟨rfl, rfl⟩]; rfl
  | j + 1, [], rest, h, _ => by simp at h
  | j + 1, [a], rest, h, _ => by simp at h
  | j + 1, a :: b :: s, rest, h, hn => by
    rw [splitL, if_neg (fun x => hn 0 (by omega) s (by rw [x.1, x.2]; rfl)), splitL_first p q j (b :: s) rest (by simpa using h) (fun k hk r e => hn (k + 1) (by omega) r (by simpa using e))]
    rfl
theorem at_two {l : List Nat} {p q k : Nat} : At (T l) (T [p, q]) (T l).length k ↔ ∃ r, l.drop k = p :: q :: r := by
  unfold At
  rw [subAt_eq, T_len]
  show (k + 2 ≤ l.length ∧ (((T l).cps.toList.drop k).take 2 == [p, q]) = true) ↔ _
  have : (T l).cps.toList = l := by simp
  rw [this, beq_iff_eq]
  constructor
  · rintro ⟨h1, h2⟩
    refine ⟨(l.drop k).drop 2, ?_⟩
    conv => lhs; rw [← List.take_append_drop 2 (l.drop k), h2]
    rfl
  · rintro ⟨r, e⟩
    refine ⟨?_, by rw [e]; rfl⟩
    have := congrArg List.length e
    simp at this
    omega
theorem sub_T (l : List Nat) (a b : Nat) : strSub (T l) a b = T ((l.drop a).take (b - a)) := by
  apply Str.ext'
  apply Array.toList_inj.mp
  rw [strSub_toList]
theorem parts_two {l : List Nat} {p q : Nat} : ∀ (cuts : List Nat) (a f : Nat), ChainG (T l) (T [p, q]) (T l).length a cuts f → (∀ k, f ≤ k → ¬ At (T l) (T [p, q]) (T l).length k) →
    partsFrom (T l) 2 a cuts = (splitL p q (l.drop a)).map T
  | [], a, f, h, hn => by
    have e : f = a := h
    subst e
    rw [splitL_none p q _ (fun k r e => hn (f + k) (by omega) (at_two.mpr ⟨r, by rw [← e, List.drop_drop]⟩))]
    show [strSub (T l) f (T l).length] = _
    rw [sub_T, T_len, List.take_of_length_le (by simp)]
    rfl
  | c :: r, a, f, h, hn => by
    obtain ⟨h1, h2, h3, h4⟩ := h
    obtain ⟨rest, hr⟩ := at_two.mp h2
    have e1 : (l.drop a).drop (c - a) = p :: q :: rest := by rw [List.drop_drop, show a + (c - a) = c by omega]; exact hr
    rw [splitL_first p q (c - a) (l.drop a) rest e1 (fun k hk r e => h3 (a + k) (by omega) (by omega) (at_two.mpr ⟨r, by rw [← e, List.drop_drop]⟩))]
    have e2 : l.drop (c + 2) = rest := by rw [← List.drop_drop, hr]; rfl
    show strSub (T l) a c :: partsFrom (T l) 2 (c + 2) r = _
    rw [parts_two r (c + 2) f h4 hn, sub_T, e2]
    rfl
theorem split_two (l : List Nat) (p q : Nat) (hp : p < 256) (hq : q < 256) : Txt.split (T l) (T [p, q]) = (splitL p q l).map T := by
  obtain ⟨f, hG, hn⟩ := occ_tight (T l) (T [p, q]) (by show 1 ≤ 2; omega)
  have key := parts_two _ _ _ hG hn
  rw [List.drop_zero] at key
  unfold Txt.split
  have hk : Str.strKind (T [p, q]) = 1 := by simp [Str.strKind, hp, hq]
  have hk1 : 1 ≤ Str.strKind (T l) := by unfold Str.strKind; split <;> (try split) <;> omega
  split
  · rename_i h
    rw [hk] at h
    have h2 : l.length < 2 := by
      simp only [Bool.or_eq_true, decide_eq_true_eq] at h
      rcases h with h | h
      · rw [T_len, T_len] at h; exact h
      · omega
    rcases l with _ | ⟨a, _ | ⟨b, l⟩⟩
    · rfl
    · rfl
    · simp only [List.length_cons] at h2; omega
  · split
    · rename_i h
      rw [List.isEmpty_iff] at h
      rw [h] at key
      rw [← key]
      show [T l] = [strSub (T l) 0 (T l).length]
      rw [sub_whole]
    · rw [partsBetween_eq]; exact key
theorem glued_T (sep : List Nat) : ∀ L : List (List Nat), glued (T sep) (L.map T) = T (joinL sep L) := by
  have key : ∀ (L : List (List Nat)) (acc : List Nat), (L.map T).foldl (fun (acc : Array Nat) p => acc ++ (T sep).cps ++ p.cps) acc.toArray = (acc ++ (L.map fun x => sep ++ x).flatten).toArray := by
    intro L
    induction L with
    | nil => intro acc; simp
    | cons x L ih =>
      intro acc
      have := ih (acc ++ sep ++ x)
      simp only [List.map_cons, List.foldl_cons, List.flatten_cons] at this ⊢
      have e : acc.toArray ++ (T sep).cps ++ (T x).cps = (acc ++ sep ++ x).toArray := by simp
      rw [e, this]
      simp
  have fl : ∀ (L : List (List Nat)) (x : List Nat), joinL sep (x :: L) = x ++ (L.map fun x => sep ++ x).flatten := by
    intro L
    induction L with
    | nil => intro x; simp [joinL]
    | cons y L ih => intro x; rw [joinL, ih]; simp
  intro L
  cases L with
  | nil => rfl
  | cons x L =>
    unfold glued
    rw [fl]
    have := key L x
    simp only [List.map_cons, List.drop_one, List.tail_cons, List.headD_cons]
    exact congrArg Str.mk this
theorem replace_two (l : List Nat) (p q z : Nat) : Txt.replace (T l) (T [p, q]) (T [z]) = T (replL p q z l) := by
  obtain ⟨f, hG, hn⟩ := occ_tight (T l) (T [p, q]) (by show 1 ≤ 2; omega)
  have key := parts_two _ _ _ hG hn
  rw [List.drop_zero] at key
  unfold Txt.replace
  split
  · rename_i h
    have h' : (occurrences (T l) (T [p, q]) 0 (T l).length ((T l).length + 1)).isEmpty = true := by
      simp only [Bool.or_eq_true, Bool.and_eq_true, beq_iff_eq] at h
      rcases h with h | ⟨h, _⟩
      · exact h
      · exact absurd h (by show ¬ 2 = 0; omega)
    rw [List.isEmpty_iff] at h'
    rw [h'] at key
    have e : [T l] = (splitL p q l).map T := by
      rw [← key]
      show [T l] = [strSub (T l) 0 (T l).length]
      rw [sub_whole]
    rw [← join_splitL, ← glued_T, ← e]
    rfl
  · rw [partsBetween_eq, ← join_splitL, ← glued_T]
    exact congrArg _ key
end Mine

end
section
open Mine
namespace Mine
open PySem.Builtin PySem.Builtin.Str PySem.StrLaws
inductive Uc : List Nat → List Nat → Prop
  | nil : Uc [] []
  | chr {c b u} : c ≠ 34 → c ≠ 92 → Uc b u → Uc (c :: b) (c :: u)
  | esc {c b u} : Uc b u → Uc (92 :: c :: b) ((if c = 92 ∨ c = 34 then [c] else [92, c]) ++ u)
theorem Uc.snoc_chr {b u : List Nat} {c : Nat} (h : Uc b u) (h1 : c ≠ 34) (h2 : c ≠ 92) : Uc (b ++ [c]) (u ++ [c]) := by
  induction h with
  | nil => exact .chr h1 h2 .nil
  | chr a1 a2 _ ih => exact .chr a1 a2 ih
  | esc _ ih => rw [List.append_assoc]; exact .esc ih
theorem Uc.snoc_esc {b u : List Nat} {c : Nat} (h : Uc b u) : Uc (b ++ [92, c]) (u ++ (if c = 92 ∨ c = 34 then [c] else [92, c])) := by
  induction h with
  | nil => simpa using Uc.esc (c := c) .nil
  | chr a1 a2 _ ih => exact .chr a1 a2 ih
  | esc _ ih => rw [List.append_assoc]; exact .esc ih
noncomputable def unesc (b : List Nat) : List Nat := joinL [92] ((splitL 92 92 b).map (replL 92 34 34))
theorem Uc.unesc {b u : List Nat} (h : Uc b u) : unesc b = u := by
  unfold Mine.unesc
  induction h with
  | nil => rfl
  | @chr c b u h1 h2 _ ih =>
    obtain ⟨x, xs, e⟩ := splitL_ne 92 92 b
    rw [e] at ih
    rw [splitL_cons h2, e]
    simp only [cons1, List.map_cons, replL_cons h2] at ih ⊢
    rw [← ih]
    exact joinL_cons1 _ _ (replL 92 34 34 x :: xs.map _) (by simp)
  | @esc c b u _ ih =>
    obtain ⟨x, xs, e⟩ := splitL_ne 92 92 b
    by_cases hc : c = 92
    · subst hc
      rw [splitL, if_pos ⟨rfl, rfl⟩]
      rw [e] at ih ⊢
      simp only [List.map_cons] at ih ⊢
      rw [joinL, ih]; rfl
    · rw [splitL, if_neg (fun x => hc x.2), splitL_cons hc, e]
      rw [e] at ih
      simp only [cons1, List.map_cons] at ih ⊢
      by_cases h34 : c = 34
      · subst h34
        rw [replL, if_pos ⟨rfl, rfl⟩, if_pos (.inr rfl), ← ih]
        exact joinL_cons1 _ _ (replL 92 34 34 x :: xs.map _) (by simp)
      · rw [replL, if_neg (fun x => h34 x.2), replL_cons hc, if_neg (by simp [hc, h34]), ← ih]
        exact (joinL_cons1 [92] 92 ((c :: replL 92 34 34 x) :: xs.map _) (by simp)).trans (congrArg _ (joinL_cons1 [92] c (replL 92 34 34 x :: xs.map _) (by simp)))
theorem Uc.le {b u : List Nat} (h : Uc b u) : u.length ≤ b.length := by
  induction h with
  | nil => simp
  | chr _ _ _ ih => simpa using ih
  | esc _ ih => split <;> simp <;> omega
noncomputable def nls (b : List Nat) : Nat := b.count 10
theorem nls_cons (c : Nat) (b : List Nat) (line : Int) : line + (nls (c :: b) : Int) = bump c line + (nls b : Int) := by
  unfold nls bump
  rw [List.count_cons]
  by_cases h : c = 10
  · simp [h]; omega
  · simp [h]
theorem nls_app (a b : List Nat) : nls (a ++ b) = nls a + nls b := List.count_append
theorem Uc.run {b u : List Nat} (h : Uc b u) : ∀ {rest tok : List Nat} {line : Int} {q : Bool} {es : ES} {O : Out}, (∀ q' es', Run rest .dq (tok ++ u) (line + (nls b : Int)) q' es' O) → Run (b ++ rest) .dq tok line q es O := by
  induction h with
  | nil => intro rest tok line q es O h; simpa [nls] using h q es
  | @chr c b u h1 h2 _ ih =>
    intro rest tok line q es O h
    refine .dqC rfl h1 (by simpa using h2) (ih fun q' es' => ?_)
    rw [← nls_cons, List.append_assoc]
    exact h q' es'
  | @esc c b u _ ih =>
    intro rest tok line q es O h
    refine .dqX ?_
    have e : ∀ line : Int, line + (nls (92 :: c :: b) : Int) = bump c line + (nls b : Int) := fun line => by rw [nls_cons, nls_cons]; rfl
    by_cases hc : c = 92 ∨ c = 34
    · rw [if_pos hc] at h
      refine .escC rfl (fun _ => hc) (ih fun q' es' => ?_)
      rw [← e, List.append_assoc]
      exact h q' es'
    · rw [if_neg hc] at h
      refine .escB rfl (fun x => hc (.inl x)) (fun x => hc (.inr x)) (ih fun q' es' => ?_)
      rw [← e, List.append_assoc, List.append_assoc]
      exact h q' es'
theorem sq_run : ∀ {b rest tok : List Nat} {line : Int} {q : Bool} {es : ES} {O : Out}, 39 ∉ b → (∀ q', Run rest .sq (tok ++ b) (line + (nls b : Int)) q' es O) → Run (b ++ rest) .sq tok line q es O
  | [], rest, tok, line, q, es, O, _, h => by simpa [nls] using h q
  | c :: b, rest, tok, line, q, es, O, hn, h => by
    refine .sqC rfl (fun e => hn (by simp [e])) (sq_run (fun x => hn (.tail _ x)) fun q' => ?_)
    rw [← nls_cons, List.append_assoc]
    exact h q'
theorem Run.es {s : List Nat} {st : St} {tok : List Nat} {line : Int} {q : Bool} {es : ES} {O : Out} (h : Run s st tok line q es O) : ∀ es', (st = .esc → es' = es) → Run s st tok line q es' O := by
  induction h with
  | fin0 => exact fun _ _ => .fin0
  | ws0 => exact fun _ _ => .ws0
  | wsW a b _ ih => exact fun e _ => .wsW a b (ih e (by simp))
  | wsC _ ih => exact fun e _ => .wsC (ih e (by simp))
  | wsE h _ => exact fun _ _ => .wsE h
  | wsD a _ ih => exact fun e _ => .wsD a (ih e (by simp))
  | wsQ _ ih => exact fun e _ => .wsQ (ih e (by simp))
  | wsR _ ih => exact fun e _ => .wsR (ih e (by simp))
  | wsP a b c d e => exact fun _ _ => .wsP a b c d e
  | sq0 => exact fun _ _ => .sq0
  | dq0 => exact fun _ _ => .dq0
  | sqE _ ih => exact fun e _ => .sqE (ih e (by simp))
  | sqC a b _ ih => exact fun e _ => .sqC a b (ih e (by simp))
  | dqE _ ih => exact fun e _ => .dqE (ih e (by simp))
  | dqX h _ => exact fun _ _ => .dqX h
  | dqC a b c _ ih => exact fun e _ => .dqC a b c (ih e (by simp))
  | esc0 => exact fun _ _ => .esc0
  | escC a b h _ => exact fun e he => by rw [he rfl]; exact .escC a b h
  | escB a b c h _ => exact fun e he => by rw [he rfl]; exact .escB a b c h
  | wd0 => exact fun _ _ => .wd0
  | wdW a b => exact fun _ _ => .wdW a b
  | wdC => exact fun _ _ => .wdC
  | wdQ _ ih => exact fun e _ => .wdQ (ih e (by simp))
  | wdR _ ih => exact fun e _ => .wdR (ih e (by simp))
  | wdE h _ => exact fun _ _ => .wdE h
  | wdD a _ ih => exact fun e _ => .wdD a (ih e (by simp))
  | wdP a b c d e => exact fun _ _ => .wdP a b c d e
section
variable {prog : Program} {w : World} {A : Around} {E : Value → Shared → Prop} {s : Shared} {t : Tok} {Q : Value → Shared → Prop}
theorem join_q {D : Addr} {ys : List Value} {l : List (Str × Tok)} {b : List Nat} (hl : s.heap.IsList D ys.toArray)
    (hC : CarriedAll ys (List.map (fun a => PyData.str (Txt.replace a (Str.ofString "\\\"") (Str.ofString "\""))) (List.filter (fun _ => true) (List.map (fun x => x.1) l))))
    (he : List.map (fun x => x.1) l = Txt.split (T b) (Str.ofString "\\\\")) (hb : b.length ≤ 10000)
    (h : ∀ t' k, Q (.str (T (unesc b)) t') { s with toks := k }) : wpAny (model prog w) A (call (.builtin "str.join") [.str (Str.ofString "\\") t, .ref D]) Q E s := by
  have e1 : Str.ofString "\\\\" = T [92, 92] := by decide +kernel
  have e2 : Str.ofString "\\\"" = T [92, 34] := by decide +kernel
  have e3 : Str.ofString "\"" = T [34] := by decide +kernel
  have e4 : Str.ofString "\\" = T [92] := by decide +kernel
  rw [List.filter_eq_self.mpr (fun _ _ => rfl), he, e1, split_two b 92 92 (by decide) (by decide), e2, e3] at hC
  have hS := CarriedAll.strsOf (f := fun a => Txt.replace a (T [92, 34]) (T [34])) hC
  rw [List.map_map] at hS
  have e5 : ((fun a => Txt.replace a (T [92, 34]) (T [34])) ∘ T) = T ∘ replL 92 34 34 := by
    funext x; exact replace_two x 92 34 34
  rw [e5, ← List.map_map] at hS
  have hw : ∀ L : List (List Nat), ((L.map (replL 92 34 34)).map List.length).sum ≤ (L.map List.length).sum := by
    intro L
    induction L with
    | nil => simp
    | cons x L ih => have := replL_le 92 34 34 x; simp only [List.map_cons, List.sum_cons]; omega
  have hs : ∀ s, ((splitL 92 92 s).map List.length).sum ≤ s.length ∧ (splitL 92 92 s).length ≤ s.length + 1 := by
    have c1 : ∀ a (L : List (List Nat)), ((cons1 a L).map List.length).sum = (L.map List.length).sum + 1 ∧ (cons1 a L).length ≤ L.length + 1 ∧ (L ≠ [] → (cons1 a L).length = L.length) := by
      intro a L
      cases L with
      | nil => simp [cons1]
      | cons x L => exact ⟨by simp [cons1]; omega, by simp [cons1], by simp [cons1]⟩
    have go : ∀ (p q : Nat) s, ((splitL p q s).map List.length).sum ≤ s.length ∧ (splitL p q s).length ≤ s.length + 1 := by
      intro p q s
      induction s using splitL.induct p q with
      | case1 a b s h ih => rw [splitL, if_pos h]; simp only [List.map_cons, List.sum_cons, List.length_cons, List.length_nil]; omega
      | case2 a b s h ih =>
        rw [splitL, if_neg h]
        have := c1 a (splitL p q (b :: s))
        simp only [List.length_cons] at ih ⊢
        omega
      | case3 a => simp [splitL]
      | case4 => simp [splitL]
    exact go 92 92
  refine join_list (ys := ((splitL 92 92 b).map (replL 92 34 34)).map T) hl (by simpa using hS) ?_ fun t' k => ?_
  · have h1 := hw (splitL 92 92 b)
    have h2 := hs b
    have h3 : (((splitL 92 92 b).map (replL 92 34 34)).map T).map (·.length) = ((splitL 92 92 b).map (replL 92 34 34)).map List.length := by
      rw [List.map_map]; congr 1
    rw [h3, e4, T_len]
    simp only [List.length_map, List.length_cons, List.length_nil]
    omega
  · rw [e4]
    show Q (.str (glued (T [92]) _) t') _
    rw [glued_T]
    exact h t' k
end
end Mine

end
section
open Mine
namespace Mine
section
variable {prog : Program} {w : World} {A : Around} {E : Value → Shared → Prop} {s : Shared} {x y z : Str} {t u v : Tok} {h₀ : Heap} {L : Addr} {m : Str → Option Value} {news : List (Addr × Obj)} {Q : Value → Shared → Prop}
theorem split_at (hF : Fr h₀ L s.heap m) (hN : News h₀ L s.heap news) (hp : 0 < s.toks) (hy : (y.length == 0) = false) (hsz : x.length ≤ 10000)
    (h : ∀ l h' k, l.map (·.1) = Txt.split x y → StrsAre (strValues l) (l.map (·.1)) → (∀ a ∈ l.map (·.1), a.length ≤ 10000) → h'.IsList s.heap.objs.size (strValues l).toArray → Fr h₀ L h' m →
      News h₀ L h' ((s.heap.objs.size, { cls := .type "list", data := .seq (strValues l).toArray }) :: news) → 0 < k → Q (.ref s.heap.objs.size) { s with heap := h', toks := k }) :
    wpAny (model prog w) A (call (.builtin "str.split") [.str x t, .str y u]) Q E s :=
  wpAny_tkQ (splitN1A hF hN hy (fun l h' k e1 e2 e3 e4 F' N' (hk : s.toks ≤ k) => h l h' k e1 e2 (fun a ha => Nat.le_trans (e3 a ha) hsz) e4 F' N' (by omega)) (by rw [sizeLine_eq]; omega))
theorem replace_at {k : Nat} {M : List Str} (hk : k ≤ s.toks) (hk0 : 0 < k) (hx : x ∈ M) (hM : ∀ a ∈ M, a.length ≤ 10000) (hz : z.length = 1) (hyz : (y == z) = false)
    (hq : ∀ t' k, Q (.str (Txt.replace x y z) t') { s with toks := k }) : wpAny (model prog w) A (call (.builtin "str.replace") [.str x t, .str y s.toks, .str z (s.toks + 1)]) Q E { s with toks := s.toks + 1 + 1 } := by
  have := hM x hx
  exact SC.replace (by show @Ne Nat _ _; omega) (by show @Ne Nat _ _; omega) (by show @Ne Nat _ _; omega) hyz (by rw [hz]; omega) hq
end
end Mine

end
section
open Mine
namespace Mine
theorem aft_le_cons {r : List Nat} {pl c : Nat} {s : List Nat} (h : r.drop pl = c :: s) : (aft (r.drop pl)).length + 1 ≤ r.length - pl := by
  have h2 := congrArg List.length h
  rw [List.length_drop] at h2
  simp only [List.length_cons] at h2
  rw [h, aft_cons]
  have := aft_le s
  split <;> omega
inductive GapR : List Nat → List Nat → Nat → Prop
  | nil : GapR [] [] 0
  | stop {c s} : isW c = false → c ≠ 35 → GapR (c :: s) (c :: s) 0
  | nl {s o k} : GapR s o k → GapR (10 :: s) o (k + 1)
  | wh {c s o k} : isW c = true → c ≠ 10 → GapR s o k → GapR (c :: s) o k
  | hash {s o k} : GapR (aft s) o k → GapR (35 :: s) o (k + 1)
noncomputable def isG (c : Nat) : Bool := isW c || c == 35
theorem isG_big (c : Nat) (h : 256 ≤ c) : isG c = false := by unfold isG isW; simp; omega
noncomputable def isN (c : Nat) : Bool := c == 10 || c == 35
theorem isN_10 {c : Nat} (h : isN c = true) (h2 : c ≠ 35) : c = 10 := by simpa [isN, h2] using h
theorem isN_big (c : Nat) (h : 256 ≤ c) : isN c = false := by unfold isN; simp; omega
section
variable {prog : Program} {w : World} {A : Around} {E : Value → Shared → Prop} {s : Shared} {t u : Tok} {c : Nat} {Q : Value → Shared → Prop}
theorem in_gap (h : Q (.bool (isG c)) s) : wpAny (model prog w) A (compareOp .In (.str (⟨[c].toArray⟩ : Str) u) (.str (Str.ofString " \t\r\n#") t)) Q E s :=
  in_lit (small_mem _ isG (by decide +kernel) (by decide +kernel) isG_big c) h
theorem in_nlh (h : Q (.bool (isN c)) s) : wpAny (model prog w) A (compareOp .In (.str (⟨[c].toArray⟩ : Str) u) (.str (Str.ofString "\n#") t)) Q E s :=
  in_lit (small_mem _ isN (by decide +kernel) (by decide +kernel) isN_big c) h
end
structure GC where
  pl : Nat
  ln : Nat
  tp : Tok
  tn : Tok
theorem g_bl : ∀ Q, nsIn (Mine.KK Q) mainGlobals (Str.ofString "_law_behind_line") = some (some (.ref 780)) := by intro Q; kernel_rfl
theorem k_bl : ∀ Q, keepIn (Mine.KK Q) (.ref 780) = true := by intro Q; kernel_rfl
theorem Ep.bl {x : Fx} {f : Fn} {m : Loc} {n : Led} {p pos : Pos} {a b : Expr} {r : List Nat} {i : Nat} (ha : Ep x f m n a (IsS (T r))) (hb : Ep x f m n b (IsI i)) (hp : i ≤ r.length ∧ r.length < 10000) (h5 : 5 ≤ x.c) (h6 : 40 ≤ x.u)
    (he : eval (.Call (.Name (Str.ofString "_law_behind_line") p) [a, b] [] pos) (x.env f) = (do callWith pos (← eval (.Name (Str.ofString "_law_behind_line") p) (x.env f)) [] (backTo pos (starEach [a, b] (x.env f))) (backToKw pos (keywordEach [] (x.env f)))) := by rfl)
    (hs : starEach [a, b] (x.env f) = (false, eval a (x.env f)) :: starEach [b] (x.env f) := by rfl) (hs1 : starEach [b] (x.env f) = (false, eval b (x.env f)) :: starEach [] (x.env f) := by rfl)
    (hx : (x.env f).kindOf (Str.ofString "_law_behind_line") = some .globalImplicit := by rfl) : Ep x f m n (.Call (.Name (Str.ofString "_law_behind_line") p) [a, b] [] pos) (IsI ((r.length - (aft (r.drop i)).length : Nat) : Int)) := by
  refine Ev.dcall g_bl k_bl (Er.S ha (fun t => Er.I hb (fun u => Er.nil (Tr.con (lv := 1) (bl_spec n r i t u) hp (fun _ h => h) h5 h6 ?_ (fun _ _ z => z.elim))) hs1) hs) he hs (by rw [hs1]; rfl) hx
  rintro v n' ⟨t, k, rfl, rfl, rfl⟩
  exact ⟨_, fun _ h => h, ⟨t, rfl⟩, rfl, rfl⟩
theorem co_gap {c : Nat} : Cop .In (IsS (T [c])) (IsS (Str.ofString " \t\r\n#")) (isG c) := Co.in1 (by decide +kernel) (by decide +kernel) isG_big
theorem co_nlh {c : Nat} : Cop .In (IsS (T [c])) (IsS (Str.ofString "\n#")) (isN c) := Co.in1 (by decide +kernel) (by decide +kernel) isN_big
theorem gap_spec {w : World} (news : List (Addr × Obj)) (r : List Nat) (pl : Nat) (t1 t2 : Tok) :
  Con 2 w 787 news (pl ≤ r.length ∧ r.length < 10000) [.str (T r) t1, .int pl t2]
    (fun v n' => ∃ (d : Addr) (p k : Nat) (tp tk : Tok), GapR (r.drop pl) (r.drop p) k ∧ p ≤ r.length ∧ v = .ref d ∧ (∀ q ∈ news, q.1 < d) ∧ n' = (d, { cls := .type "tuple", data := .seq #[.int p tp, .int k tk] }) :: news) (fun _ _ => False) := by
  refine' Con.of (binds := [(Str.ofString "row", .str (T r) t1), (Str.ofString "place", .int pl t2)]) ?a ?b ?c ?d ?e ?h ?i ?j ?k ?l
  case a => k_is
  case b => k_is
  case c => exact fun s X => BindsTo.of_eq rfl
  case d => exact locs rfl
  case e => decide
  case i => exact rfl
  case j => exact rfl
  case k => exact rfl
  case l => decide
  rintro ⟨hp1, hp2⟩ x hw hc hu hcl
  show Ex x (fnO o787.1 787) _ _ (fb o787.1) _ _
  have hl : (T r).length = r.length := T_len r
  refine Ex.asI Ep.int fun u => ?_
  refine Ex.whl (fun c : GC => [(Str.ofString "row", .str (T r) t1), (Str.ofString "place", .int c.pl c.tp), (Str.ofString "lines", .int c.ln c.tn)]) (fun _ => news)
    (fun c => c.pl ≤ r.length ∧ ∀ o k, GapR (r.drop c.pl) o k → GapR (r.drop pl) o (c.ln + k)) (fun c => r.length - c.pl) ⟨pl, 0, t2, u⟩
    (List.forall_mem_cons.mpr ⟨rfl, List.forall_mem_cons.mpr ⟨rfl, List.forall_mem_cons.mpr ⟨rfl, List.forall_mem_nil _⟩⟩⟩) (fun q hq => hq) ⟨hp1, fun o k h => by rw [Nat.zero_add]; exact h⟩ ?_
  rintro ⟨p, ln, tp, tn⟩ ⟨hp, hO⟩
  dsimp only at hp hO ⊢
  have fin : ∀ k, GapR (r.drop p) (r.drop p) k → k = 0 → Ex x (fnO o787.1 787) [(Str.ofString "row", .str (T r) t1), (Str.ofString "place", .int p tp), (Str.ofString "lines", .int ln tn)] news ((fb o787.1).drop 2)
      (fun fl _ n' => ∃ (d : Addr) (p k : Nat) (tp tk : Tok), GapR (r.drop pl) (r.drop p) k ∧ p ≤ r.length ∧ retv fl = .ref d ∧ (∀ q ∈ news, q.1 < d) ∧ n' = (d, { cls := .type "tuple", data := .seq #[.int p tp, .int k tk] }) :: news) (fun _ _ => False) := fun k h h0 => by
    subst h0
    exact Ex.ret (Ev.tup (Er.E (Ep.name rfl) (Er.E (Ep.name rfl) (Er.nil ⟨Nat.le_of_ble_eq_true rfl, fun D hD => ⟨D, p, ln, tp, tn, hO _ 0 h, hp, rfl, hD, rfl⟩⟩))))
  cases hd : r.drop p with
  | nil =>
    have hlt : ¬ p < r.length := fun h => by have := congrArg List.length hd; simp only [List.length_drop, List.length_nil] at this; omega
    refine (Tp.L (TL.andF (Tp.cast (Tp.cmp (Ep.nameI rfl) (Ep.len (Ep.nameS rfl) (by rw [hl]; omega)) Co.ltI) (decide_eq_false (by rw [hl]; omega))))).go (ite_ff (fin 0 (by rw [hd]; exact .nil) rfl))
  | cons d s =>
    have hlt : p + 1 ≤ r.length := by have := congrArg List.length hd; simp only [List.length_drop, List.length_cons] at this; omega
    refine (Tp.L (TL.andT (Tp.cast (Tp.cmp (Ep.nameI rfl) (Ep.len (Ep.nameS rfl) (by rw [hl]; omega)) Co.ltI) (decide_eq_true (by rw [hl]; omega))) (TL.and1 (Tp.cmp (Ep.item (Ep.nameS rfl) (Ep.nameI rfl) hd (by omega)) Ep.str co_gap)))).go ?_
    cases hG : isG d with
    | false =>
      simp only [isG, Bool.or_eq_false_iff, beq_eq_false_iff_ne] at hG
      exact ite_ff (fin 0 (by rw [hd]; exact .stop hG.1 hG.2) rfl)
    | true =>
      refine ite_tt (Ex.aug (V := IsI (if isN d = true then 1 else 0)) rfl (Ep.ife (Tp.cmp (Ep.item (Ep.nameS rfl) (Ep.nameI rfl) hd (by omega)) Ep.str co_nlh) (fun h => by rw [if_pos h]; exact Ep.int) (fun h => by rw [if_neg (by rw [h]; decide)]; exact Ep.int)) (fun v hv => Io.addI v hv) ?_)
      rintro _ ⟨u1, rfl⟩
      have hbl : p ≤ r.length ∧ r.length < 10000 := ⟨by omega, hp2⟩
      refine Ex.asI (i := ((if d = 35 then r.length - (aft (r.drop p)).length else p + 1 : Nat) : Int)) (Ep.ife (Tp.cmp (Ep.item (Ep.nameS rfl) (Ep.nameI rfl) hd (by omega)) Ep.str (Co.eq1 (d := 35) (by decide +kernel))) (fun h => by rw [if_pos (of_decide_eq_true h)]; exact Ep.bl (Ep.nameS rfl) (Ep.nameI rfl) hbl (by omega) (by omega)) (fun h => by rw [if_neg (of_decide_eq_false h)]; exact Ep.bin (Ep.nameI rfl) Ep.int Bo.addI)) (fun u2 => ?_)
      refine Ex.nil ⟨⟨if d = 35 then r.length - (aft (r.drop p)).length else p + 1, ln + (if isN d = true then 1 else 0), u2, u1⟩, ⟨?_, fun o k h => ?_⟩, ?_, List.forall_mem_cons.mpr ⟨rfl, List.forall_mem_cons.mpr ⟨rfl, List.forall_mem_cons.mpr ⟨?_, List.forall_mem_nil _⟩⟩⟩, fun q hq => hq⟩
      · dsimp only; split <;> omega
      · dsimp only at h ⊢
        have hOd := hO
        rw [hd] at hOd
        by_cases h35 : d = 35
        · subst h35
          rw [if_pos rfl] at h
          rw [drop_aft (r := r) (p := p), hd, aft_cons, if_neg (by decide)] at h
          rw [if_pos (by decide), show ln + 1 + k = ln + (k + 1) by omega]
          exact hOd _ _ (.hash h)
        · rw [if_neg h35, drop_succ hd] at h
          cases hN : isN d with
          | true =>
            have h10 := isN_10 hN h35
            subst h10
            rw [if_pos rfl, show ln + 1 + k = ln + (k + 1) by omega]
            exact hOd _ _ (.nl h)
          | false =>
            rw [if_neg (by decide)]
            refine hOd _ _ (.wh (by simpa [isG, h35] using hG) ?_ h)
            rintro rfl; revert hN; decide
      · dsimp only
        have h7 := aft_le_cons hd
        split <;> omega
      · have hcast : ((ln + (if isN d = true then 1 else 0) : Nat) : Int) = (ln : Int) + (if isN d = true then 1 else 0) := by split <;> rfl
        dsimp only
        rw [hcast]
        rfl
end Mine

end
section
open Mine
theorem Mine.pre_Qu : PySem.Challenge.rw_in0151_01 = PySem.Challenge.rw_in0151_01 ∧ Mine.KK = Mine.KK := by
  k_with "call builtin:str.split" => ((with_reducible rename Fr _ _ _ _ => F'z); (with_reducible rename News _ _ _ _ => N'z); (refine Mine.split_at F'z N'z (Nat.succ_pos _) (by decide +kernel) (by omega) ?_); intro _ _ _ _ _ _ _ _ _ _)
  k_with "call builtin:str.replace" => (refine Mine.replace_at (by assumption) (by assumption) (by assumption) (by assumption) (by decide +kernel) (by decide +kernel) ?_; intro _ _)
  k_with "call builtin:str.join" => refine Mine.Halt.out ?_
  exact ⟨rfl, rfl⟩
namespace Mine
noncomputable abbrev tupO (vs : List Value) : Obj := { cls := .type "tuple", data := .seq vs.toArray }
noncomputable def Body (q : Nat) (b u : List Nat) : Prop := (q = 34 ∧ Uc b u) ∨ (q = 39 ∧ u = b ∧ 39 ∉ b)
theorem Body.chr {q c : Nat} {b u : List Nat} (h : Body q b u) (h1 : c ≠ q) (h2 : q = 34 → c ≠ 92) : Body q (b ++ [c]) (u ++ [c]) := by
  rcases h with ⟨rfl, h⟩ | ⟨rfl, rfl, h⟩
  · exact .inl ⟨rfl, h.snoc_chr h1 (h2 rfl)⟩
  · refine .inr ⟨rfl, rfl, fun hm => ?_⟩
    rcases List.mem_append.mp hm with hm | hm
    · exact h hm
    · exact h1 (List.mem_singleton.mp hm).symm
theorem Body.le {q pl p' : Nat} {b u r : List Nat} (h : Body q b u) (hd : r.drop (pl + 1) = b ++ q :: r.drop p') (hp : p' ≤ r.length) (hp2 : pl < p') : u.length ≤ p' - pl := by
  have hl := congrArg List.length hd
  simp only [List.length_drop, List.length_append, List.length_cons] at hl
  have : u.length ≤ b.length := by
    rcases h with ⟨_, h⟩ | ⟨_, rfl, _⟩
    · exact h.le
    · exact Nat.le_refl _
  omega
theorem Body.un34 {b u : List Nat} (h : Body 34 b u) : unesc b = u := by
  rcases h with ⟨_, h9⟩ | ⟨h9, _⟩
  · exact h9.unesc
  · omega
theorem Body.un39 {b u : List Nat} (h : Body 39 b u) : u = b := by
  rcases h with ⟨h9, _⟩ | ⟨_, h9, _⟩
  · omega
  · exact h9
theorem sub_one {a b : Addr × Obj} {l : List (Addr × Obj)} : ∀ p ∈ a :: l, p ∈ a :: b :: l := fun p h => by
  rcases List.mem_cons.mp h with rfl | h
  · simp
  · simp [h]
noncomputable def QuI (r : List Nat) (pl q k : Nat) : Prop := ∃ b u, Body q b u ∧ ((k = pl + 1 + b.length ∧ r.drop (pl + 1) = b ++ r.drop k ∧ k ≤ r.length) ∨ (q = 34 ∧ k = r.length + 1 ∧ r.drop (pl + 1) = b ++ [92]))
theorem QuI.one {r s' : List Nat} {pl q k c : Nat} (h : QuI r pl q k) (hd : r.drop k = c :: s' ∧ k + 1 ≤ r.length) (h1 : c ≠ q) (h2 : q = 34 → c ≠ 92) : QuI r pl q (k + 1) := by
  obtain ⟨b, u, hb, ⟨e1, e2, e3⟩ | ⟨_, e, _⟩⟩ := h
  · refine ⟨b ++ [c], u ++ [c], hb.chr h1 h2, .inl ⟨by simp; omega, ?_, hd.2⟩⟩
    rw [e2, hd.1, drop_succ hd.1]; simp
  · omega
theorem QuI.two {r s' : List Nat} {pl k : Nat} (h : QuI r pl 34 k) (hd : r.drop k = 92 :: s' ∧ k + 1 ≤ r.length) : QuI r pl 34 (k + 2) := by
  obtain ⟨b, u, hb, ⟨e1, e2, e3⟩ | ⟨_, e, _⟩⟩ := h
  · have hs := drop_succ hd.1
    have hu : Uc b u := by
      rcases hb with ⟨_, h⟩ | ⟨h, _⟩
      · exact h
      · omega
    rcases s' with _ | ⟨c, s''⟩
    · have hl := congrArg List.length hd.1
      simp at hl
      exact ⟨b, u, hb, .inr ⟨rfl, by omega, by rw [e2, hd.1]⟩⟩
    · have hl := congrArg List.length hd.1
      simp at hl
      refine ⟨b ++ [92, c], _, .inl ⟨rfl, hu.snoc_esc⟩, .inl ⟨by simp; omega, ?_, by omega⟩⟩
      rw [e2, hd.1]
      have : r.drop (k + 2) = s'' := by rw [show k + 2 = (k + 1) + 1 from rfl, drop_succ hs]
      rw [this]; simp
  · omega
theorem QuI.noEsc {r : List Nat} {pl q k : Nat} (h : QuI r pl q k) (hk : r.length < k) : ∃ b u, Body q b u ∧ q = 34 ∧ r.drop (pl + 1) = b ++ [92] := by
  obtain ⟨b, u, hb, ⟨e1, e2, e3⟩ | ⟨e1, e2, e3⟩⟩ := h
  · omega
  · exact ⟨b, u, hb, e1, e3⟩
theorem QuI.noEnd {r : List Nat} {pl q k : Nat} (h : QuI r pl q k) (hk : k = r.length) : ∃ b u, Body q b u ∧ r.drop (pl + 1) = b := by
  obtain ⟨b, u, hb, ⟨e1, e2, e3⟩ | ⟨e1, e2, e3⟩⟩ := h
  · refine ⟨b, u, hb, ?_⟩
    rw [e2, List.drop_eq_nil_of_le (by omega), List.append_nil]
  · omega
theorem QuI.closed {r : List Nat} {pl q k : Nat} (h : QuI r pl q k) (hk : k < r.length) (hs : ∃ s', r.drop k = q :: s') :
    ∃ b u, Body q b u ∧ r.drop (pl + 1) = b ++ q :: r.drop (k + 1) ∧ pl < k + 1 ∧ Txt.slice (T r) (some ((pl : Int) + 1)) (some (k : Int)) = T b := by
  obtain ⟨b, u, hb, ⟨e1, e2, e3⟩ | ⟨e1, e2, e3⟩⟩ := h
  · obtain ⟨s', hs⟩ := hs
    refine ⟨b, u, hb, ?_, by omega, ?_⟩
    · rw [e2, hs, drop_succ hs]
    · have := slice_T r (pl + 1) k (by omega) (by omega)
      rw [show ((pl + 1 : Nat) : Int) = (pl : Int) + 1 from rfl] at this
      rw [this, e2, show k - (pl + 1) = b.length by omega, List.take_left]
  · omega
structure QC where
  k : Nat
  tk : Tok
inductive QuV (r : List Nat) (pl q : Nat) (news : List (Addr × Obj)) (v : Value) (n' : List (Addr × Obj)) : Prop
  | ok (D : Addr) (b u : List Nat) (p' : Nat) (tu tp : Tok) : Body q b u → r.drop (pl + 1) = b ++ q :: r.drop p' → p' ≤ r.length → pl < p' → u.length ≤ p' - pl → v = .ref D → (∀ x ∈ news, x.1 < D) → n' = (D, tupO [.str (T u) tu, .int p' tp]) :: news → QuV r pl q news v n'
  | bad (D d : Addr) (k : Bool) (b u : List Nat) (tr tm tp : Tok) : Body q b u → (k = true → q = 34 ∧ r.drop (pl + 1) = b ++ [92]) → (k = false → r.drop (pl + 1) = b) → v = .ref D → (∀ x ∈ news, x.1 < d) → @LT.lt Nat _ d D →
      n' = (D, tupO [.ref d, .int r.length tp]) :: (d, tupO [.str (Str.ofString "refused") tr, .str (Str.ofString (if k then "No escaped character" else "No closing quotation")) tm]) :: news → QuV r pl q news v n'
theorem AllLt.and {D : Addr} {a : Prop} {l : List (Addr × Obj)} (h : a ∧ AllLt D l) : ∀ p ∈ l, p.1 < D := kst_ltOf h.2
theorem AllLt.mem {D : Addr} : ∀ {l : List (Addr × Obj)}, AllLt D l → ∀ p ∈ l, p.1 < D := fun h => kst_ltOf h
noncomputable def quJ : Expr := match nth (fb o792.1) 5 with
  | .If _ (.Assign _ e _ :: _) _ _ => e
  | _ => .Constant .none 0 default
theorem qu_join {w : World} {p : Program} {loose : List Str} {mean : ExcName → Option Value} {mg mb : Str → Option Value} {dp un : Nat} {gd : Option (List Code)} {outer : List Env} {A₀ : Around} {base G : Heap} {L : Addr} {mm : Str → Option Value} {s : Shared} {Q E : Value → Shared → Prop} {news : Led} {b : List Nat} {t : Tok}
    (B : Below A₀ base outer G) (F : Fr G L s.heap (fun y => if y = Str.ofString "body" then some (.str (T b) t) else mm y)) (X : (Mine.KK w.params).In G) (N : News G L s.heap news) (T' : Top p loose mean mg mb G) (hd1 : dp + 1 < recursionLimit) (hd2 : un + 40 < cLine) (hb : b.length < 10000)
    (h : ∀ t' h' k', Fr G L h' (fun y => if y = Str.ofString "body" then some (.str (T b) t) else mm y) → News G L h' news → Q (.str (T (unesc b)) t') { s with heap := h', toks := k' }) :
    wpAny (model PySem.Challenge.pw_in0151_01 w) (ktrTop dp un gd (Str.ofString "_law_quoted") (fnO o792.1 792).cs L 792 (.ref 791) [] outer) (eval quJ (envX (Str.ofString "_law_quoted") (fnO o792.1 792).cs L 792 (.ref 791) [])) Q E s := by
  have hTl := T_len b
  dsimp only [quJ, fnO, fb, nth, o792]
  k_steps
  unfold Halt
  refine join_q (b := b) (by assumption) (by assumption) (by assumption) (by omega) fun t' k' => ?_
  exact h t' _ k' (by assumption) (News.sub (by assumption) fun _ h => .tail _ h)
theorem Ep.quJ {x : Fx} {m : Loc} {n : Led} {b : List Nat} {t : Tok} (hcl : x.cl = []) (h5 : 2 ≤ x.c) (h6 : 41 ≤ x.u) (hb : b.length < 10000) (hm : look m (Str.ofString "body") = some (.str (T b) t)) : Ep x (fnO o792.1 792) m n quJ (IsS (T (unesc b))) := Tr.mk fun s Q E ok st q ee po => by
  obtain ⟨⟨mm, F, km⟩, N⟩ := st
  have e : mm = fun y => if y = Str.ofString "body" then some (.str (T b) t) else mm y := by
    funext y
    split
    · next h => rw [h]; exact km _ _ hm
    · rfl
  have h1 := ok.hd
  have h2 := ok.hu
  have := qu_join (w := x.w) (dp := x.dp) (un := x.un) (gd := x.gd) (Q := Q) (E := E) ok.B (e ▸ F) ok.X N ok.T (by omega) (by omega) hb (fun t' h' k' F' N' => q _ m n h' k' ⟨⟨t', rfl⟩, rfl, rfl⟩ ⟨⟨mm, e.symm ▸ F', km⟩, N'⟩)
  show wpAny _ (ktrTop x.dp x.un x.gd _ _ x.L 792 _ x.cl x.outer) (eval Mine.quJ (envX _ _ x.L 792 _ x.cl)) Q E s
  rw [hcl]
  exact this
theorem Co.ne1 {c d : Nat} : Cop .NotEq (IsS (T [c])) (IsS (T [d])) (!decide (c = d)) := by rintro w A E s Q _ _ ⟨t, rfl⟩ ⟨t', rfl⟩ q; exact Cop.nedd _ _ _ s _ _ _ rfl rfl q
theorem qu_spec {w : World} (news : List (Addr × Obj)) (r : List Nat) (pl q0 : Nat) (rest : List Nat) (t1 t2 : Tok) (hq : r.drop pl = q0 :: rest) (hq0 : q0 = 34 ∨ q0 = 39) :
  Con 2 w 792 news (r.length < 10000) [.str (T r) t1, .int pl t2] (fun v n' => QuV r pl q0 news v n') (fun _ _ => False) := by
  refine' Con.of (binds := [(Str.ofString "row", .str (T r) t1), (Str.ofString "place", .int pl t2)]) ?a ?b ?c ?d ?e ?h ?i ?j ?k ?l
  case a => k_is
  case b => k_is
  case c => exact fun s X => BindsTo.of_eq rfl
  case d => exact locs rfl
  case e => decide
  case i => exact rfl
  case j => exact rfl
  case k => exact rfl
  case l => decide
  intro hp2 x hw hc hu hcl
  show Ex x (fnO o792.1 792) _ _ (fb o792.1) _ _
  have hl : (T r).length = r.length := T_len r
  have hlt : pl + 1 ≤ r.length := by have := congrArg List.length hq; simp only [List.length_drop, List.length_cons] at this; omega
  have h0 : QuI r pl q0 (pl + 1) := ⟨[], [], by rcases hq0 with h | h; exact .inl ⟨h, .nil⟩; exact .inr ⟨h, rfl, nofun⟩, .inl ⟨rfl, rfl, hlt⟩⟩
  refine Ex.asI (Ep.bin (Ep.nameI rfl) Ep.int Bo.addI) fun u0 => ?_
  refine Ex.whl (fun c : QC => [(Str.ofString "row", .str (T r) t1), (Str.ofString "place", .int pl t2), (Str.ofString "closing", .int c.k c.tk)]) (fun _ => news) (fun c => pl + 1 ≤ c.k ∧ c.k ≤ r.length + 1 ∧ QuI r pl q0 c.k) (fun c => r.length + 1 - c.k) ⟨pl + 1, u0⟩
    (List.forall_mem_cons.mpr ⟨rfl, List.forall_mem_cons.mpr ⟨rfl, List.forall_mem_cons.mpr ⟨rfl, List.forall_mem_nil _⟩⟩⟩) (fun q hq => hq) ⟨Nat.le_refl _, by dsimp only; omega, h0⟩ ?_
  clear h0
  rintro ⟨k, tk⟩ ⟨hP1, hP2, hI⟩
  dsimp only at hP1 hP2 hI ⊢
  by_cases hk : k < r.length
  case neg =>
    refine (Tp.L (TL.andF (Tp.cast (Tp.cmp (Ep.nameI rfl) (Ep.len (Ep.nameS rfl) (by rw [hl]; omega)) Co.ltI) (decide_eq_false (by rw [hl]; omega))))).go (ite_ff ?_)
    by_cases he : r.length < k
    · obtain ⟨b, u, hb, hb2, hb3⟩ := hI.noEsc he
      refine Ex.ifT (Tp.cast (Tp.cmp (Ep.nameI rfl) (Ep.len (Ep.nameS rfl) (by rw [hl]; omega)) Co.gtI) (decide_eq_true (by rw [hl]; omega))) ?_
      exact Ex.ret (Ev.tup (Er.cons (Ev.tup (Er.S Ep.str fun a1 => Er.S Ep.str fun a2 => Er.nil ⟨Nat.le_of_ble_eq_true rfl, fun d hd => Er.I (Ep.len (Ep.nameS rfl) (by rw [hl]; omega)) fun a3 => Er.nil ⟨Nat.le_of_ble_eq_true rfl, fun D hD => .bad D d true b u a1 a2 a3 hb (fun _ => ⟨hb2, hb3⟩) (fun h => nomatch h) rfl hd (hD _ (.head _)) (by rw [hl]; rfl)⟩⟩))))
    · obtain ⟨b, u, hb, hb2⟩ := hI.noEnd (by omega)
      refine Ex.ifF (Tp.cast (Tp.cmp (Ep.nameI rfl) (Ep.len (Ep.nameS rfl) (by rw [hl]; omega)) Co.gtI) (decide_eq_false (by rw [hl]; omega))) ?_
      refine Ex.ifT (Tp.cast (Tp.cmp (Ep.nameI rfl) (Ep.len (Ep.nameS rfl) (by rw [hl]; omega)) Co.eqI) (beq_iff_eq.mpr (by rw [hl]; omega))) ?_
      exact Ex.ret (Ev.tup (Er.cons (Ev.tup (Er.S Ep.str fun a1 => Er.S Ep.str fun a2 => Er.nil ⟨Nat.le_of_ble_eq_true rfl, fun d hd => Er.I (Ep.len (Ep.nameS rfl) (by rw [hl]; omega)) fun a3 => Er.nil ⟨Nat.le_of_ble_eq_true rfl, fun D hD => .bad D d false b u a1 a2 a3 hb (fun h => nomatch h) (fun _ => hb2) rfl hd (hD _ (.head _)) (by rw [hl]; rfl)⟩⟩))))
  obtain ⟨c, s', hd⟩ : ∃ c s, r.drop k = c :: s := ⟨_, _, List.drop_eq_getElem_cons hk⟩
  have hdd : r.drop k = c :: s' ∧ k + 1 ≤ r.length := ⟨hd, hk⟩
  refine (Tp.L (TL.andT (Tp.cast (Tp.cmp (Ep.nameI rfl) (Ep.len (Ep.nameS rfl) (by rw [hl]; omega)) Co.ltI) (decide_eq_true (by rw [hl]; omega))) (TL.and1 (Tp.cmp (Ep.item (Ep.nameS rfl) (Ep.nameI rfl) hd (by omega)) (Ep.item (Ep.nameS rfl) (Ep.nameI rfl) hq (by omega)) Co.ne1)))).go ?_
  by_cases hcq : c = q0
  case neg =>
    rw [decide_eq_false hcq]
    refine ite_tt (Ex.aug (V := IsI (if q0 = 34 ∧ c = 92 then 2 else 1)) rfl (Ep.ife (Tp.L (TL.andB (Tp.cmp (Ep.item (Ep.nameS rfl) (Ep.nameI rfl) hq (by omega)) Ep.str (Co.eq1 (d := 34) (by decide +kernel))) (TL.and1 (Tp.cmp (Ep.item (Ep.nameS rfl) (Ep.nameI rfl) hd (by omega)) Ep.str (Co.eq1 (d := 92) (by decide +kernel)))))) (fun h => by rw [if_pos (by simpa using h)]; exact Ep.int) (fun h => by rw [if_neg (by simpa using h)]; exact Ep.int)) (fun v hv => Io.addI v hv) ?_)
    rintro _ ⟨u1, rfl⟩
    by_cases h2 : q0 = 34 ∧ c = 92
    · rw [if_pos h2]
      obtain ⟨rfl, rfl⟩ := h2
      exact Ex.nil ⟨⟨k + 2, u1⟩, ⟨by dsimp only; omega, by dsimp only; omega, hI.two hdd⟩, by dsimp only; omega, List.forall_mem_cons.mpr ⟨rfl, List.forall_mem_cons.mpr ⟨rfl, List.forall_mem_cons.mpr ⟨rfl, List.forall_mem_nil _⟩⟩⟩, fun q hq => hq⟩
    · rw [if_neg h2]
      exact Ex.nil ⟨⟨k + 1, u1⟩, ⟨by dsimp only; omega, by dsimp only; omega, hI.one hdd hcq (fun h h' => h2 ⟨h, h'⟩)⟩, by dsimp only; omega, List.forall_mem_cons.mpr ⟨rfl, List.forall_mem_cons.mpr ⟨rfl, List.forall_mem_cons.mpr ⟨rfl, List.forall_mem_nil _⟩⟩⟩, fun q hq => hq⟩
  rw [decide_eq_true hcq]
  subst hcq
  refine ite_ff ?_
  obtain ⟨b, u, hb, hb2, hb3, hb4⟩ := hI.closed hk ⟨s', hd⟩
  have hbl : b.length < 10000 := by have := congrArg List.length hb2; simp only [List.length_drop, List.length_append, List.length_cons] at this; omega
  refine Ex.ifF (Tp.cast (Tp.cmp (Ep.nameI rfl) (Ep.len (Ep.nameS rfl) (by rw [hl]; omega)) Co.gtI) (decide_eq_false (by rw [hl]; omega))) ?_
  refine Ex.ifF (Tp.cast (Tp.cmp (Ep.nameI rfl) (Ep.len (Ep.nameS rfl) (by rw [hl]; omega)) Co.eqI) (beq_eq_false_iff_ne.mpr (by rw [hl]; omega))) ?_
  refine Ex.asS (z := T b) (by rw [← hb4]; exact Ep.slSS (Ep.nameS rfl) (Ep.bin (Ep.nameI rfl) Ep.int Bo.addI) (Ep.nameI rfl) (by rw [hl]; omega)) fun u2 => ?_
  have hlast : ∀ (m : Loc) (u : List Nat) (tu : Tok), look m (Str.ofString "body") = some (.str (T u) tu) → look m (Str.ofString "closing") = some (.int k tk) → Body c b u → Ex x (fnO o792.1 792) m news ((fb o792.1).drop 6) (fun fl _ n' => QuV r pl c news (retv fl) n') (fun _ _ => False) := fun m u tu m1 m2 hb =>
    Ex.ret (Ev.tup (Er.E (Ep.name m1) (Er.I (Ep.bin (Ep.nameI m2) Ep.int Bo.addI) fun a1 => Er.nil ⟨Nat.le_of_ble_eq_true rfl, fun D hD => .ok D b u (k + 1) tu a1 hb hb2 hk hb3 (hb.le hb2 hk hb3) rfl hD rfl⟩)))
  refine Ex.iff (Tp.cmp (Ep.item (Ep.nameS rfl) (Ep.nameI rfl) hq (by omega)) Ep.str (Co.eq1 (d := 34) (by decide +kernel))) (fun h => ?_) (fun h => ?_)
  · have h := of_decide_eq_true h
    subst h
    refine Ex.asS (z := T (unesc b)) (Ep.quJ hcl (by omega) (by omega) hbl rfl) fun u3 => ?_
    exact hlast _ _ _ rfl rfl (by rw [hb.un34]; exact hb)
  · have h := of_decide_eq_false h
    rcases hq0 with h' | rfl
    · exact absurd h' h
    · exact hlast _ _ _ rfl rfl (by have e := hb.un39; subst e; exact hb)
end Mine

end
section
open Mine
namespace Mine
theorem min_cast (i n : Nat) : max (0 : Int) (min (i : Int) (n : Int)) = max 0 (min ((min i n : Nat) : Int) (n : Int)) := by omega
theorem slice_any (r : List Nat) (i j : Nat) (h : i ≤ j) : Txt.slice (T r) (some (i : Int)) (some (j : Int)) = T ((r.drop i).take (j - i)) := by
  have hT := T_len r
  have e : Txt.slice (T r) (some (i : Int)) (some (j : Int)) = Txt.slice (T r) (some ((min i r.length : Nat) : Int)) (some ((min j r.length : Nat) : Int)) := by
    unfold Txt.slice Builtin.Str.strSliceIndices
    rw [hT]
    simp only [show (1 : Int) > 0 by decide, if_true, show ∀ n : Nat, ¬ ((n : Int) < 0) from fun n => Int.not_lt.mpr (Int.natCast_nonneg n), if_false]
    have a : ∀ i : Nat, max (0 : Int) (min (i : Int) (r.length : Int)) = max 0 (min ((min i r.length : Nat) : Int) (r.length : Int)) := fun i => min_cast i r.length
    rw [a i, a j]
  rw [e, slice_T r _ _ (Nat.le_min.mpr ⟨Nat.le_trans (Nat.min_le_left _ _) h, Nat.min_le_right _ _⟩) (Nat.min_le_right _ _)]
  congr 1
  by_cases hi : i ≤ r.length
  · rw [Nat.min_eq_left hi]
    by_cases hj : j ≤ r.length
    · rw [Nat.min_eq_left hj]
    · rw [Nat.min_eq_right (Nat.le_of_not_le hj), List.take_of_length_le (by rw [List.length_drop]; exact Nat.le_refl _), List.take_of_length_le (by rw [List.length_drop]; exact Nat.sub_le_sub_right (Nat.le_of_not_le hj) i)]
  · rw [Nat.min_eq_right (Nat.le_of_not_le hi), List.drop_eq_nil_of_le (Nat.le_refl _), List.drop_eq_nil_of_le (Nat.le_of_not_le hi)]
    simp
theorem count_T (l : List Nat) : Txt.count (T l) (Str.ofString "\n") = (nls l : Int) := by
  have e : Str.ofString "\n" = T [10] := by decide +kernel
  rw [e]
  show Txt.count (T l) ⟨#[10]⟩ = _
  rw [count_cnt]
  have : (T l).cps.toList = l := by simp
  rw [this]
  unfold nls
  induction l with
  | nil => rfl
  | cons c l ih =>
    have h1 : ∀ c l, cnt 10 (c :: l) = (if c = 10 then 1 else 0) + cnt 10 l := by
      intro c l
      show (if Spec.same (PyData.str ⟨#[c]⟩) (PyData.str ⟨#[10]⟩) = true then 1 else 0) + cnt 10 l = _
      have : Spec.same (PyData.str ⟨#[c]⟩) (PyData.str ⟨#[10]⟩) = (c == 10) := by
        show ((⟨#[c]⟩ : Str) == ⟨#[10]⟩) = _
        rw [Bool.eq_iff_iff, beq_iff_eq, beq_iff_eq]
        constructor
        · intro h; injection h with h; simpa using h
        · rintro rfl; rfl
      rw [this]
      simp
    rw [h1, List.count_cons, ih (by simp)]
    by_cases hc : c = 10
    · subst hc; simp; omega
    · simp [hc]
theorem T_nil : Str.ofString "" = T [] := by decide +kernel
theorem drop_some {r : List Nat} {p : Nat} (h2 : (p : Int) ≠ ((T r).length : Int)) (h : p ≤ r.length) : ∃ c s', r.drop p = c :: s' ∧ p + 1 ≤ r.length := by
  rw [T_len] at h2
  have : p < r.length := by omega
  exact ⟨r[p], r.drop (p + 1), List.drop_eq_getElem_cons this, this⟩
theorem sign_256 {r s' : List Nat} {c pl : Nat} (h : r.drop pl = c :: s' ∧ pl + 1 ≤ r.length) (hr : ∀ x ∈ r, x < 256) : c < 256 :=
  hr c (List.mem_of_mem_drop (i := pl) (by rw [h.1]; simp))
theorem sign_small {r s' : List Nat} {c pl : Nat} (h : r.drop pl = c :: s' ∧ pl + 1 ≤ r.length) (hr : ∀ x ∈ r, x < 256) : c < 1114112 := by
  have : c ∈ r := List.mem_of_mem_drop (i := pl) (by rw [h.1]; simp)
  have := hr c this
  omega
section
variable {prog : Program} {w : World} {A : Around} {E : Value → Shared → Prop} {s : Shared} {t u : Tok} {c : Nat} {Q : Value → Shared → Prop} {h₀ : Heap} {L : Addr} {m : Str → Option Value} {news : List (Addr × Obj)} {value slice : PySem.Expr}
theorem in_qs_split (h1 : c = 34 → Q (.bool true) s) (h2 : c = 39 → Q (.bool true) s) (h3 : isQ c = false → Q (.bool false) s) : wpAny (model prog w) A (compareOp .In (.str (⟨[c].toArray⟩ : Str) u) (.str (Str.ofString "'\"") t)) Q E s := by
  refine in_qs ?_
  cases h : isQ c with
  | false => exact h3 h
  | true =>
    rcases isQ_cases h with rfl | rfl
    · exact h2 rfl
    · exact h1 rfl
noncomputable def isE (c : Nat) : Bool := isQ c || c == 92
theorem isE_big (c : Nat) (h : 256 ≤ c) : isE c = false := by unfold isE isQ; simp; omega
theorem notin_qe (h : Q (.bool (!isE c)) s) : wpAny (model prog w) A (compareOp .NotIn (.str (⟨[c].toArray⟩ : Str) u) (.str (Str.ofString "'\"\\") t)) Q E s := by
  refine P.notIn_str ?_
  have e := StrLaws.found_one (Str.ofString "'\"\\") c
  rw [small_mem _ isE (by decide +kernel) (by decide +kernel) isE_big c] at e
  show Q (.bool (!(!(Builtin.Str.occurrences (Str.ofString "'\"\\") ⟨#[c]⟩ 0 (Str.ofString "'\"\\").length 1).isEmpty))) s
  rw [e]
  exact h
theorem count_at {l : List Nat} (h : ∀ t' k, Q (.int (nls l : Int) t') { s with toks := k }) : wpAny (model prog w) A (call (.builtin "str.count") [.str (T l) t, .str (Str.ofString "\n") u]) Q E s :=
  SC.count (by rw [count_T]; exact h _ _)
theorem slice_at {r : List Nat} {i j : Nat} {ui uj : Tok} (hF : Fr h₀ L s.heap m) (hN : News h₀ L s.heap news) (hij : i ≤ j) (hr : r.length < 10000)
    (h : ∀ h' t' k, Fr h₀ L h' m → News h₀ L h' news → Q (.str (T ((r.drop i).take (j - i))) t') { s with heap := h', toks := k })
    (hs : subscripted slice false (.str (T r) t) (.ref s.heap.objs.size) = operate [.ref s.heap.objs.size, .str (T r) t] (getItem (.str (T r) t) (.ref s.heap.objs.size)) := by with_unfolding_all rfl)
    (ht : ∀ x, letTemporaryGo value (.str (T r) t) x = pure () := by intro _; with_unfolding_all rfl) :
    wpAny (model prog w) A (subscriptTail value slice (.str (T r) t) (.ref s.heap.objs.size)) Q E { s with heap := s.heap.push { cls := .type "slice", data := .fields #[.int (i : Nat) ui, .int (j : Nat) uj, .none] } } :=
  slice_strN_ss_len hF hN (fun h' t' k a b _ => by rw [slice_any r i j hij]; exact h h' t' k a b) hs ht (by rw [T_len, sizeLine_eq]; omega)
theorem slice_01 {r : List Nat} {i : Nat} {ui uj : Tok} (hF : Fr h₀ L s.heap m) (hN : News h₀ L s.heap news) (hr : r.length < 10000)
    (h : ∀ h' t' k, Fr h₀ L h' m → News h₀ L h' news → Q (.str (T ((r.drop i).take (i + 1 - i))) t') { s with heap := h', toks := k })
    (hs : subscripted slice false (.str (T r) t) (.ref s.heap.objs.size) = operate [.ref s.heap.objs.size, .str (T r) t] (getItem (.str (T r) t) (.ref s.heap.objs.size)) := by with_unfolding_all rfl)
    (ht : ∀ x, letTemporaryGo value (.str (T r) t) x = pure () := by intro _; with_unfolding_all rfl) :
    wpAny (model prog w) A (subscriptTail value slice (.str (T r) t) (.ref s.heap.objs.size)) Q E { s with heap := s.heap.push { cls := .type "slice", data := .fields #[.int (i : Int) ui, .int ((i : Int) + 1) uj, .none] } } :=
  slice_at (j := i + 1) hF hN (Nat.le_succ _) hr h hs ht
theorem slice_02 {r : List Nat} {i : Nat} {ui uj : Tok} (hF : Fr h₀ L s.heap m) (hN : News h₀ L s.heap news) (hr : r.length < 10000)
    (h : ∀ h' t' k, Fr h₀ L h' m → News h₀ L h' news → Q (.str (T ((r.drop i).take (i + 2 - i))) t') { s with heap := h', toks := k })
    (hs : subscripted slice false (.str (T r) t) (.ref s.heap.objs.size) = operate [.ref s.heap.objs.size, .str (T r) t] (getItem (.str (T r) t) (.ref s.heap.objs.size)) := by with_unfolding_all rfl)
    (ht : ∀ x, letTemporaryGo value (.str (T r) t) x = pure () := by intro _; with_unfolding_all rfl) :
    wpAny (model prog w) A (subscriptTail value slice (.str (T r) t) (.ref s.heap.objs.size)) Q E { s with heap := s.heap.push { cls := .type "slice", data := .fields #[.int (i : Int) ui, .int ((i : Int) + 2) uj, .none] } } :=
  slice_at (j := i + 2) hF hN (by omega) hr h hs ht
theorem slice_12 {r s' : List Nat} {i c : Nat} {ui uj : Tok} (hF : Fr h₀ L s.heap m) (hN : News h₀ L s.heap news) (hr : r.length < 10000) (hd : r.drop i = c :: s' ∧ i + 1 ≤ r.length)
    (h0 : ∀ h' t' k, r.drop i = [c] → Fr h₀ L h' m → News h₀ L h' news → Q (.str (T []) t') { s with heap := h', toks := k })
    (h1 : ∀ d s'' h' t' k, r.drop i = c :: d :: s'' → Fr h₀ L h' m → News h₀ L h' news → Q (.str (T [d]) t') { s with heap := h', toks := k })
    (hs : subscripted slice false (.str (T r) t) (.ref s.heap.objs.size) = operate [.ref s.heap.objs.size, .str (T r) t] (getItem (.str (T r) t) (.ref s.heap.objs.size)) := by with_unfolding_all rfl)
    (ht : ∀ x, letTemporaryGo value (.str (T r) t) x = pure () := by intro _; with_unfolding_all rfl) :
    wpAny (model prog w) A (subscriptTail value slice (.str (T r) t) (.ref s.heap.objs.size)) Q E { s with heap := s.heap.push { cls := .type "slice", data := .fields #[.int ((i : Int) + 1) ui, .int ((i : Int) + 2) uj, .none] } } := by
  refine slice_at (i := i + 1) (j := i + 2) hF hN (by omega) hr (fun h' t' k a b => ?_) hs ht
  rw [drop_succ hd.1, show i + 2 - (i + 1) = 1 by omega]
  cases s' with
  | nil => exact h0 h' t' k hd.1 a b
  | cons d s'' => exact h1 d s'' h' t' k hd.1 a b
theorem eq_nil (h : Q (.bool true) s) : wpAny (model prog w) A (compareOp .Eq (.str (⟨[].toArray⟩ : Str) u) (.str (Str.ofString "") t)) Q E s :=
  P.eq_str (by rw [show (Str.ofString "").cps.toList = [] by decide +kernel]; exact h)
theorem eq_one_nil (h : Q (.bool false) s) : wpAny (model prog w) A (compareOp .Eq (.str (⟨[c].toArray⟩ : Str) u) (.str (Str.ofString "") t)) Q E s :=
  P.eq_str (by rw [show (Str.ofString "").cps.toList = [] by decide +kernel]; exact h)
end
section
variable {M : Model} {A : Around} {E : Value → Shared → Prop} {s : Shared} {Q : Flow → Shared → Prop} {h₀ : Heap} {L : Addr} {m : Str → Option Value} {news : List (Addr × Obj)} {env : Env}
noncomputable def JoinAt (h₀ : Heap) (L : Addr) (m : Str → Option Value) (news : List (Addr × Obj)) (s : Shared) (J : Bool → Prop) (b : Bool) (s' : Shared) : Prop :=
  ∃ h' tk', s' = { s with heap := h', toks := tk' } ∧ Fr h₀ L h' m ∧ News h₀ L h' news ∧ J b
theorem if_join {test : PySem.Expr} {body orelse : List Stmt} {pos : Pos} (J : Bool → Prop) (_F : Fr h₀ L s.heap m) (_N : News h₀ L s.heap news)
    (h1 : wpAny M A (isTrue test env (eval test env)) (JoinAt h₀ L m news s J) E s)
    (h2 : J true → ∀ h' tk', Fr h₀ L h' m → News h₀ L h' news → wpAny M A (execs body env) Q E { s with heap := h', toks := tk' })
    (h3 : J false → ∀ h' tk', Fr h₀ L h' m → News h₀ L h' news → wpAny M A (execs orelse env) Q E { s with heap := h', toks := tk' }) : wpAny M A (exec (.If test body orelse pos) env) Q E s := by
  refine wpAny_If (wpAny_mono h1 (fun b s' ⟨h', tk', e, F', N', hJ⟩ => ?_) fun _ _ h => h)
  subst e
  cases b with
  | false => simpa using h3 hJ h' tk' F' N'
  | true => simpa using h2 hJ h' tk' F' N'
end
end Mine

end
section
open Mine
namespace Mine
theorem GapR.run {s o : List Nat} {k : Nat} (h : GapR s o k) : ∀ {line : Int} {O : Out}, Run o .ws [] (line + (k : Int)) false .sp O → Run s .ws [] line false .sp O := by
  induction h with
  | nil => intro line O h; simpa using h
  | stop _ _ => intro line O h; simpa using h
  | @nl s o k _ ih => intro line O h; exact .wsW rfl rfl (ih (by rw [show bump 10 line = line + 1 from rfl, show line + 1 + (k : Int) = line + ((k + 1 : Nat) : Int) by omega]; exact h))
  | wh a b _ ih => intro line O h; exact .wsW rfl a (ih (by rw [show bump _ line = line from if_neg b]; exact h))
  | @hash s o k _ ih => intro line O h; exact .wsC (ih (by rw [show line + 1 + (k : Int) = line + ((k + 1 : Nat) : Int) by omega]; exact h))
theorem GapR.last {s o : List Nat} {k : Nat} (h : GapR s o k) : o = [] ∨ ∃ c s', o = c :: s' ∧ isW c = false ∧ c ≠ 35 := by
  induction h with
  | nil => exact .inl rfl
  | stop a b => exact .inr ⟨_, _, rfl, a, b⟩
  | nl _ ih | wh _ _ _ ih | hash _ ih => exact ih
theorem GapR.sign {s o s' : List Nat} {k c : Nat} (h : GapR s o k) (e : o = c :: s') : isW c = false ∧ c ≠ 35 := by
  rcases h.last with h | ⟨_, _, h, a, b⟩
  · rw [e] at h; cases h
  · rw [e] at h; cases h; exact ⟨a, b⟩
theorem bool_or4 (x y : Bool) {a b : Bool} (h : a = true → b = true) (e : (x || a) = true) : (x || b) = true := by
  cases x with
  | true => rfl
  | false => exact h e
theorem isC_P {c : Nat} (h : isC c = true) : isP c = true := by
  unfold isC at h; unfold isP
  refine bool_or4 _ true (fun e => ?_) h
  obtain ⟨⟨⟨h1, _⟩, h2⟩, h3⟩ := (by simpa only [Bool.and_eq_true] using e : (((_ = true) ∧ _ = true) ∧ _ = true) ∧ _ = true)
  rw [h1, h2, h3]; rfl
theorem isP_C {c : Nat} (hc : c < 256) (h : isP c = true) : isC c = true := by
  unfold isP at h; unfold isC
  rw [decide_eq_true (Nat.le_of_lt_succ hc : c ≤ 255), Bool.and_true]
  exact h
theorem isW_cases {c : Nat} {P : Prop} (hw : isW c = true) (h : c = 32 ∨ c = 9 ∨ c = 13 ∨ c = 10 → P) : P := by
  unfold isW at hw
  simp only [Bool.or_eq_true, beq_iff_eq] at hw
  refine h ?_
  rcases hw with ((e | e) | e) | e
  · exact .inl e
  · exact .inr (.inl e)
  · exact .inr (.inr (.inl e))
  · exact .inr (.inr (.inr e))
theorem not_EC_W {c : Nat} (h : isE c = true ∨ isC c = true) (hw : isW c = true) : False :=
  isW_cases hw fun e => by rcases e with rfl | rfl | rfl | rfl <;> rcases h with h | h <;> revert h <;> decide
theorem notP_C {c : Nat} (h : isP c = false) : isC c = false := by
  cases e : isC c with
  | false => rfl
  | true => rw [isC_P e] at h; cases h
theorem not_EC_P {c : Nat} (h : isE c = true ∨ isC c = true) (hq : isQ c = false) (h2 : c ≠ 92) (hp : isP c = false) : False := by
  rcases h with h | h
  · unfold isE at h; rw [hq] at h; exact h2 (by simpa using h)
  · rw [isC_P h] at hp; cases hp
noncomputable def wdJ (s : List Nat) (st : St) (tok : List Nat) (line : Int) (q : Bool) (es : ES) (O : Out) : Prop := match st, s with
  | .wd, c :: s' => tok = [] → q = false → isW c = false → c ≠ 35 → (isE c = true ∨ isC c = true) → Run (c :: s') .ws [] line false es O
  | _, _ => True
theorem Run.invW {s : List Nat} {st : St} {tok : List Nat} {line : Int} {q : Bool} {es : ES} {O : Out} (h : Run s st tok line q es O) : wdJ s st tok line q es O := by
  apply Run.casesOn (motive := fun s st tok line q es O _ => wdJ s st tok line q es O) h
  case wdW => exact fun _ a _ _ h0 => absurd a (by rw [h0]; exact Bool.false_ne_true)
  case wdC => exact fun _ _ _ h1 => absurd rfl h1
  case wdQ => exact fun h e3 e4 _ _ _ => by subst e3 e4; exact .wsQ h
  case wdR => exact fun h e3 e4 _ _ _ => by subst e3 e4; exact .wsR h
  case wdE => exact fun h e3 e4 _ _ _ => by subst e3 e4; exact .wsE h
  case wdD => exact fun a h e3 e4 _ _ _ => by subst e3 e4; exact .wsD a h
  case wdP =>
    intro c s tok line q es a b d e f _ _ _ _ hc
    rcases hc with h | h
    · unfold isE at h; rw [f, d] at h; cases h
    · rw [h] at e; cases e
  all_goals intros; exact True.intro
theorem Run.enter {c : Nat} {s : List Nat} {line : Int} {es : ES} {O : Out} (hc : isE c = true ∨ isC c = true) (h : Run (c :: s) .wd [] line false es O) : Run (c :: s) .ws [] line false es O := by
  have h0 : isW c = false := by
    cases e : isW c with
    | false => rfl
    | true => exact (not_EC_W hc e).elim
  have h1 : c ≠ 35 := by rintro rfl; rcases hc with h | h <;> revert h <;> decide
  exact h.invW rfl rfl h0 h1 hc
theorem AllLt.and2 {D : Addr} {a b : Prop} {l : List (Addr × Obj)} (h : a ∧ b ∧ AllLt D l) : ∀ p ∈ l, p.1 < D := kst_ltOf h.2.2
theorem AllLt.and3 {D : Addr} {a b : Prop} {l : List (Addr × Obj)} (h : a ∧ b ∧ AllLt D l) : ∀ p ∈ l, p.1 < D := kst_ltOf h.2.2
noncomputable def WI (r : List Nat) (pl p : Nat) (tok : List Nat) (ln : Nat) (q : Bool) : Prop := ∀ (line : Int) (O : Out), Run (r.drop p) .wd tok (line + (ln : Int)) q .sp O → Run (r.drop pl) .ws [] line false .sp O
section
variable {r : List Nat} {pl p : Nat} {tok : List Nat} {ln : Nat} {q : Bool}
theorem WI.start {c : Nat} {s' : List Nat} (h : GapR (r.drop pl) (r.drop p) ln) (e : r.drop p = c :: s' ∧ p + 1 ≤ r.length) (hc : isE c = true ∨ isC c = true) : WI r pl p [] ln false :=
  fun _ _ x => h.run (by rw [e.1] at x ⊢; exact Run.enter hc x)
theorem WI.part {c : Nat} {s' : List Nat} (h : WI r pl p tok ln q) (e : r.drop p = c :: s' ∧ p + 1 ≤ r.length) (hc : isC c = true) : WI r pl (p + 1) (tok ++ [c]) (ln + nls ((r.drop p).take (p + 1 - p))) q := by
  intro line O x
  refine h line O ?_
  have e0 : nls ((r.drop p).take (p + 1 - p)) = 0 := by
    rw [e.1, show p + 1 - p = 1 by omega]
    have : c ≠ 10 := by rintro rfl; revert hc; decide
    simp [nls, this]
  rw [e0, drop_succ e.1] at x
  rw [e.1]
  exact .wdD hc x
theorem WI.esc {c : Nat} {s' : List Nat} (h : WI r pl p tok ln q) (e : r.drop p = 92 :: c :: s') : WI r pl (p + 2) (tok ++ [c]) (ln + nls ((r.drop p).take (p + 2 - p))) q := by
  intro line O x
  refine h line O ?_
  have e0 : (nls ((r.drop p).take (p + 2 - p)) : Int) = if c = 10 then 1 else 0 := by
    rw [e, show p + 2 - p = 2 by omega]
    by_cases hc : c = 10 <;> simp [nls, hc, List.count_cons]
  have e1 : r.drop (p + 2) = s' := by rw [show p + 2 = (p + 1) + 1 from rfl]; exact drop_succ (drop_succ e)
  rw [e1] at x
  rw [e]
  refine .wdE (.escC rfl (fun h => by cases h) ((x.es .wd (by simp)) |> fun y => ?_))
  have : line + ((ln + nls ((r.drop p).take (p + 2 - p)) : Nat) : Int) = bump c (line + (ln : Int)) := by
    rw [Int.natCast_add, e0]; unfold bump; split <;> omega
  rw [this] at y
  exact y
theorem WI.escEnd (h : WI r pl p tok ln q) (e : r.drop p = [92]) : ∀ line : Int, Run (r.drop pl) .ws [] line false .sp (.bad true .esc tok (line + ((ln + nls ((r.drop p).take (r.length - p)) : Nat) : Int))) := by
  intro line
  refine h line _ ?_
  have e0 : nls ((r.drop p).take (r.length - p)) = 0 := by
    rw [← List.length_drop, List.take_length, e]; rfl
  rw [e0, e]
  exact .wdE .esc0
theorem take_body {q0 : Nat} {b : List Nat} {p' : Nat} (e : r.drop p = q0 :: r.drop (p + 1)) (hd : r.drop (p + 1) = b ++ q0 :: r.drop p') (hp' : p' ≤ r.length) (hp : p + 1 ≤ r.length) : (r.drop p).take (p' - p) = q0 :: b ++ [q0] := by
  have hl := congrArg List.length hd
  simp only [List.length_drop, List.length_append, List.length_cons] at hl
  rw [e, hd, show p' - p = (q0 :: b ++ [q0]).length by simp; omega]
  rw [show q0 :: (b ++ q0 :: r.drop p') = (q0 :: b ++ [q0]) ++ r.drop p' by simp, List.take_left]
theorem nls_body (q0 : Nat) (b : List Nat) (h : q0 = 34 ∨ q0 = 39) : nls (q0 :: b ++ [q0]) = nls b := by
  rcases h with rfl | rfl <;> simp [nls, List.count_cons]
theorem WI.quo {q0 : Nat} {s' b u : List Nat} {p' : Nat} (h : WI r pl p tok ln q) (hq : q0 = 34 ∨ q0 = 39) (e : r.drop p = q0 :: s' ∧ p + 1 ≤ r.length) (hb : Body q0 b u) (hd : r.drop (p + 1) = b ++ q0 :: r.drop p') (hp' : p' ≤ r.length) :
    WI r pl p' (tok ++ u) (ln + nls ((r.drop p).take (p' - p))) true := by
  have e1 : r.drop p = q0 :: r.drop (p + 1) := by rw [e.1, drop_succ e.1]
  intro line O x
  refine h line O ?_
  rw [take_body e1 hd hp' e.2, nls_body q0 b hq, Int.natCast_add, ← Int.add_assoc] at x
  rw [e1, hd]
  rcases hb with ⟨rfl, hu⟩ | ⟨rfl, rfl, hn⟩
  · exact .wdR (hu.run fun q' es' => .dqE (x.es _ (by simp)))
  · exact .wdQ (sq_run hn fun q' => .sqE x)
theorem WI.quoBad {q0 : Nat} {s' b u : List Nat} {k : Bool} (h : WI r pl p tok ln q) (hq : q0 = 34 ∨ q0 = 39) (e : r.drop p = q0 :: s' ∧ p + 1 ≤ r.length) (hb : Body q0 b u) (h1 : k = true → q0 = 34 ∧ r.drop (p + 1) = b ++ [92]) (h2 : k = false → r.drop (p + 1) = b) :
    ∃ st tok', ∀ line : Int, Run (r.drop pl) .ws [] line false .sp (.bad k st tok' (line + ((ln + nls ((r.drop p).take (r.length - p)) : Nat) : Int))) := by
  have e1 : r.drop p = q0 :: r.drop (p + 1) := by rw [e.1, drop_succ e.1]
  have e2 : (r.drop p).take (r.length - p) = q0 :: r.drop (p + 1) := by rw [← e1, ← List.length_drop, List.take_length]
  have e3 : ∀ l, nls (q0 :: l) = nls l := fun l => by rcases hq with rfl | rfl <;> simp [nls, List.count_cons]
  cases k with
  | true =>
    obtain ⟨rfl, hd⟩ := h1 rfl
    rcases hb with ⟨_, hu⟩ | ⟨h9, _⟩
    · refine ⟨.esc, tok ++ u, fun line => h line _ ?_⟩
      have e4 : nls (b ++ [92]) = nls b := by simp [nls, List.count_cons]
      rw [e2, e3, hd, e4, Int.natCast_add, ← Int.add_assoc, e1, hd]
      exact .wdR (hu.run fun q' es' => .dqX .esc0)
    · omega
  | false =>
    have hd := h2 rfl
    rcases hb with ⟨rfl, hu⟩ | ⟨rfl, rfl, hn⟩
    · refine ⟨.dq, tok ++ u, fun line => h line _ ?_⟩
      rw [e2, e3, hd, Int.natCast_add, ← Int.add_assoc, e1, hd]
      have := hu.run (rest := []) (tok := tok) (line := line + (ln : Int)) (q := q) (es := .sp) (fun q' es' => Run.dq0)
      rw [List.append_nil] at this
      exact .wdR this
    · refine ⟨.sq, tok ++ u, fun line => h line _ ?_⟩
      subst hd
      rw [e2, e3, Int.natCast_add, ← Int.add_assoc, e1]
      have := sq_run (rest := []) (tok := tok) (line := line + (ln : Int)) (q := q) (es := .sp) hn (fun q' => Run.sq0)
      rw [List.append_nil] at this
      exact .wdQ this
theorem WI.fin (h : WI r pl p tok ln q) (e : r.length ≤ p) : ∀ line : Int, Run (r.drop pl) .ws [] line false .sp (.done (r.drop p) .fin tok (line + (ln : Int)) q []) := by
  intro line
  refine h line _ ?_
  rw [List.drop_eq_nil_of_le e]
  exact .wd0
theorem WI.hash {s' : List Nat} (h : WI r pl p tok ln q) (e : r.drop p = 35 :: s' ∧ p + 1 ≤ r.length) : ∀ line : Int, Run (r.drop pl) .ws [] line false .sp (.done (r.drop (r.length - (aft (r.drop p)).length)) .ws tok (line + ((ln + 1 : Nat) : Int)) q []) := by
  intro line
  refine h line _ ?_
  rw [drop_aft, e.1, aft_cons, if_neg (by decide), Int.natCast_add, ← Int.add_assoc]
  exact .wdC
theorem WI.white {c : Nat} {s' : List Nat} {k : Nat} (h : WI r pl p tok ln q) (e : r.drop p = c :: s' ∧ p + 1 ≤ r.length) (hw : isW c = true) (hk : k = if c = 10 then 1 else 0) : ∀ line : Int, Run (r.drop pl) .ws [] line false .sp (.done (r.drop (p + 1)) .ws tok (line + ((ln + k : Nat) : Int)) q []) := by
  intro line
  refine h line _ ?_
  rw [drop_succ e.1, e.1, Int.natCast_add, ← Int.add_assoc]
  exact .wdW (by rw [hk]; unfold bump; split <;> simp) hw
theorem WI.punct {c : Nat} {s' : List Nat} (h : WI r pl p tok ln q) (e : r.drop p = c :: s' ∧ p + 1 ≤ r.length) (hw : isW c = false) (h1 : c ≠ 35) (h2 : c ≠ 92) (h3 : isP c = false) (h4 : isQ c = false) :
    ∀ line : Int, Run (r.drop pl) .ws [] line false .sp (.done (r.drop (p + 1)) .ws tok (line + (ln : Int)) q [c]) := by
  intro line
  refine h line _ ?_
  rw [drop_succ e.1, e.1]
  exact .wdP hw (by simpa using h1) (by simpa using h2) (notP_C h3) h4
theorem gap_end (h : GapR (r.drop pl) (r.drop p) ln) (e : r.length ≤ p) : ∀ line : Int, Run (r.drop pl) .ws [] line false .sp (.done (r.drop p) .fin [] (line + (ln : Int)) false []) := by
  intro line
  refine h.run ?_
  rw [List.drop_eq_nil_of_le e]
  exact .ws0
theorem gap_punct {c : Nat} {s' : List Nat} (h : GapR (r.drop pl) (r.drop p) ln) (e : r.drop p = c :: s' ∧ p + 1 ≤ r.length) (h2 : isE c = false) (h3 : isP c = false) :
    ∀ line : Int, Run (r.drop pl) .ws [] line false .sp (.done (r.drop (p + 1)) .ws [c] (line + (ln : Int)) false []) := by
  intro line
  refine h.run ?_
  obtain ⟨a, b⟩ := h.sign e.1
  unfold isE at h2
  simp only [Bool.or_eq_false_iff] at h2
  rw [drop_succ e.1, e.1]
  exact .wsP a (by simpa using b) h2.2 (notP_C h3) h2.1
end
end Mine

end
section
open Mine
namespace Mine
theorem g_gap : ∀ Q, nsIn (Mine.KK Q) mainGlobals (Str.ofString "_law_behind_gap") = some (some (.ref 787)) := by intro Q; kernel_rfl
theorem k_gap : ∀ Q, keepIn (Mine.KK Q) (.ref 787) = true := by intro Q; kernel_rfl
theorem g_pw : ∀ Q, nsIn (Mine.KK Q) mainGlobals (Str.ofString "_law_part_of_word") = some (some (.ref 773)) := by intro Q; kernel_rfl
theorem k_pw : ∀ Q, keepIn (Mine.KK Q) (.ref 773) = true := by intro Q; kernel_rfl
theorem g_qu : ∀ Q, nsIn (Mine.KK Q) mainGlobals (Str.ofString "_law_quoted") = some (some (.ref 792)) := by intro Q; kernel_rfl
theorem k_qu : ∀ Q, keepIn (Mine.KK Q) (.ref 792) = true := by intro Q; kernel_rfl
theorem g_tuple : ∀ Q, nsIn (Mine.KK Q) mainGlobals (Str.ofString "tuple") = some none := by intro Q; kernel_rfl
theorem b_tuple : bootBuiltins (Str.ofString "tuple") = some (.type "tuple") := by boot_by_name
theorem g_isi : ∀ Q, nsIn (Mine.KK Q) mainGlobals (Str.ofString "isinstance") = some none := by intro Q; kernel_rfl
theorem b_isi : bootBuiltins (Str.ofString "isinstance") = some (.builtin "isinstance") := by boot_by_name
theorem kit_tuple : ∀ Q, kitOne (Mine.KK Q) (.type "tuple") (.type "tuple") = some true := by intro Q; kernel_rfl
section
variable {x : Fx} {f : Fn} {m : Loc} {n : Led}
theorem Ep.pw {p pos : Pos} {a : Expr} {c : Nat} (ha : Ep x f m n a (IsS (T [c]))) (hp : c < 1114112) (h5 : 5 ≤ x.c) (h6 : 40 ≤ x.u)
    (he : eval (.Call (.Name (Str.ofString "_law_part_of_word") p) [a] [] pos) (x.env f) = (do callWith pos (← eval (.Name (Str.ofString "_law_part_of_word") p) (x.env f)) [] (backTo pos (starEach [a] (x.env f))) (backToKw pos (keywordEach [] (x.env f)))) := by rfl)
    (hs : starEach [a] (x.env f) = (false, eval a (x.env f)) :: starEach [] (x.env f) := by rfl) (hx : (x.env f).kindOf (Str.ofString "_law_part_of_word") = some .globalImplicit := by rfl) : Ep x f m n (.Call (.Name (Str.ofString "_law_part_of_word") p) [a] [] pos) (· = .bool (isP c)) := by
  refine Ev.dcall g_pw k_pw (Er.S ha (fun t => Er.nil (Tr.con (lv := 1) (pw_spec n c t) hp (fun _ h => h) h5 h6 ?_ (fun _ _ z => z.elim))) hs) he hs rfl hx
  rintro v n' ⟨b, rfl, rfl, rfl⟩
  exact ⟨_, fun _ h => h, rfl, rfl, rfl⟩
theorem Ev.isi {p p2 pos : Pos} {y : Str} {yp : Pos} {v : Value} {b : Bool} (hv : look m y = some v) (hc : Tr x f m n (call (.builtin "isinstance") [v, .type "tuple"]) (fun r m' n' => r = .bool b ∧ m' = m ∧ n' = n) NoX)
    (he : eval (.Call (.Name (Str.ofString "isinstance") p) [.Name y yp, .Name (Str.ofString "tuple") p2] [] pos) (x.env f) = (do callWith pos (← eval (.Name (Str.ofString "isinstance") p) (x.env f)) [] (backTo pos (starEach [.Name y yp, .Name (Str.ofString "tuple") p2] (x.env f))) (backToKw pos (keywordEach [] (x.env f)))) := by rfl)
    (hx : (x.env f).kindOf y = some .local := by rfl) (hd : (y == ("__debug__" : Str)) = false := by decide) (hx2 : (x.env f).kindOf (Str.ofString "tuple") = some .globalImplicit := by rfl) (hx3 : (x.env f).kindOf (Str.ofString "isinstance") = some .globalImplicit := by rfl) :
    Ep x f m n (.Call (.Name (Str.ofString "isinstance") p) [.Name y yp, .Name (Str.ofString "tuple") p2] [] pos) (· = .bool b) :=
  Ev.callB g_isi b_isi (by decide) (Er.E (Ep.name hv hx hd) (Er.E (Ep.blt g_tuple b_tuple (by decide) hx2 (by decide)) (Er.nil hc))) he rfl rfl hx3
theorem Tr.isiS {z : Str} {t : Tok} : Tr x f m n (call (.builtin "isinstance") [.str z t, .type "tuple"]) (fun r m' n' => r = .bool false ∧ m' = m ∧ n' = n) NoX := Tr.fi (V := (· = .bool false)) (fun w A E s Q _ q => IsiPair.str_tuple (q _ _ rfl)) fun _ h => ⟨h, rfl, rfl⟩
theorem Tr.isiN : Tr x f m n (call (.builtin "isinstance") [.none, .type "tuple"]) (fun r m' n' => r = .bool false ∧ m' = m ∧ n' = n) NoX := Tr.fi (V := (· = .bool false)) (fun w A E s Q _ q => IsiPair.NoneType_tuple (q _ _ rfl)) fun _ h => ⟨h, rfl, rfl⟩
theorem Tr.isiT {d : Addr} {o : Obj} (hm : (d, o) ∈ n) (ho : o.cls = .type "tuple") : Tr x f m n (call (.builtin "isinstance") [.ref d, .type "tuple"]) (fun r m' n' => r = .bool true ∧ m' = m ∧ n' = n) NoX := Tr.mk fun s Q E ok st q _ _ => by
  obtain ⟨⟨mm, F, km⟩, N⟩ := st
  exact kia_one (kitx_tuple (K := Mine.KK x.w.params)) (ok.X.keeps F.keep) (kitAt_N N hm ho) (kit_tuple _) (by intro h; cases h) fun tk => q _ _ _ s.heap tk ⟨rfl, rfl, rfl⟩ ⟨⟨mm, F, km⟩, N⟩
theorem Co.nqe {c : Nat} : Cop .NotIn (IsS (T [c])) (IsS (Str.ofString "'\"\\")) (!isE c) := by rintro w A E s Q _ _ ⟨t, rfl⟩ ⟨t', rfl⟩ q; exact notin_qe (q s.toks)
theorem Co.inQ {c : Nat} : Cop .In (IsS (T [c])) (IsS (Str.ofString "'\"")) (isQ c) := by rintro w A E s Q _ _ ⟨t, rfl⟩ ⟨t', rfl⟩ q; exact in_qs (q s.toks)
theorem Co.inW {c : Nat} : Cop .In (IsS (T [c])) (IsS (Str.ofString " \t\r\n")) (isW c) := by rintro w A E s Q _ _ ⟨t, rfl⟩ ⟨t', rfl⟩ q; exact in_ws (q s.toks)
theorem Co.emp {l : List Nat} : Cop .Eq (IsS (T l)) (IsS (Str.ofString "")) l.isEmpty := Co.eqC (by
  rw [show (Str.ofString "").cps.toList = [] by decide +kernel]
  cases l <;> rfl)
theorem Ep.cnt {a lo up : Expr} {p p2 ap pos cp : Pos} {k : Nat} {r : List Nat} {i j : Nat} {pl : Sem Bool} (ha : Ep x f m n a (IsS (T r))) (hlo : Ep x f m n lo (IsI i)) (hup : Ep x f m n up (IsI j)) (hij : i ≤ j) (hr : r.length < 10000)
    (hs : ∀ t b, subscripted (.Slice (some lo) (some up) Option.none p) false (.str (T r) t) (.ref b) = operate [.ref b, .str (T r) t] (getItem (.str (T r) t) (.ref b)) := by intros; with_unfolding_all rfl)
    (ht : ∀ t r', letTemporaryGo a (.str (T r) t) r' = pure () := by intros; with_unfolding_all rfl)
    (he : eval (.Call (.Attribute (.Subscript a (.Slice (some lo) (some up) Option.none p) p2) (Str.ofString "count") ap) [.Constant (.str (Str.ofString "\n")) k cp] [] pos) (x.env f) = (do
      let ov ← eval (.Subscript a (.Slice (some lo) (some up) Option.none p) p2) (x.env f)
      standAt ap.atName
      let (fv, first) ← holding [ov] (getMethod ov (Str.ofString "count") pl)
      callWith pos fv first (backTo pos (starEach [.Constant (.str (Str.ofString "\n")) k cp] (x.env f))) []) := by rfl)
    (hs1 : starEach [.Constant (.str (Str.ofString "\n")) k cp] (x.env f) = (false, eval (.Constant (.str (Str.ofString "\n")) k cp) (x.env f)) :: starEach [] (x.env f) := by rfl) :
    Ep x f m n (.Call (.Attribute (.Subscript a (.Slice (some lo) (some up) Option.none p) p2) (Str.ofString "count") ap) [.Constant (.str (Str.ofString "\n")) k cp] [] pos) (IsI (nls ((r.drop i).take (j - i)))) := by
  have h := Ep.slSS (pos := p2) ha hlo hup (by rw [T_len]; omega) hs ht
  rw [slice_any r i j hij] at h
  exact Ev.methS h (fun _ => Fi.count) (fun t => Er.S Ep.str (fun t' => Er.nil (Tr.fi (V := IsI (nls ((r.drop i).take (j - i)))) (fun w A E s Q _ q => count_at fun t k => q _ _ ⟨t, rfl⟩) fun v h => ⟨h, rfl, rfl⟩)) hs1) he hs1 rfl
end
structure WC where
  pl : Nat
  tok : List Nat
  ln : Nat
  q : Bool
  tp : Tok
  tt : Tok
  tl : Tok
inductive WV (r : List Nat) (pl : Nat) (news : List (Addr × Obj)) (v : Value) (n' : List (Addr × Obj)) : Prop
  | word (D : Addr) (st : St) (tok : List Nat) (k : Nat) (q : Bool) (push : List Nat) (p' : Nat) (W : Str) (tt tp tk tw : Tok) : (∀ line : Int, Run (r.drop pl) .ws [] line false .sp (.done (r.drop p') st tok (line + (k : Int)) q push)) → p' ≤ r.length → v = .ref D → (∀ x ∈ news, x.1 < D) → push.length ≤ 1 → W = T push →
      (q = false ∧ tok = [] → False) → n' = (D, tupO [.str (T tok) tt, .int p' tp, .int k tk, .str W tw]) :: news → WV r pl news v n'
  | none (D : Addr) (k : Nat) (p' : Nat) (tp tk tw : Tok) : (∀ line : Int, Run (r.drop pl) .ws [] line false .sp (.done (r.drop p') .fin [] (line + (k : Int)) false [])) → p' ≤ r.length → v = .ref D → (∀ x ∈ news, x.1 < D) →
      n' = (D, tupO [.none, .int p' tp, .int k tk, .str (Str.ofString "") tw]) :: news → WV r pl news v n'
  | bad (D d : Addr) (esc : Bool) (st : St) (tok : List Nat) (k : Nat) (tr tm tp tk tw : Tok) : (∀ line : Int, Run (r.drop pl) .ws [] line false .sp (.bad esc st tok (line + (k : Int)))) → v = .ref D → (∀ x ∈ news, x.1 < d) → @LT.lt Nat _ d D →
      n' = (D, tupO [.ref d, .int r.length tp, .int k tk, .str (Str.ofString "") tw]) :: (d, tupO [.str (Str.ofString "refused") tr, .str (Str.ofString (if esc then "No escaped character" else "No closing quotation")) tm]) :: news → WV r pl news v n'
theorem wo_spec {w : World} (news : List (Addr × Obj)) (r : List Nat) (pl : Nat) (t1 t2 : Tok) (hr : ∀ x ∈ r, x < 256) :
  Con 3 w 799 news (pl ≤ r.length ∧ r.length < 10000) [.str (T r) t1, .int pl t2]
    (fun v n' => WV r pl news v n') (fun _ _ => False) := by
  refine' Con.of (binds := [(Str.ofString "row", .str (T r) t1), (Str.ofString "place", .int pl t2)]) ?a ?b ?c ?d ?e ?h ?i ?j ?k ?l
  case a => k_is
  case b => k_is
  case c => exact fun s X => BindsTo.of_eq rfl
  case d => exact locs rfl
  case e => decide
  case i => exact rfl
  case j => exact rfl
  case k => exact rfl
  case l => decide
  rintro ⟨hp1, hp2⟩ x hw hc hu hcl
  show Ex x (fnO o799.1 799) _ _ (fb o799.1) _ _
  have hl : (T r).length = r.length := T_len r
  refine Ex.unp2 (Ev.dcall g_gap k_gap (Er.E (Ep.name rfl) (Er.E (Ep.name rfl) (Er.nil (Tr.con (lv := 2) (gap_spec news r pl t1 t2) ⟨hp1, hp2⟩ (fun _ h => h) (by omega) (by omega) ?_ (fun _ _ z => z.elim))))))
  rintro v n' ⟨d, p0, k0, tp, tk, hg, hp0, rfl, hd0, rfl⟩
  refine ⟨_, fun _ h => h, d, _, _, _, rfl, .head _, Ex.less (fun _ h => .tail _ h) ?_⟩
  refine Ex.iff (Tp.cmp (Ep.nameI rfl) (Ep.len (Ep.nameS rfl) (by rw [hl]; omega)) Co.eqI) (fun h => ?_) (fun h => ?_)
  · rw [hl] at h
    have h := Int.ofNat_inj.mp (eq_of_beq h)
    exact Ex.ret (Ev.tup (Er.E Ep.none (Er.E (Ep.name rfl) (Er.E (Ep.name rfl) (Er.S Ep.str fun u => Er.nil ⟨Nat.le_of_ble_eq_true rfl, fun D hD => .none D k0 p0 tp tk u (gap_end hg (by omega)) hp0 rfl hD rfl⟩)))))
  have hlt : p0 < r.length := by
    rw [hl] at h
    have : p0 ≠ r.length := fun e => by rw [e] at h; simp at h
    omega
  obtain ⟨c0, s0, hd⟩ : ∃ c s, r.drop p0 = c :: s := ⟨_, _, List.drop_eq_getElem_cons hlt⟩
  have hdd : r.drop p0 = c0 :: s0 ∧ p0 + 1 ≤ r.length := ⟨hd, hlt⟩
  have hc0 := sign_small hdd hr
  refine Ex.iff (Tp.L (TL.andB (Tp.cmp (Ep.item (Ep.nameS rfl) (Ep.nameI rfl) hd (by omega)) Ep.str Co.nqe) (TL.and1 (Tp.not (Tp.val (Ep.pw (Ep.item (Ep.nameS rfl) (Ep.nameI rfl) hd (by omega)) hc0 (by omega) (by omega)) Tv.bool))))) (fun h => ?_) (fun h => ?_)
  · simp only [Bool.and_eq_true, Bool.not_eq_true'] at h
    refine Ex.ret (Ev.tup (Er.S (Ep.item (Ep.nameS rfl) (Ep.nameI rfl) hd (by omega)) fun u1 => Er.I (Ep.bin (Ep.nameI rfl) Ep.int Bo.addI) fun u2 => Er.E (Ep.name rfl) (Er.S Ep.str fun u3 => Er.nil ⟨Nat.le_of_ble_eq_true rfl, fun D hD => ?_⟩)))
    exact .word D .ws [c0] k0 false [] (p0 + 1) _ u1 u2 tk u3 (gap_punct hg hdd h.1 h.2) hlt rfl hD (Nat.zero_le _) T_nil (fun h => nomatch h.2) rfl
  have h7 : isE c0 = true ∨ isC c0 = true := by
    cases he : isE c0 with
    | true => exact .inl rfl
    | false =>
      rw [he] at h
      exact .inr (isP_C (sign_256 hdd hr) (by simpa using h))
  clear h
  refine Ex.asp (Ep.strT T_nil) ?_
  rintro v ⟨u0, rfl⟩
  refine Ex.whl (fun c : WC => [(Str.ofString "row", .str (T r) t1), (Str.ofString "place", .int c.pl c.tp), (Str.ofString "lines", .int c.ln c.tl), (Str.ofString "token", .str (T c.tok) c.tt)]) (fun _ => news)
    (fun c => c.pl ≤ r.length ∧ c.tok.length ≤ c.pl ∧ WI r pl c.pl c.tok c.ln c.q ∧ (c.q = false ∧ c.tok = [] → ∃ x s', r.drop c.pl = x :: s' ∧ (isE x = true ∨ isC x = true))) (fun c => r.length - c.pl) ⟨p0, [], k0, false, tp, u0, tk⟩
    (List.forall_mem_cons.mpr ⟨rfl, List.forall_mem_cons.mpr ⟨rfl, List.forall_mem_cons.mpr ⟨rfl, List.forall_mem_cons.mpr ⟨rfl, List.forall_mem_nil _⟩⟩⟩⟩) (fun q hq => hq) ⟨hp0, Nat.zero_le _, WI.start hg hdd h7, fun _ => ⟨_, _, hd, h7⟩⟩ ?_
  clear hg hd hdd h7 hlt hc0 hd0 hp0
  rintro ⟨p, tok, ln, q, tp, tt, tl⟩ ⟨hP1, hP2, hI, hP3⟩
  dsimp only at hP1 hP2 hI hP3 ⊢
  by_cases hlt : p < r.length
  case neg =>
    refine (Tp.cast (Tp.cmp (Ep.nameI rfl) (Ep.len (Ep.nameS rfl) (by rw [hl]; omega)) Co.ltI) (decide_eq_false (by rw [hl]; omega))).go (ite_ff ?_)
    refine Ex.ret (Ev.tup (Er.E (Ep.name rfl) (Er.E (Ep.name rfl) (Er.E (Ep.name rfl) (Er.S Ep.str fun u => Er.nil ⟨Nat.le_of_ble_eq_true rfl, fun D hD => ?_⟩)))))
    refine .word D .fin tok ln q [] p _ tt tp tl u (hI.fin (by omega)) hP1 rfl hD (Nat.zero_le _) T_nil (fun h => ?_) rfl
    obtain ⟨x, s2, h8, h9⟩ := hP3 h
    have hl := congrArg List.length h8
    simp only [List.length_drop, List.length_cons] at hl
    omega
  obtain ⟨c, s', hd⟩ : ∃ c s, r.drop p = c :: s := ⟨_, _, List.drop_eq_getElem_cons hlt⟩
  have hdd : r.drop p = c :: s' ∧ p + 1 ≤ r.length := ⟨hd, hlt⟩
  have hc0 := sign_small hdd hr
  refine (Tp.cast (Tp.cmp (Ep.nameI rfl) (Ep.len (Ep.nameS rfl) (by rw [hl]; omega)) Co.ltI) (decide_eq_true (by rw [hl]; omega))).go (ite_tt ?_)
  refine Ex.swp2 (Ev.tup (Er.S (Ep.item (Ep.nameS rfl) (Ep.nameI rfl) hd (by omega)) fun ts => Er.E (Ep.name rfl) (Er.nil ⟨Nat.le_of_ble_eq_true rfl, fun D hD => ⟨D, _, _, _, rfl, .head _, Ex.less (fun _ h => .tail _ h) ?_⟩⟩)))
  have good : ∀ (m : Loc) (p' : Nat) (u : List Nat) (q' : Bool) (tu tp' : Tok) (n' : Led), look m (Str.ofString "row") = some (.str (T r) t1) → look m (Str.ofString "first") = some (.int p tp) → look m (Str.ofString "place") = some (.int p' tp') → look m (Str.ofString "lines") = some (.int ln tl) → look m (Str.ofString "token") = some (.str (T tok) tt) → look m (Str.ofString "part") = some (.str (T u) tu) →
      p < p' → p' ≤ r.length → u.length ≤ p' - p → WI r pl p' (tok ++ u) (ln + nls ((r.drop p).take (p' - p))) q' → (q' = false ∧ tok ++ u = [] → False) → (∀ q ∈ news, q ∈ n') →
      Ex x (fnO o799.1 799) m n' ((wb (nth (fb o799.1) 4)).drop 2) (WPost x (fnO o799.1 799) (fun c : WC => [(Str.ofString "row", .str (T r) t1), (Str.ofString "place", .int c.pl c.tp), (Str.ofString "lines", .int c.ln c.tl), (Str.ofString "token", .str (T c.tok) c.tt)]) (fun _ => news) (fun c => c.pl ≤ r.length ∧ c.tok.length ≤ c.pl ∧ WI r pl c.pl c.tok c.ln c.q ∧ (c.q = false ∧ c.tok = [] → ∃ x s', r.drop c.pl = x :: s' ∧ (isE x = true ∨ isC x = true))) (fun c => r.length - c.pl) ⟨p, tok, ln, q, tp, tt, tl⟩ ((fb o799.1).drop 5) (fun fl _ n' => WV r pl news (retv fl) n') (fun _ _ => False)) (fun _ _ => False) := by
    intro m p' u q' tu tp' n' m1 m2 m3 m4 m5 m6 g1 g2 g3 g4 g5 g6
    refine Ex.aug m4 (Ep.cnt (Ep.nameS m1) (Ep.nameI m2) (Ep.nameI m3) (by omega) hp2) (fun v hv => Io.addI v hv) ?_
    rintro _ ⟨u1, rfl⟩
    refine Ex.ifF (Tp.val (Ev.isi m6 Tr.isiS) Tv.bool) ?_
    refine Ex.aug m5 (Ep.nameS m6) (fun v hv => Io.addT (by omega) v hv) ?_
    rintro _ ⟨u2, rfl⟩
    exact Ex.nil ⟨⟨p', tok ++ u, ln + nls ((r.drop p).take (p' - p)), q', tp', u2, u1⟩, ⟨g2, by dsimp only; rw [List.length_append]; omega, g4, fun h => (g5 h).elim⟩, by dsimp only; omega, List.forall_mem_cons.mpr ⟨m1, List.forall_mem_cons.mpr ⟨m3, List.forall_mem_cons.mpr ⟨rfl, List.forall_mem_cons.mpr ⟨rfl, List.forall_mem_nil _⟩⟩⟩⟩, g6⟩
  have bad : ∀ (m : Loc) (d : Addr) (esc : Bool) (st : St) (tk' : List Nat) (tr tm tp' : Tok) (n' : Led), look m (Str.ofString "row") = some (.str (T r) t1) → look m (Str.ofString "first") = some (.int p tp) → look m (Str.ofString "place") = some (.int r.length tp') → look m (Str.ofString "lines") = some (.int ln tl) → look m (Str.ofString "part") = some (.ref d) →
      (∀ line : Int, Run (r.drop pl) .ws [] line false .sp (.bad esc st tk' (line + ((ln + nls ((r.drop p).take (r.length - p)) : Nat) : Int)))) → (∀ x ∈ news, x.1 < d) → (∀ q ∈ (d, tupO [.str (Str.ofString "refused") tr, .str (Str.ofString (if esc then "No escaped character" else "No closing quotation")) tm]) :: news, q ∈ n') →
      Ex x (fnO o799.1 799) m n' ((wb (nth (fb o799.1) 4)).drop 2) (WPost x (fnO o799.1 799) (fun c : WC => [(Str.ofString "row", .str (T r) t1), (Str.ofString "place", .int c.pl c.tp), (Str.ofString "lines", .int c.ln c.tl), (Str.ofString "token", .str (T c.tok) c.tt)]) (fun _ => news) (fun c => c.pl ≤ r.length ∧ c.tok.length ≤ c.pl ∧ WI r pl c.pl c.tok c.ln c.q ∧ (c.q = false ∧ c.tok = [] → ∃ x s', r.drop c.pl = x :: s' ∧ (isE x = true ∨ isC x = true))) (fun c => r.length - c.pl) ⟨p, tok, ln, q, tp, tt, tl⟩ ((fb o799.1).drop 5) (fun fl _ n' => WV r pl news (retv fl) n') (fun _ _ => False)) (fun _ _ => False) := by
    intro m d esc st tk' tr tm tp' n' m1 m2 m3 m4 m6 g1 g2 g3
    refine Ex.less g3 ?_
    refine Ex.aug m4 (Ep.cnt (Ep.nameS m1) (Ep.nameI m2) (Ep.nameI m3) (by omega) hp2) (fun v hv => Io.addI v hv) ?_
    rintro _ ⟨u1, rfl⟩
    refine Ex.ifT (Tp.val (Ev.isi m6 (Tr.isiT (.head _) rfl)) Tv.bool) ?_
    exact Ex.ret (Ev.tup (Er.E (Ep.name m6) (Er.E (Ep.name m3) (Er.E (Ep.name rfl) (Er.S Ep.str fun u => Er.nil ⟨Nat.le_of_ble_eq_true rfl, fun D hD => .bad D d esc st tk' _ tr tm tp' u1 u g1 rfl g2 (hD _ (.head _)) rfl⟩)))))
  have hC : isQ c = true → c = 34 ∨ c = 39 := fun h => by rcases isQ_cases h with h | h <;> simp [h]
  refine Ex.iff (Tp.cmp (Ep.nameS rfl) Ep.str Co.inQ) (fun hq => ?_) (fun hq => ?_)
  · refine Ex.unp2 (Ev.dcall g_qu k_qu (Er.E (Ep.name rfl) (Er.E (Ep.name rfl) (Er.nil (Tr.con (qu_spec news r p c s' t1 tp hd (hC hq)) hp2 (fun _ h => h) (by omega) (by omega) ?_ (fun _ _ z => z.elim))))))
    rintro v n' (⟨D, b, u, p', tu, tp', hb, hd', hp, hpl, hul, rfl, hlt', rfl⟩ | ⟨D, d, k, b, u, tr, tm, tp', hb, h1, h2, rfl, hlt1, hlt2, rfl⟩)
    · exact ⟨_, fun _ h => h, D, _, _, _, rfl, .head _, good _ p' u true _ _ _ rfl rfl rfl rfl rfl rfl hpl hp hul (hI.quo (hC hq) hdd hb hd' hp) (fun h => nomatch h.1) (fun _ h => .tail _ h)⟩
    · obtain ⟨st, tk9, hrun⟩ := hI.quoBad (hC hq) hdd hb h1 h2
      exact ⟨_, fun _ h => h, D, _, _, _, rfl, .head _, bad _ d k st tk9 tr tm _ _ rfl rfl rfl rfl rfl hrun hlt1 (fun _ h => .tail _ h)⟩
  have hne : ¬ (c = 34 ∨ c = 39) := by rintro (rfl | rfl) <;> cases hq
  refine Ex.iff (Tp.cmp (Ep.nameS rfl) Ep.str (Co.eq1 (d := 92) (by decide +kernel))) (fun h92 => ?_) (fun h92 => ?_)
  · have h92 := of_decide_eq_true h92
    refine Ex.swp2 (Ev.tup (Er.S (z := T ((r.drop (p + 1)).take 1)) ?sl fun t8 => Er.I (Ep.bin (Ep.nameI rfl) Ep.int Bo.addI) fun t9 => Er.nil ⟨Nat.le_of_ble_eq_true rfl, fun D hD => ⟨D, _, _, _, rfl, .head _, Ex.less (fun _ h => .tail _ h) ?_⟩⟩))
    case sl =>
      refine Ep.mono (Ep.slSS (Ep.nameS rfl) (Ep.bin (Ep.nameI rfl) Ep.int Bo.addI) (Ep.bin (Ep.nameI rfl) Ep.int Bo.addI) (by rw [hl]; omega)) ?_
      rintro _ ⟨t, rfl⟩
      refine ⟨t, ?_⟩
      have := slice_any r (p + 1) (p + 2) (by omega)
      rw [show p + 2 - (p + 1) = 1 by omega] at this
      rw [← this]; rfl
    have hs' : r.drop (p + 1) = s' := drop_succ hd
    rw [hs']
    cases s' with
    | nil =>
      refine Ex.ifT (Tp.cmp (Ep.nameS (z := T []) rfl) Ep.str Co.emp) ?_
      refine Ex.swp2 (Ev.tup (Er.cons (Ev.tup (Er.S Ep.str fun a1 => Er.S Ep.str fun a2 => Er.nil ⟨Nat.le_of_ble_eq_true rfl, fun d hd' => Er.I (Ep.len (Ep.nameS rfl) (by rw [hl]; omega)) fun a3 => Er.nil ⟨Nat.le_of_ble_eq_true rfl, fun D hD => ⟨D, _, _, _, rfl, .head _, ?_⟩⟩⟩))))
      subst h92
      have := hI.escEnd hd
      exact bad _ d true .esc tok a1 a2 a3 _ rfl rfl (by rw [hl]; rfl) rfl rfl this hd' (fun _ h => .tail _ h)
    | cons c2 s2 =>
      refine Ex.ifF (Tp.cmp (Ep.nameS (z := T [c2]) rfl) Ep.str (Co.eqC (by rw [show (Str.ofString "").cps.toList = [] by decide +kernel]; rfl))) ?_
      have hl2 := congrArg List.length hd
      simp only [List.length_drop, List.length_cons] at hl2
      subst h92
      exact good _ (p + 2) [c2] q _ _ _ rfl rfl rfl rfl rfl rfl (by omega) (by omega) (by show 1 ≤ _; omega) (hI.esc hd) (fun h => by simp at h) (fun _ h => h)
  have h92 := of_decide_eq_false h92
  refine Ex.iff (Tp.val (Ep.pw (Ep.nameS rfl) hc0 (by omega) (by omega)) Tv.bool) (fun hP => ?_) (fun hP => ?_)
  · refine Ex.swp2 (Ev.tup (Er.E (Ep.name rfl) (Er.I (Ep.bin (Ep.nameI rfl) Ep.int Bo.addI) fun t9 => Er.nil ⟨Nat.le_of_ble_eq_true rfl, fun D hD => ⟨D, _, _, _, rfl, .head _, ?_⟩⟩)))
    exact good _ (p + 1) [c] q _ _ _ rfl rfl rfl rfl rfl rfl (by omega) hlt (by show 1 ≤ _; omega) (hI.part hdd (isP_C (sign_256 hdd hr) hP)) (fun h => by simp at h) (fun _ h => .tail _ h)
  refine Ex.iff (Tp.cmp (Ep.nameS rfl) Ep.str (Co.eq1 (d := 35) (by decide +kernel))) (fun h35 => ?_) (fun h35 => ?_)
  · have h35 := of_decide_eq_true h35
    subst h35
    refine Ex.ret (Ev.tup (Er.E (Ep.name rfl) (Er.I (Ep.bl (Ep.nameS rfl) (Ep.nameI rfl) ⟨hP1, hp2⟩ (by omega) (by omega)) fun a1 => Er.I (Ep.bin (Ep.nameI rfl) Ep.int Bo.addI) fun a2 => Er.S Ep.str fun a3 => Er.nil ⟨Nat.le_of_ble_eq_true rfl, fun D hD => ?_⟩)))
    refine .word D .ws tok (ln + 1) q [] _ _ tt a1 a2 a3 (hI.hash hdd) (Nat.sub_le _ _) rfl hD (Nat.zero_le _) T_nil (fun h => ?_) rfl
    obtain ⟨x, s2, h8, h9⟩ := hP3 h
    rw [hd] at h8; cases h8; revert h9; decide
  have h35 := of_decide_eq_false h35
  refine Ex.asE (Ep.cmp (Ep.nameS rfl) Ep.str Co.inW) ?_
  refine Ex.ret (Ev.tup (Er.E (Ep.name rfl) (Er.I (Ep.bin (Ep.nameI rfl) Ep.int Bo.addI) fun a1 => Er.I (i := ((ln + (if c = 10 then 1 else 0) : Nat) : Int)) ?ct fun a2 => Er.S (z := T (if isW c = true then [] else [c])) ?cw fun a3 => Er.nil ⟨Nat.le_of_ble_eq_true rfl, fun D hD => ?_⟩)))
  case ct =>
    refine Ep.mono (Ep.bin (Vr := IsI (if c = 10 then 1 else 0)) (Ep.nameI rfl) (Ep.ife (Tp.cmp (Ep.nameS rfl) Ep.str (Co.eq1 (d := 10) (by decide +kernel))) (fun h => by rw [if_pos (of_decide_eq_true h)]; exact Ep.int) (fun h => by rw [if_neg (of_decide_eq_false h)]; exact Ep.int)) Bo.addI) ?_
    rintro _ ⟨t, rfl⟩
    exact ⟨t, by split <;> rfl⟩
  case cw =>
    refine Ep.ife (c := isW c) (Tp.val (Ep.name rfl) Tv.bool) (fun h => ?_) (fun h => ?_)
    · rw [if_pos h]; exact Ep.strT T_nil
    · rw [if_neg (by rw [h]; decide)]; exact Ep.nameS rfl
  by_cases hW : isW c = true
  · rw [if_pos hW]
    refine .word D .ws tok (ln + (if c = 10 then 1 else 0)) q [] (p + 1) _ tt a1 a2 a3 (hI.white hdd hW rfl) hlt rfl hD (Nat.zero_le _) rfl (fun h => ?_) rfl
    obtain ⟨x, s2, h8, h9⟩ := hP3 h
    rw [hd] at h8; cases h8; exact not_EC_W h9 hW
  · have hW : isW c = false := by simpa using hW
    have h10 : c ≠ 10 := by rintro rfl; cases hW
    have e1 : (if isW c = true then ([] : List Nat) else [c]) = [c] := if_neg (by rw [hW]; decide)
    rw [e1, if_neg h10]
    refine .word D .ws tok ln q [c] (p + 1) _ tt a1 a2 a3 (hI.punct hdd hW h35 h92 hP hq) hlt rfl hD (Nat.le_refl _) rfl (fun h => ?_) rfl
    obtain ⟨x, s2, h8, h9⟩ := hP3 h
    rw [hd] at h8; cases h8; exact not_EC_P h9 hq h92 hP
end Mine

end
section
open Mine
namespace Mine
open PySem.Builtin
noncomputable abbrev Byt (l : List Nat) : Array UInt8 := (l.map Nat.toUInt8).toArray
theorem byt_of (l : List Nat) : byteArr (l.map fun c : Nat => (c : Int)) = Byt l := by
  unfold byteArr Byt
  rw [List.map_map]; rfl
theorem byt_nat {l : List Nat} (h : ∀ c ∈ l, c < 256) : (Byt l).toList.map UInt8.toNat = l := by
  show ((l.map Nat.toUInt8).toArray.toList).map UInt8.toNat = l
  rw [List.toList_toArray, List.map_map]
  conv => rhs; rw [← List.map_id l]
  refine List.map_congr_left fun c hc => ?_
  have := h c hc
  simp [Nat.toUInt8, UInt8.toNat_ofNat, Nat.mod_eq_of_lt this]
theorem forIn_steps {β : Type} (f : Nat → β → Sem (ForInStep β)) (S : Nat → β) (n : Nat) (h : ∀ i k, k < n → f i (S k) = pure (.yield (S (k + 1)))) : ∀ m k j, k + m ≤ n → forIn (List.range' j m 1) (S k) f = pure (S (k + m))
  | 0, k, j, _ => rfl
  | m + 1, k, j, hm => by
    rw [List.range'_succ, List.forIn_cons, h j k (by omega)]
    show forIn (List.range' (j + 1) m 1) (S (k + 1)) f = _
    rw [forIn_steps f S n h m (k + 1) (j + 1) (by omega), show k + 1 + m = k + (m + 1) by omega]
theorem run_latin (id : String) (b : Array UInt8) (hz : b.size ≤ 10000) : _codecs.runDecoder id _codecs.latin1Decoder none true b 0 [] = pure ((b.toList.map UInt8.toNat).toArray, b.size) := by
  unfold _codecs.runDecoder
  dsimp only
  rw [KPc.range_list]
  refine (congrArg (fun t => t >>= _) (forIn_steps _ (fun k => (k, ((b.toList.take k).map UInt8.toNat).toArray, ({ held := [] } : _codecs.Faults))) b.size (fun i k hk => ?_) b.size 0 0 (by omega))).trans ?_
  · dsimp only
    rw [if_neg (by simp [sizeLine_eq]; omega), if_neg (by omega)]
    show pure (ForInStep.yield _) = _
    congr 3
    rw [List.take_add_one]
    simp [hk]
  · rw [Nat.zero_add]
    show (pure (((b.toList.take b.size).map UInt8.toNat).toArray, b.size) : Sem (Array Nat × Nat)) = _
    rw [List.take_of_length_le (by simp)]
theorem road_latin {id : String} {b : Array UInt8} : _codecs.decodeRoad id b (PySem.Str.ofString "latin-1") none [] = (_codecs.runDecoder id _codecs.latin1Decoder none true b 0 [] >>= fun r => mkStr ⟨r.1⟩) := by kernel_rfl
theorem entry_latin {c : UInt8} {cs : List UInt8} {t u : Tok} : «bytes.decode» ⟨[.bytes (c :: cs).toArray t, .str (PySem.Str.ofString "latin-1") u], []⟩ = (mkStr (PySem.Str.ofString "utf-8") >>= fun _ => mkStr (PySem.Str.ofString "latin-1") >>= fun e => mkStr (PySem.Str.ofString "bytes.decode") >>= fun d =>
    call (.builtin "_codecs.decode.text") [.bytes (c :: cs).toArray t, e, .none, d] >>= fun v => ret v) := by kernel_rfl
theorem entry_latin0 {t u : Tok} : «bytes.decode» ⟨[.bytes #[] t, .str (PySem.Str.ofString "latin-1") u], []⟩ = (rule "bytes.decode.empty" >>= fun _ => retStr Str.empty) := by kernel_rfl
theorem meets_text {b : Array UInt8} {x : Str} {n : Nat} {t t1 t2 : Tok} {d : Str} (hd : ∀ id, _codecs.runDecoder id _codecs.latin1Decoder none true b 0 [] = pure (x.cps, n)) :
    Meets («_codecs.decode.text» ⟨[.bytes b t, .str (PySem.Str.ofString "latin-1") t1, .none, .str d t2], []⟩) (fun _ R s => x.length ≤ sizeLine ∧ R (.ok (.ret (.str x s.toks))) { s with toks := s.toks + 1 }) := by
  refine .of_wp fun prog w A R s hS => ?_
  obtain ⟨hsz, h⟩ := hS
  show wpAny _ _ (Bytes.bytesLike _ (.bytes b t) >>= fun r => _) _ _ s
  refine wpAny_bind (wpAny_of_eq KBd.like_eq ?_)
  refine wpAny_bind (wpAny_of_eq KBd.held_eq ?_)
  show wpAny _ _ (_codecs.decodeRoad _ b (PySem.Str.ofString "latin-1") none [] >>= fun v => _) _ _ s
  rw [road_latin, hd]
  exact wpAny_bind (wpAny_bind (wpAny_pure (wpAny_mkStr (wpAny_pure ⟨_, rfl, h⟩) hsz)))
theorem args_decode_2 (a b : Value) : argsOk "bytes.decode" ⟨[a, b], []⟩ := by
  first | (unfold argsOk; kernel_rfl) | skip
section
variable {prog : Program} {w : World} {A : Around} {E : Value → Shared → Prop} {s : Shared} {t u : Tok} {Q : Value → Shared → Prop}
theorem decode_at {l : List Nat} (hl : ∀ c ∈ l, c < 256) (hz : l.length ≤ 10000) (h : ∀ t' k, Q (.str (T l) t') { s with toks := k }) :
    wpAny (model prog w) A (call (.builtin "bytes.decode") [.bytes (Byt l) t, .str (PySem.Str.ofString "latin-1") u]) Q E s := by
  refine call_meets FB.slot_bytes_decode (typeIs_bytes _ _ _) FB.entry_bytes_decode (args_decode_2 _ _) (S := fun _ R s => ∀ t' k, R (.ok (.ret (.str (T l) t'))) { s with toks := k }) (.of_wp fun prog w A R s h => ?_) (fun t' k => h t' k)
  have hd : ∀ id, _codecs.runDecoder id _codecs.latin1Decoder none true (Byt l) 0 [] = pure ((T l).cps, l.length) := fun id => by
    rw [run_latin id (Byt l) (by simpa [Byt] using hz), byt_nat hl]
    simp [Byt]
  cases l with
  | nil =>
    show wpAny _ _ («bytes.decode» ⟨[.bytes #[] t, .str (PySem.Str.ofString "latin-1") u], []⟩) _ _ s
    rw [entry_latin0]
    refine wpAny_bind (wpAny_rule ?_)
    exact wpAny_bind (wpAny_mkStr (wpAny_pure ⟨_, rfl, h _ _⟩) (by decide))
  | cons c l =>
    show wpAny _ _ («bytes.decode» ⟨[.bytes (c.toUInt8 :: l.map Nat.toUInt8).toArray t, .str (PySem.Str.ofString "latin-1") u], []⟩) _ _ s
    rw [entry_latin]
    refine wpAny_bind (wpAny_mkStr ?_ (by decide))
    refine wpAny_bind (wpAny_mkStr ?_ (by decide))
    refine wpAny_bind (wpAny_mkStr ?_ (by decide))
    exact wpAny_bind (call_function_meets KBd.kind_text KBd.plain_text KBd.entry_text (KBd.args_text _ _ _ _) (meets_text (x := T (c :: l)) hd) ⟨by rw [T_len, sizeLine_eq]; omega, wpAny_pure ⟨_, rfl, h _ _⟩⟩)
end
end Mine

end
section
open Mine
namespace Mine
section
variable {prog : Program} {w : World} {A : Around} {E : Value → Shared → Prop} {s : Shared} {h₀ : Heap} {L : Addr} {m : Str → Option Value} {env : Env}
noncomputable def StrSrc (prog : Program) (w : World) (A : Around) (h₀ : Heap) (L : Addr) (m : Str → Option Value) (env : Env) (elt : PySem.Expr) (x : Str) (scope : Scope) (cl : List (Str × Addr)) (Fin : Shared → List Value → List (Addr × Obj) → Prop) (xv : Value) (s₁ : Shared) : Prop :=
  ∃ l t news, xv = .str (T l) t ∧ A.handled = none ∧ Fr h₀ L s₁.heap m ∧ News h₀ L s₁.heap news ∧ l.length < 10000 ∧
    ∀ s₂ : Shared, (∃ h, s₂ = { s₁ with heap := h }) → LCg.CompRest prog w A h₀ L m env elt x scope cl s₂ (fun _ => True) (fun i v => ∃ c u, l[i]? = some c ∧ v = .str (⟨[c].toArray⟩ : Str) u) (Fin s₂) l.length 0 [] news
theorem comp_str {elt iter : PySem.Expr} {x : Str} {px : Pos} {scope : Scope} {cl : List (Str × Addr)} {pos : Pos} {Q : Value → Shared → Prop} (_F₀ : Fr h₀ L s.heap m)
    (hclos : closureFor scope env = pure cl) (hcell : ∀ y ∈ scope.names, y.2 ≠ .cell) (hkind : scope.kind = .function)
    (hnames : ∀ y ∈ scope.names, y.2 = .local → scope.names.lookup y.1 = some .local) (hx : scope.names.lookup x = some .local)
    (h : wpAny (model prog w) A (eval iter env) (StrSrc prog w A h₀ L m env elt x scope cl (fun s₂ => LCg.FinE h₀ L m s₂ Q)) E s)
    (hs : ∀ x, foldedSetIterable iter env x = pure x := by intro _; rfl) :
    wpAny (model prog w) A (eval (.ListComp elt [⟨.Name x px, iter, [], 0⟩] scope pos) env) Q E s := by
  rw [eval_ListComp]
  refine wpAny_comprehension_free (use := none) rfl hs hclos hkind hnames (wpAny_mono h (fun xv s₁ h₁ => ?_) fun _ _ e => e)
  obtain ⟨l, t, news, rfl, hh, F, N, hlen, R⟩ := h₁
  have hsz : (T l).cps.size = l.length := by simp
  have go : ∀ (cls : String) (o : Obj) (St : Nat → Heap → Prop), Walks prog w A s₁.heap.objs.size [s₁.heap.objs.size] [s₁.heap.objs.size] (T l).cps.size (SignAt (T l)) St → St 0 (s₁.heap.push o) → (∀ i h, St i h → ∃ o, h.get? s₁.heap.objs.size = some o) →
      wpAny (model prog w) A (newList []) (fun acc s₃ => wpAny (model prog w) A (newFunctionEnv scope env.globals cl [] env.qual none .none (some env)) (fun cenv s₄ =>
        codeAny (model prog w) A (.compStart (.ListComp elt [⟨.Name x px, iter, [], 0⟩] scope pos) 0 (.ref s₁.heap.objs.size) acc { cenv with scope := relabel scope env }) (compPost (model prog w) A E none Q acc cenv.locals) s₄) E s₃) E { s₁ with heap := s₁.heap.push o } := by
    intro cls o St W hst hIo
    have up : ∀ b o', s₁.heap.get? b = some o' → (s₁.heap.push o).get? b = some o' := fun b o' e => Heap.get?_push_of_some _ e
    have W' : Walks prog w A s₁.heap.objs.size [s₁.heap.objs.size] [s₁.heap.objs.size] l.length (fun i v => ∃ c u, l[i]? = some c ∧ v = .str (⟨[c].toArray⟩ : Str) u) St := by
      rw [hsz] at W
      exact { sub := W.sub, frame := W.frame, done := W.done, self := W.self, item := fun i s Q E hi st hQ => W.item i s Q E hi st fun v h' tk hP => hQ v h' tk (by
        obtain ⟨c, u, hc, rfl⟩ := hP
        exact ⟨c, u, by simpa using hc, rfl⟩) }
    refine LCg.block_U (RR := fun acc C => compPost (model prog w) A E none Q acc C) (S := fun _ => True) (news := news) W' (by rw [sizeLine_eq]; omega) hIo
      (fun i h h' o' nw st e e' _ _ _ => W.frame i h h' st fun b hb o'' e'' => by
        rw [List.mem_singleton.mp hb] at e'' ⊢
        rw [e] at e''; cases e''; exact e')
      hcell hkind hx hst (fun b hb => by rw [List.mem_singleton.mp hb]; show _ < (s₁.heap.push o).objs.size; rw [Heap.size_push]; exact Nat.lt_succ_self _)
      (F.keeps up) (N.grown up) (Nat.ne_of_lt F.ns.lt) (next_is_new F) (fun p hp => Nat.ne_of_lt (Heap.lt_size (N p hp).1)) trivial (R _ ⟨_, rfl⟩) ?_
    intro D C h tk m' ys news' F' N' o1 hn hC₀ hD₀ hCL hDL hCD offC fin
    refine ⟨m', hn, fun h'' hs'' => fin D h'' tk (F'.change hs'' hCL hC₀) (fun p hp => ?_) o1⟩
    refine ⟨hs''.extBut _ _ ?_ (N' p hp).1, (N' p hp).2⟩
    rcases List.mem_cons.mp hp with rfl | hp
    · exact Ne.symm hCD
    · exact offC p hp
  cases ha : (T l).cps.all (· < 128)
  · exact wpAny_pyIter_wide ha (go "" _ _ (Walks.strWide hh _ (T l) t) ⟨_, Heap.get?_push_size _ rfl, rfl, rfl⟩ (fun i h st => ⟨_, st.choose_spec.1⟩))
  · exact wpAny_pyIter_ascii ha (go "" _ _ (Walks.strAscii hh _ (T l) t) ⟨_, Heap.get?_push_size _ rfl, rfl, rfl⟩ (fun i h st => ⟨_, st.choose_spec.1⟩))
theorem ord_rest {elt : PySem.Expr} {x : Str} {scope : Scope} {cl : List (Str × Addr)} {S : List (Addr × Obj) → Prop} {Fin : List Value → List (Addr × Obj) → Prop} {news : List (Addr × Obj)} {l : List Nat}
    (turn : ∀ c t I oI C oC D m₂ ys h tk (E' : Value → Shared → Prop), c ∈ l → LCg.NsObj oC m₂ → m₂ x = some (.str (⟨[c].toArray⟩ : Str) t) → Fr h₀ L h m → News h₀ L h ((I, oI) :: (C, oC) :: (D, LCg.lst ys) :: news) → LCg.Off3 I C D news → ((@Ne Nat I C) ∧ (@Ne Nat I D) ∧ (@Ne Nat C D)) → KPfMark →
      wpAny (model prog w) A (eval elt (compEnvC scope cl C env)) (LCg.CompEnd h₀ L m { s with heap := h, toks := tk } I oI C oC D (LCg.lst ys) S (fun y news' => KCfEl news (c : Int) y news')) E' { s with heap := h, toks := tk })
    (fin : ∀ ys, IntsAre ys (l.map fun c : Nat => (c : Int)) → Fin ys news) : LCg.CompRest prog w A h₀ L m env elt x scope cl s S (fun i v => ∃ c u, l[i]? = some c ∧ v = .str (⟨[c].toArray⟩ : Str) u) Fin l.length 0 [] news := by
  have key : ∀ (j i : Nat) (ys : List Value), i + j = l.length → IntsAre ys ((l.take i).map fun c : Nat => (c : Int)) → LCg.CompRest prog w A h₀ L m env elt x scope cl s S (fun i v => ∃ c u, l[i]? = some c ∧ v = .str (⟨[c].toArray⟩ : Str) u) Fin j i ys news := by
    intro j
    induction j with
    | zero =>
      intro i ys hi hy
      have e : i = l.length := by omega
      subst e
      rw [List.take_length] at hy
      exact LCg.CompRest.zero (fin ys hy)
    | succ j ih =>
      intro i ys hi hy
      refine LCg.CompRest.succ ?_
      intro v I oI C oC D m₂ h tk E' hv hC hx F N off ne
      obtain ⟨c, u, hc, rfl⟩ := hv
      refine wpAny_mono (turn c u I oI C oC D m₂ ys h tk E' (List.mem_of_getElem? hc) hC hx F N off ne True.intro) (fun y s₂ hq => ?_) fun _ _ e => e
      obtain ⟨h', tk', nw, e, F', N', off', hS, rfl, t', rfl⟩ := hq
      refine ⟨h', tk', _, e, F', N', off', hS, ih (i + 1) _ (by omega) ?_⟩
      rw [List.take_add_one, hc]
      simpa using IntsAre.append hy (.cons (c : Int) t' .nil)
  exact key l.length 0 [] (by omega) (by simp only [List.take_zero, List.map_nil]; exact .nil)
theorem bytes_at {l : Addr} {vs : List Value} {ns : List Nat} {news : List (Addr × Obj)} {Q : Value → Shared → Prop} (F : Fr h₀ L s.heap m) (N : News h₀ L s.heap news) (hm : (l, LCg.lst vs) ∈ news) (hi : IntsAre vs (ns.map fun c : Nat => (c : Int))) (hr : ∀ c ∈ ns, c < 256) (hz : ns.length < 10000) (hh : A.handled = none)
    (hQ : ∀ h' t k, Fr h₀ L h' m → News h₀ L h' news → Q (.bytes (Byt ns) t) { s with heap := h', toks := k }) : wpAny (model prog w) A (call (.type "bytes") [.ref l]) Q E s := by
  have hl : s.heap.IsList l vs.toArray := ⟨_, (N _ hm).1, rfl, _, rfl⟩
  refine call_bytes_ints hl hi (fun n hn => ?_) (by have := hi.length; rw [List.length_map] at this; rw [sizeLine_eq]; omega) hh fun h' t k hk => ?_
  · obtain ⟨c, hc, rfl⟩ := List.mem_map.mp hn
    have := hr c hc
    omega
  · rw [byt_of]
    exact hQ h' t k (F.keeps hk) (N.grown hk)
end
theorem take_256 {r : List Nat} (h : ∀ x ∈ r, x < 256) {i j : Nat} : ∀ c ∈ (r.drop i).take j, c < 256 := fun c hc => h c (List.mem_of_mem_drop (List.mem_of_mem_take hc))
section
variable {prog : Program} {w : World} {A : Around} {E : Value → Shared → Prop} {s : Shared} {t u : Tok} {Q : Value → Shared → Prop}
theorem len_T {l : List Nat} (hl : l.length < 10000) (h : ∀ t' k, Q (.int (l.length : Int) t') { s with toks := k }) : wpAny (model prog w) A (call (.builtin "len") [.str (T l) t]) Q E s :=
  len_str (by rw [T_len]; omega) (by rw [T_len]; exact h _ _)
theorem byt_len (l : List Nat) : (KBw.bInts (Byt l)).length = l.length := by
  rw [KBw.ints_length]; simp [Byt]
theorem byt_ints {l : List Nat} (h : ∀ c ∈ l, c < 256) : KBw.bInts (Byt l) = l.map fun c : Nat => (c : Int) := by
  have := byt_nat h
  unfold KBw.bInts
  conv => rhs; rw [← this, List.map_map]
  rfl
theorem len_B {l : List Nat} (hl : l.length < 10000) (h : ∀ t' k, Q (.int (l.length : Int) t') { s with toks := k }) : wpAny (model prog w) A (call (.builtin "len") [.bytes (Byt l) t]) Q E s :=
  KBw.len_K rfl (by rw [byt_len]; omega) (by rw [byt_len]; exact h _ _)
theorem truthy_B {l : List Nat} {Q : Bool → Shared → Prop} (hl : l.length < 10000) (h : ∀ k, Q (!l.isEmpty) { s with toks := k }) : wpAny (model prog w) A (truthy (.bytes (Byt l) t)) Q E s := by
  refine KBw.truthy_K rfl (by rw [byt_len]; omega) ?_
  rw [byt_len]
  have : decide (0 < l.length) = !l.isEmpty := by cases l <;> simp
  rw [this]
  exact h _
theorem item_B {c : Nat} {l : List Nat} {ui : Tok} {value slice : PySem.Expr} (hc : c < 256) (hl : l.length < 10000) (h : ∀ t' k, Q (.int (c : Int) t') { s with toks := k })
    (hs : subscripted slice false (.bytes (Byt (c :: l)) t) (.int 0 ui) = operate [.bytes (Byt (c :: l)) t, .int 0 ui] (getItem (.bytes (Byt (c :: l)) t) (.int 0 ui)) := by with_unfolding_all rfl)
    (ht : ∀ r, letTemporaryGo value (.bytes (Byt (c :: l)) t) r = pure () := by intro _; with_unfolding_all rfl) : wpAny (model prog w) A (subscriptTail value slice (.bytes (Byt (c :: l)) t) (.int 0 ui)) Q E s := by
  refine KBw.item_K rfl (by rw [byt_len]; simp; omega) (by decide) (by rw [byt_len]; simp) (fun t' k _ _ => ?_) hs ht
  have : (KBw.bInts (Byt (c :: l))).getD (0 : Int).toNat 0 = (c : Int) := by
    show (((c.toUInt8).toNat : Nat) : Int) = _
    simp [Nat.toUInt8, UInt8.toNat_ofNat]; omega
  rw [this]
  exact h t' k
end
end Mine

end
section
open Mine
namespace Mine
open PySem.Builtin PySem.Builtin.Str
noncomputable def exT (kind : Str) (c n : Nat) : Str := Str.ofString "expected " ++ Str.ofString (toString (c : Int)) ++ Str.ofString " bytes in a " ++ kind ++ Str.ofString "1, but only " ++ Str.ofString (toString (n : Int)) ++ Str.ofString " remain"
inductive Pf (fmt : Str) : List Nat → List Value → Str → Nat → Prop
  | nil : Pf fmt [] [] PySem.Str.empty 0
  | lit {c : Nat} {lit rest : List Nat} {p : List Value} {T : Str} {N : Nat} : (c :: lit ++ rest).span (· != 37) = (c :: lit, rest) → ((c :: lit).length == fmt.length) = false → Pf fmt rest p T N → Pf fmt (c :: lit ++ rest) p (⟨(c :: lit).toArray⟩ ++ T) ((c :: lit).length + N)
  | d {n : Int} {u : Tok} {rest : List Nat} {p : List Value} {T : Str} {N : Nat} : 0 ≤ n → n < 10000000000 → Pf fmt rest p T N → Pf fmt (37 :: 100 :: rest) (.int n u :: p) (Str.ofString (toString n) ++ T) (10 + N)
  | s {y : Str} {u : Tok} {K : Nat} {rest : List Nat} {p : List Value} {T : Str} {N : Nat} : y.length ≤ K → Pf fmt rest p T N → Pf fmt (37 :: 115 :: rest) (.str y u :: p) (y ++ T) (K + N)
section
variable {A : Around} {E : Value → Shared → Prop} {s : Shared}
theorem turnF {β : Type} {M : Model} {l : List Nat} {x : Nat} {b : β} {f f0 : Nat → β → Sem (ForInStep β)} {Q : β → Shared → Prop} (hf : f0 = f)
    (h : wpAny M A (f0 x b) (fun r s' => match r with | .done b' => Q b' s' | .yield b' => wpAny M A (forIn l b' f) Q E s') E s) : wpAny M A (forIn (x :: l) b f) Q E s := by
  subst hf; exact KPc.turn h
end
theorem genF {β : Type} {M : Model} {A : Around} {E : Value → Shared → Prop} {s : Shared} {l : List Nat} {b : β} {f0 : Nat → β → Sem (ForInStep β)} {Q : β → Shared → Prop} (h : ∀ f, f0 = f → wpAny M A (forIn l b f) Q E s) : wpAny M A (forIn l b f0) Q E s := h f0 rfl
theorem pf_run {fmt : Str} {t : Tok} {b : Addr} {its : Array Value} {T : Str} {N : Nat} (hP : Pf fmt fmt.cps.toList its.toList T N) (hN : N ≤ 16777216) :
    Meets («str.__mod__» ⟨[.str fmt t, .ref b], []⟩) (fun _ R s => IsTup s.heap b its ∧ ∀ t' k, R (.ok (.ret (.str T t'))) { s with toks := k }) := by
  apply KPt.meets_tup
  intro pr wo A s Q E kptH hQ
  obtain ⟨kptO, kptG, kptC, kptN, kptD⟩ := kptH
  rw [KPt.entry_is_r]
  unfold Builtin.Str.percentFormat
  refine wpAny_bind (wpAny_isInstance (T := "tuple") ⟨kptO, kptG, kptC⟩ KPt.sub_tt ?_)
  refine wpAny_bind (KPt.asStr_ref kptG kptD ?_)
  refine wpAny_bind (KPt.fills_ref ⟨kptO, kptG, kptC⟩ ?_)
  intro mp
  kpc_if
  refine wpAny_bind (wpAny_seqItems kptG kptD ?_)
  refine wpAny_bind (wpAny_pure ?_)
  refine wpAny_bind ?_
  rw [KPc.range_list]
  refine KPc.start ?_
  intro w0 g0
  refine genF ?_
  intro f hf
  have loop : ∀ rest p Tr Nr, Pf fmt rest p Tr Nr → ∀ (l : List Nat) (w : Writer) (T0 : Str) (N0 : Nat), KPc.Good w T0 N0 → N0 + Nr ≤ 16777216 → rest.length ≤ l.length → ∀ (s : Shared) (Q' : List Value × Writer × List Nat → Shared → Prop),
      (∀ w' N' k, KPc.Good w' (T0 ++ Tr) N' → N' ≤ 16777216 → Q' ([], w', []) { s with toks := k }) → wpAny (model pr wo) A (forIn l (p, w, rest) f) Q' E s := by
    intro rest p Tr Nr h
    induction h with
    | nil =>
      intro l w T0 N0 g hN hl s Q' q
      have q' : Q' ([], w, []) s := q w N0 s.toks (by rw [PySem.Str.append_empty]; exact g) hN
      cases l with
      | nil => exact wpAny_pure q'
      | cons x l =>
        refine turnF hf ?_
        refine wpAny_ite (KPc.ite_no (KPc.short_good g hN) ?_)
        kpc_if
        exact wpAny_pure q'
    | @lit c lit rest p T N h1 h2 h3 ih =>
      intro l w T0 N0 g hN hl s Q' q
      cases l with
      | nil => cases hl
      | cons x l =>
      refine turnF hf ?_
      refine wpAny_ite (KPc.ite_no (KPc.short_good g (Nat.le_trans (Nat.le_add_right _ _) hN)) ?_)
      kpc_if
      rw [h1]
      kpc_if
      refine wpAny_pure ?_
      refine ih l _ _ _ (KPc.good_add g (KPc.obj_none (if_neg (by rw [h2]; exact Bool.false_ne_true)))) (by rw [Nat.add_assoc]; exact hN) (Nat.le_of_succ_le_succ (Nat.le_trans (Nat.succ_le_succ (by show rest.length ≤ (lit ++ rest).length; rw [List.length_append]; exact Nat.le_add_left _ _)) hl)) s Q' fun w' N' k g' hN' => q w' N' k (by rw [← PySem.Str.append_assoc]; exact g') hN'
    | @d n u rest p T N h1 h2 h3 ih =>
      intro l w T0 N0 g hN hl s Q' q
      cases l with
      | nil => cases hl
      | cons x l =>
      refine turnF hf ?_
      refine wpAny_ite (KPc.ite_no (KPc.short_good g (Nat.le_trans (Nat.le_add_right _ _) hN)) ?_)
      (repeat kpc_if)
      refine wpAny_bind ?_; refine wpAny_holding ?_; (repeat kpc_if); kpt_conv; refine wpAny_pure ?_; refine wpAny_pure ?_
      refine KPc.after_int g rfl (by kpc_kind) rfl h1 h2 rfl (by kpc_none) fun w2 g2 => ?_
      exact ih l _ _ _ g2 (by rw [Nat.add_assoc]; exact hN) (Nat.le_of_succ_le_succ (Nat.le_trans (Nat.le_succ _) hl)) _ Q' fun w' N' k g' hN' => q w' N' k (by rw [← PySem.Str.append_assoc]; exact g') hN'
    | @s y u K rest p T N h1 h2 ih =>
      intro l w T0 N0 g hN hl s Q' q
      cases l with
      | nil => cases hl
      | cons x l =>
      refine turnF hf ?_
      refine wpAny_ite (KPc.ite_no (KPc.short_good g (Nat.le_trans (Nat.le_add_right _ _) hN)) ?_)
      (repeat kpc_if)
      refine wpAny_bind ?_; refine wpAny_holding ?_; (repeat kpc_if); kpt_conv; refine wpAny_pure ?_; refine wpAny_pure ?_
      refine KPc.after_str g h1 ?_ fun w2 g2 => ?_
      · intro v e
        split at e
        · exact ⟨_, (Option.some.inj e).symm⟩
        · cases e
      exact ih l _ _ _ g2 (by rw [Nat.add_assoc]; exact hN) (Nat.le_of_succ_le_succ (Nat.le_trans (Nat.le_succ _) hl)) _ Q' fun w' N' k g' hN' => q w' N' k (by rw [← PySem.Str.append_assoc]; exact g') hN'
  refine loop _ _ _ _ hP _ w0 _ 0 g0 (by rw [Nat.zero_add]; exact hN) (by rw [List.length_range']; exact Nat.le_refl _) _ _ fun w' N' k g' hN' => ?_
  kpc_if
  exact KPc.finish_ok g' hN' (KPc.empty_app T) fun t' k' => hQ t' k'
section
variable {prog : Program} {w : World} {A : Around} {E : Value → Shared → Prop} {s : Shared} {t u1 u2 u3 : Tok} {Q : Value → Shared → Prop} {b L : Addr} {h₀ : Heap} {news : List (Addr × Obj)}
theorem mod_any {fmt T : Str} {its : Array Value} {N : Nat} (hN : News h₀ L s.heap news) (hb : (b, ({ cls := .type "tuple", data := .seq its } : Obj)) ∈ news) (hP : Pf fmt fmt.cps.toList its.toList T N) (hz : N ≤ 16777216)
    (h : ∀ t' k, Q (.str T t') { s with toks := k }) : wpAny (model prog w) A (binaryOp .Mod (.str fmt t) (.ref b)) Q E s := KPt.mod_tuple hN hb rfl (pf_run hP hz) h
end
theorem Pf.cast {fmt : Str} {l l' : List Nat} {p : List Value} {T T' : Str} {N : Nat} (h : Pf fmt l p T N) (e : l' = l) (e2 : T' = T) : Pf fmt l' p T' N := e ▸ e2 ▸ h
noncomputable abbrev cpl (z : Str) : List Nat := z.cps.toList
theorem Pf.tx {fmt z : Str} {rest : List Nat} {p : List Value} {T : Str} {N : Nat} (h1 : (cpl z ++ rest).span (· != 37) = (cpl z, rest)) (h2 : ((cpl z).length == fmt.length) = false) (h3 : (cpl z).isEmpty = false) (h : Pf fmt rest p T N) : Pf fmt (cpl z ++ rest) p (z ++ T) ((cpl z).length + N) := by
  have hz : z = ⟨(cpl z).toArray⟩ := congrArg PySem.Str.mk (Array.toArray_toList ..).symm
  cases e : cpl z with
  | nil => rw [e] at h3; cases h3
  | cons c lit =>
    rw [e] at h1 h2
    have := Pf.lit (c := c) (lit := lit) h1 h2 h
    rw [← e] at this ⊢
    rw [← hz] at this
    exact this
section
variable {prog : Program} {w : World} {A : Around} {E : Value → Shared → Prop} {s : Shared} {t u1 u2 u3 : Tok} {Q : Value → Shared → Prop} {b L : Addr} {h₀ : Heap} {news : List (Addr × Obj)}
theorem mod_law {kind : Str} {c n : Nat} (N : News h₀ L s.heap news) (hb : (b, ({ cls := .type "tuple", data := .seq #[.int (c : Int) u1, .str kind u2, .int (n : Int) u3] } : Obj)) ∈ news) (hk : kind.length ≤ 10) (hc : c < 10000) (hn : n < 10000)
    (h : ∀ t' k, Q (.str (exT kind c n) t') { s with toks := k }) : wpAny (model prog w) A (binaryOp .Mod (.str (Str.ofString "expected %d bytes in a %s1, but only %d remain") t) (.ref b)) Q E s := by
  refine mod_any N hb (T := exT kind c n) (Pf.cast (Pf.tx (z := Str.ofString "expected ") (by decide +kernel) (by decide +kernel) (by decide +kernel) (Pf.d (u := u1) (Int.natCast_nonneg c) (o_8 hc (by decide)) (Pf.tx (z := Str.ofString " bytes in a ") (by decide +kernel) (by decide +kernel) (by decide +kernel) (Pf.s (u := u2) hk (Pf.tx (z := Str.ofString "1, but only ") (by decide +kernel) (by decide +kernel) (by decide +kernel) (Pf.d (u := u3) (Int.natCast_nonneg n) (o_8 hn (by decide)) (Pf.tx (z := Str.ofString " remain") (by decide +kernel) (by decide +kernel) (by decide +kernel) .nil))))))) (by decide +kernel) ?_) ?_ h
  · simp only [exT, Str.append_assoc, Str.append_empty]
  · exact Nat.le_of_ble_eq_true (by decide +kernel)
theorem mod_str1 {c n : Nat} (N : News h₀ L s.heap news) (hb : (b, ({ cls := .type "tuple", data := .seq #[.int (c : Int) u1, .int (n : Int) u3] } : Obj)) ∈ news) (hc : c < 10000) (hn : n < 10000)
    (h : ∀ t' k, Q (.str (exT (Str.ofString "string") c n) t') { s with toks := k }) : wpAny (model prog w) A (binaryOp .Mod (.str (Str.ofString "expected %d bytes in a string1, but only %d remain") t) (.ref b)) Q E s := by
  refine mod_any N hb (T := exT (Str.ofString "string") c n) (Pf.cast (Pf.tx (z := Str.ofString "expected ") (by decide +kernel) (by decide +kernel) (by decide +kernel) (Pf.d (u := u1) (Int.natCast_nonneg c) (o_8 hc (by decide)) (Pf.tx (z := Str.ofString " bytes in a string1, but only ") (by decide +kernel) (by decide +kernel) (by decide +kernel) (Pf.d (u := u3) (Int.natCast_nonneg n) (o_8 hn (by decide)) (Pf.tx (z := Str.ofString " remain") (by decide +kernel) (by decide +kernel) (by decide +kernel) .nil))))) (by decide +kernel) ?_) ?_ h
  · rw [show Str.ofString " bytes in a string1, but only " = Str.ofString " bytes in a " ++ (Str.ofString "string" ++ Str.ofString "1, but only ") by decide +kernel]
    simp only [exT, Str.append_assoc, Str.append_empty]
  · exact Nat.le_of_ble_eq_true (by decide +kernel)
theorem mod_byt1 {c n : Nat} (N : News h₀ L s.heap news) (hb : (b, ({ cls := .type "tuple", data := .seq #[.int (c : Int) u1, .int (n : Int) u3] } : Obj)) ∈ news) (hc : c < 10000) (hn : n < 10000)
    (h : ∀ t' k, Q (.str (exT (Str.ofString "bytes") c n) t') { s with toks := k }) : wpAny (model prog w) A (binaryOp .Mod (.str (Str.ofString "expected %d bytes in a bytes1, but only %d remain") t) (.ref b)) Q E s := by
  refine mod_any N hb (T := exT (Str.ofString "bytes") c n) (Pf.cast (Pf.tx (z := Str.ofString "expected ") (by decide +kernel) (by decide +kernel) (by decide +kernel) (Pf.d (u := u1) (Int.natCast_nonneg c) (o_8 hc (by decide)) (Pf.tx (z := Str.ofString " bytes in a bytes1, but only ") (by decide +kernel) (by decide +kernel) (by decide +kernel) (Pf.d (u := u3) (Int.natCast_nonneg n) (o_8 hn (by decide)) (Pf.tx (z := Str.ofString " remain") (by decide +kernel) (by decide +kernel) (by decide +kernel) .nil))))) (by decide +kernel) ?_) ?_ h
  · rw [show Str.ofString " bytes in a bytes1, but only " = Str.ofString " bytes in a " ++ (Str.ofString "bytes" ++ Str.ofString "1, but only ") by decide +kernel]
    simp only [exT, Str.append_assoc, Str.append_empty]
  · exact Nat.le_of_ble_eq_true (by decide +kernel)
end
end Mine

end
section
open Mine
namespace Mine
noncomputable abbrev tupO' (vs : List Value) : Obj := { cls := .type "tuple", data := .seq vs.toArray }
inductive Told
  | none
  | str (x : Str)
  | int (i : Nat)
  | bytes (l : List Nat)
  | refused (msg : Str)
inductive ToldIn (news : List (Addr × Obj)) : Value → Told → Prop
  | none : ToldIn news .none .none
  | str (x : Str) (t : Tok) : ToldIn news (.str x t) (.str x)
  | int (i : Nat) (t : Tok) : ToldIn news (.int (i : Int) t) (.int i)
  | bytes (l : List Nat) (t : Tok) : (∀ c ∈ l, c < 256) → ToldIn news (.bytes (Byt l) t) (.bytes l)
  | refused (d : Addr) (msg : Str) (tr tm : Tok) : (d, tupO' [.str (Str.ofString "refused") tr, .str msg tm]) ∈ news → ToldIn news (.ref d) (.refused msg)
theorem ToldIn.mono {news news' : List (Addr × Obj)} (hs : ∀ p ∈ news, p ∈ news') {v : Value} {d : Told} (h : ToldIn news v d) : ToldIn news' v d := by
  cases h with
  | none => exact .none
  | str x t => exact .str x t
  | int i t => exact .int i t
  | bytes l t h => exact .bytes l t h
  | refused d m tr tm h => exact .refused d m tr tm (hs _ h)
inductive Deed | word | str | byt | oct
noncomputable def Deed.name : Deed → Str
  | .word => Str.ofString "word"
  | .str => Str.ofString "string"
  | .byt => Str.ofString "bytes"
  | .oct => Str.ofString "octet"
noncomputable def noData : Str := Str.ofString "not enough data in stream to read uint1"
noncomputable def itemF : Deed → List Nat → Told × List Nat
  | _, [] => (.refused noData, [])
  | .oct, c :: s => (.int c, s)
  | .str, c :: s => if s.length < c then (.refused (exT (Str.ofString "string") c s.length), []) else (.str (T (s.take c)), s.drop c)
  | .byt, c :: s => if s.length < c then (.refused (exT (Str.ofString "bytes") c s.length), []) else (.bytes (s.take c), s.drop c)
  | .word, s => (.none, s)
structure MS where
  s : List Nat
  line : Int
  push : List Nat
  stuck : Option Bool
noncomputable def bMsg (k : Bool) : Str := Str.ofString (if k then "No escaped character" else "No closing quotation")
inductive StepT : MS → Deed → Told → MS → Prop
  | item {s line push stuck k td s'} : k ≠ .word → itemF k s = (td, s') → StepT ⟨s, line, push, stuck⟩ k td ⟨s', line, push, stuck⟩
  | push {s line c stuck} : StepT ⟨s, line, [c], stuck⟩ .word (.str (T [c])) ⟨s, line, [], stuck⟩
  | stuck {s line k} : StepT ⟨s, line, [], some k⟩ .word (.refused (bMsg k)) ⟨s, line, [], some k⟩
  | done {s line s' st tok line' q push td} : Run s .ws [] line false .sp (.done s' st tok line' q push) → td = (if q = false ∧ tok = [] then .none else .str (T tok)) → StepT ⟨s, line, [], none⟩ .word td ⟨s', line', push, none⟩
  | bad {s line k st tok line'} : Run s .ws [] line false .sp (.bad k st tok line') → StepT ⟨s, line, [], none⟩ .word (.refused (bMsg k)) ⟨[], line', [], some k⟩
inductive Trace : MS → List Deed → List (Told × Int) → MS → Prop
  | nil {m} : Trace m [] [] m
  | cons {m k td m' ks os m''} : StepT m k td m' → Trace m' ks os m'' → Trace m (k :: ks) ((td, m'.line) :: os) m''
theorem Trace.snoc {m m' m'' : MS} {ks : List Deed} {os : List (Told × Int)} {k : Deed} {td : Told} (h : Trace m ks os m') (x : StepT m' k td m'') : Trace m (ks ++ [k]) (os ++ [(td, m''.line)]) m'' := by
  induction h with
  | nil => exact .cons x .nil
  | cons a _ ih => exact .cons a (ih x)
noncomputable def runF : Nat → List Nat → St → List Nat → Int → Bool → ES → Option Out
  | 0, _, _, _, _, _, _ => none
  | n + 1, s, st, tok, line, q, es => match st, s with
    | .fin, _ => some (.done [] .fin [] line q [])
    | .ws, [] => some (.done [] .fin tok line q [])
    | .ws, c :: s => bif isC c then runF n s .wd [c] line q es else bif isW c then runF n s .ws [] (bump c line) false es else bif c == 35 then runF n (aft s) .ws tok (line + 1) q es else bif c == 92 then runF n s .esc tok line q .wd
      else bif isQ c then runF n s (bif c == 39 then .sq else .dq) tok line q es else some (.done s .ws [c] line q [])
    | .sq, [] => some (.bad false .sq tok line)
    | .sq, c :: s => bif c == 39 then runF n s .wd tok line true es else runF n s .sq (tok ++ [c]) (bump c line) true es
    | .dq, [] => some (.bad false .dq tok line)
    | .dq, c :: s => bif c == 34 then runF n s .wd tok line true es else bif c == 92 then runF n s .esc tok line true .dq else runF n s .dq (tok ++ [c]) (bump c line) true es
    | .esc, [] => some (.bad true .esc tok line)
    | .esc, c :: s => match es with
      | .dq => bif c == 92 || c == 34 then runF n s .dq (tok ++ [c]) (bump c line) q .dq else runF n s .dq (tok ++ [92] ++ [c]) (bump c line) q .dq
      | es => runF n s es.st (tok ++ [c]) (bump c line) q es
    | .wd, [] => some (.done [] .fin tok line q [])
    | .wd, c :: s => bif isC c then runF n s .wd (tok ++ [c]) line q es else bif isW c then some (.done s .ws tok (bump c line) q []) else bif c == 35 then some (.done (aft s) .ws tok (line + 1) q []) else bif c == 92 then runF n s .esc tok line q .wd
      else bif isQ c then runF n s (bif c == 39 then .sq else .dq) tok line q es else some (.done s .ws tok line q [c])
theorem cT {α : Type} {b : Bool} {x y : α} (h : b = true) : cond b x y = x := by rw [h]; rfl
theorem cF {α : Type} {b : Bool} {x y : α} (h : b = false) : cond b x y = y := by rw [h]; rfl
theorem beqF {c d : Nat} (h : c ≠ d) : (c == d) = false := beq_eq_false_iff_ne.mpr h
theorem noWC {c : Nat} (h : isW c = true) : isC c = false := by
  unfold isW at h
  simp only [Bool.or_eq_true, beq_iff_eq] at h
  rcases h with ((h | h) | h) | h <;> (rw [h]; rfl)
theorem Run.toF {s : List Nat} {st : St} {tok : List Nat} {line : Int} {q : Bool} {es : ES} {O : Out} (h : Run s st tok line q es O) : ∃ n, ∀ k, runF (n + k) s st tok line q es = some O := by
  induction h with
  | fin0 | ws0 | sq0 | dq0 | esc0 | wd0 => exact ⟨1, fun k => by rw [Nat.add_comm]; rfl⟩
  | wsC _ ih | wsE _ ih | wsQ _ ih | wsR _ ih | sqE _ ih | dqE _ ih | dqX _ ih | wdQ _ ih | wdR _ ih | wdE _ ih =>
    obtain ⟨n, e⟩ := ih
    exact ⟨n + 1, fun k => by rw [Nat.add_right_comm]; exact e k⟩
  | wdC => exact ⟨1, fun k => by rw [Nat.add_comm]; rfl⟩
  | wsW a b _ ih =>
    obtain ⟨n, e⟩ := ih
    exact ⟨n + 1, fun k => by rw [Nat.add_right_comm]; exact (cF (noWC b)).trans ((cT b).trans (a ▸ e k))⟩
  | wsD b _ ih =>
    obtain ⟨n, e⟩ := ih
    exact ⟨n + 1, fun k => by rw [Nat.add_right_comm]; exact (cT b).trans (e k)⟩
  | wsP a b c d f => exact ⟨1, fun k => by rw [Nat.add_comm]; exact (cF d).trans ((cF a).trans ((cF b).trans ((cF c).trans (cF f))))⟩
  | sqC a b _ ih =>
    obtain ⟨n, e⟩ := ih
    exact ⟨n + 1, fun k => by rw [Nat.add_right_comm]; exact (cF (beqF b)).trans (a ▸ e k)⟩
  | dqC a b c _ ih =>
    obtain ⟨n, e⟩ := ih
    exact ⟨n + 1, fun k => by rw [Nat.add_right_comm]; exact (cF (beqF b)).trans ((cF c).trans (a ▸ e k))⟩
  | @escC c s tok line line' q es O a b _ ih =>
    obtain ⟨n, e⟩ := ih
    refine ⟨n + 1, fun k => ?_⟩
    rw [Nat.add_right_comm]
    subst a
    cases es with
    | dq => exact (cT (by rcases b rfl with h | h <;> (rw [h]; rfl))).trans (e k)
    | sp => exact e k
    | wd => exact e k
  | escB a b c _ ih =>
    obtain ⟨n, e⟩ := ih
    exact ⟨n + 1, fun k => by rw [Nat.add_right_comm]; exact (cF (by rw [beqF b, beqF c]; rfl)).trans (a ▸ e k)⟩
  | wdW a b => exact ⟨1, fun k => by rw [Nat.add_comm]; exact (cF (noWC b)).trans ((cT b).trans (by rw [a]))⟩
  | wdD b _ ih =>
    obtain ⟨n, e⟩ := ih
    exact ⟨n + 1, fun k => by rw [Nat.add_right_comm]; exact (cT b).trans (e k)⟩
  | wdP a b c d f => exact ⟨1, fun k => by rw [Nat.add_comm]; exact (cF d).trans ((cF a).trans ((cF b).trans ((cF c).trans (cF f))))⟩
theorem Run.det {s : List Nat} {st : St} {tok : List Nat} {line : Int} {q : Bool} {es : ES} {O O' : Out} (h : Run s st tok line q es O) (h' : Run s st tok line q es O') : O = O' := by
  obtain ⟨n, e⟩ := h.toF
  obtain ⟨m, e'⟩ := h'.toF
  exact Option.some.inj ((e m).symm.trans ((congrArg (fun k => runF k s st tok line q es) (Nat.add_comm n m)).trans (e' n)))
noncomputable def outJ (td : Told) (m' : MS) : Out → Prop
  | .done s' _ tok line' q push => td = (if q = false ∧ tok = [] then .none else .str (T tok)) ∧ m' = ⟨s', line', push, none⟩
  | .bad k _ _ line' => td = .refused (bMsg k) ∧ m' = ⟨[], line', [], some k⟩
noncomputable def wordJ (td : Told) (m' : MS) (s : List Nat) (line : Int) (push : List Nat) (stuck : Option Bool) : Prop := match push, stuck with
  | [], some k => td = .refused (bMsg k) ∧ m' = ⟨s, line, [], some k⟩
  | [], none => ∃ O, Run s .ws [] line false .sp O ∧ outJ td m' O
  | [c], stuck => td = .str (T [c]) ∧ m' = ⟨s, line, [], stuck⟩
  | _ :: _ :: _, _ => False
noncomputable def stepJ (m : MS) (k : Deed) (td : Told) (m' : MS) : Prop := match k with
  | .word => wordJ td m' m.s m.line m.push m.stuck
  | k => ∃ s', itemF k m.s = (td, s') ∧ m' = ⟨s', m.line, m.push, m.stuck⟩
theorem StepT.toJ {m m' : MS} {k : Deed} {td : Told} (h : StepT m k td m') : stepJ m k td m' := by
  apply StepT.casesOn (motive := fun m k td m' _ => stepJ m k td m') h
  case item => intro s line push stuck k td s' hk e; cases k <;> first | exact absurd rfl hk | exact ⟨_, e, rfl⟩
  case done => exact fun h e => ⟨_, h, e, rfl⟩
  case bad => exact fun h => ⟨_, h, rfl, rfl⟩
  all_goals intros; exact ⟨rfl, rfl⟩
theorem StepT.det {m m1 m2 : MS} {k : Deed} {t1 t2 : Told} (h : StepT m k t1 m1) (h' : StepT m k t2 m2) : t1 = t2 ∧ m1 = m2 := by
  have both : ∀ {a : Told} {b : MS} {p q : Told} {p' q' : MS}, (p = a ∧ p' = b) → (q = a ∧ q' = b) → p = q ∧ p' = q' := fun x y => ⟨x.1.trans y.1.symm, x.2.trans y.2.symm⟩
  have item : ∀ {r r' : Told × List Nat} {g : List Nat → MS}, (∃ s', r = (t1, s') ∧ m1 = g s') → (∃ s', r = (t2, s') ∧ m2 = g s') → t1 = t2 ∧ m1 = m2 := by
    rintro r r' g ⟨s1, e1, e2⟩ ⟨s2, e3, e4⟩
    obtain ⟨e5, e6⟩ := Prod.mk.inj (e1.symm.trans e3)
    exact ⟨e5, e2.trans (e6 ▸ e4.symm)⟩
  have a := h.toJ
  have b := h'.toJ
  cases k with
  | word =>
    obtain ⟨s, line, push, stuck⟩ := m
    rcases push with _ | ⟨c, _ | ⟨d, l⟩⟩
    · cases stuck with
      | some k => exact both a b
      | none =>
        obtain ⟨O, r1, o1⟩ := a
        obtain ⟨O', r2, o2⟩ := b
        cases r1.det r2
        cases O <;> exact both o1 o2
    · exact both a b
    · exact a.elim
  | _ => exact item (r' := (t1, [])) a b
theorem Trace.det {m m1 m2 : MS} {ks : List Deed} {o1 o2 : List (Told × Int)} (h : Trace m ks o1 m1) (h' : Trace m ks o2 m2) : o1 = o2 ∧ m1 = m2 := by
  induction h generalizing o2 m2 with
  | nil => cases h'; exact ⟨rfl, rfl⟩
  | cons a _ ih =>
    cases h' with
    | cons a' b' =>
      obtain ⟨rfl, rfl⟩ := a.det a'
      obtain ⟨rfl, rfl⟩ := ih b'
      exact ⟨rfl, rfl⟩
end Mine

end
section
open Mine
theorem Mine.pre_It : PySem.Challenge.rw_in0151_01 = PySem.Challenge.rw_in0151_01 ∧ Mine.KK = Mine.KK := by
  k_with "exec While Compare cons nil" => refine Mine.Halt.out ?_
  k_with "exec While BoolOp cons nil" => refine Mine.Halt.out ?_
  k_with "call builtin:len" => ((with_reducible show wpAny _ _ (call (Value.builtin "len") [Value.str (Str.mk (List.toArray _)) _]) _ _ _); (refine Mine.len_T (by first | omega | (simp only [List.length_take, List.length_drop]; omega)) ?_); intro t'z kz; (try simp only [List.length_take, List.length_drop]))
  k_with "call builtin:len" => ((with_reducible show wpAny _ _ (call (Value.builtin "len") [Value.bytes (Mine.Byt _) _]) _ _ _); (refine Mine.len_B (by first | omega | (simp only [List.length_take, List.length_drop]; omega)) ?_); intro t'z kz; (try simp only [List.length_take, List.length_drop]))
  k_with "eval ListComp" => (k_here; k_dflt (refine Mine.comp_str (by k_asm) (by with_unfolding_all rfl) (by decide) (by rfl) (by decide) (by rfl) ?_))
  k_with "StrSrc" => (k_dflt (refine ⟨_, _, _, rfl, by rfl, by k_asm, by k_asm, ?hz_z, ?_⟩; (case hz_z => first | omega | (simp only [List.length_take, List.length_drop]; omega)); (rintro _ ⟨g'z, e'z⟩; subst e'z); (refine' Mine.ord_rest (fun c' t' I' oI' C' oC' D' m' ys' h' tk' E' hk' hC' hx' F' N' off' ne' hMark' => ?_) (fun ys' hI' => ?_)); (all_goals (try (simp only [LCg.Off3, and_true] at off'))); (all_goals (try unfold LCg.FinE))))
  k_with "call type:bytes" => ((with_reducible show wpAny _ _ (call (Value.type "bytes") [Value.ref _]) _ _ _); k_dflt (refine' Mine.bytes_at ?kF_z ?kN_z ?km_z ?ki_z ?hr_z ?hz_z ?hh_z ?_; (case kF_z => k_asm); (case kN_z => k_asm); (case km_z => k_mem); (case ki_z => assumption); (case hr_z => exact Mine.take_256 (by assumption)); (case hz_z => first | omega | (simp only [List.length_take, List.length_drop]; omega)); (case hh_z => rfl)); intro h'z t'z k'z F'z N'z)
  k_with "binaryOp Mod str ref" => (k_dflt (refine' Mine.mod_law ?kN_z ?kb_z ?kk_z ?kc_z ?kn_z ?_; (case kN_z => k_asm); (case kb_z => k_mem); (case kk_z => decide +kernel); (case kc_z => omega); (case kn_z => omega)); intro t'z k'z)
  exact ⟨rfl, rfl⟩

namespace Mine
inductive ItV (r : List Nat) (pl : Nat) (k : Deed) (news : List (Addr × Obj)) (v : Value) (n' : List (Addr × Obj)) : Prop
  | ok (D : Addr) (tv : Value) (td : Told) (p' : Nat) (tp : Tok) : itemF k (r.drop pl) = (td, r.drop p') → p' ≤ r.length → ToldIn [] tv td → v = .ref D → (∀ x ∈ news, x.1 < D) → n' = (D, tupO' [tv, .int p' tp]) :: news → ItV r pl k news v n'
  | bad (D d : Addr) (msg : Str) (p' : Nat) (tr tm tp : Tok) : itemF k (r.drop pl) = (.refused msg, r.drop p') → p' ≤ r.length → v = .ref D → (∀ x ∈ news, x.1 < d) → @LT.lt Nat _ d D →
      n' = (D, tupO' [.ref d, .int p' tp]) :: (d, tupO' [.str (Str.ofString "refused") tr, .str msg tm]) :: news → ItV r pl k news v n'
section
variable {r s' : List Nat} {pl c : Nat}
theorem item_none (k : Deed) (hk : k ≠ .word) (h : r.length ≤ pl) : itemF k (r.drop pl) = (.refused noData, r.drop pl) := by
  rw [List.drop_eq_nil_of_le h]; cases k <;> first | rfl | exact absurd rfl hk
theorem item_len (e : r.drop pl = c :: s' ∧ pl + 1 ≤ r.length) : s'.length = r.length - (pl + 1) := by
  have := congrArg List.length e.1
  simp at this
  omega
theorem item_str (e : r.drop pl = c :: s' ∧ pl + 1 ≤ r.length) (h : ¬ ((min (pl + 1 + c - (pl + 1)) (r.length - (pl + 1)) : Nat) : Int) < (c : Int)) :
    itemF .str (r.drop pl) = (.str (T ((r.drop (pl + 1)).take (pl + 1 + c - (pl + 1)))), r.drop (pl + 1 + c)) ∧ pl + 1 + c ≤ r.length := by
  have hl := item_len e
  rw [e.1, itemF, if_neg (by omega), show pl + 1 + c - (pl + 1) = c by omega, drop_succ e.1, ← List.drop_drop, drop_succ e.1]
  exact ⟨rfl, by omega⟩
theorem item_byt (e : r.drop pl = c :: s' ∧ pl + 1 ≤ r.length) (h : ¬ ((min (pl + 1 + c - (pl + 1)) (r.length - (pl + 1)) : Nat) : Int) < (c : Int)) :
    itemF .byt (r.drop pl) = (.bytes ((r.drop (pl + 1)).take (pl + 1 + c - (pl + 1))), r.drop (pl + 1 + c)) ∧ pl + 1 + c ≤ r.length := by
  have hl := item_len e
  rw [e.1, itemF, if_neg (by omega), show pl + 1 + c - (pl + 1) = c by omega, drop_succ e.1, ← List.drop_drop, drop_succ e.1]
  exact ⟨rfl, by omega⟩
theorem item_oct (e : r.drop pl = c :: s' ∧ pl + 1 ≤ r.length) : itemF .oct (r.drop pl) = (.int c, r.drop (pl + 1)) := by
  rw [e.1, itemF, drop_succ e.1]
theorem item_strB (e : r.drop pl = c :: s' ∧ pl + 1 ≤ r.length) (h : ((min (pl + 1 + c - (pl + 1)) (r.length - (pl + 1)) : Nat) : Int) < (c : Int)) :
    itemF .str (r.drop pl) = (.refused (exT (Str.ofString "string") c (min (pl + 1 + c - (pl + 1)) (r.length - (pl + 1)))), r.drop r.length) := by
  have hl := item_len e
  rw [e.1, itemF, if_pos (by omega), List.drop_length, show min (pl + 1 + c - (pl + 1)) (r.length - (pl + 1)) = s'.length by omega]
theorem item_bytB (e : r.drop pl = c :: s' ∧ pl + 1 ≤ r.length) (h : ((min (pl + 1 + c - (pl + 1)) (r.length - (pl + 1)) : Nat) : Int) < (c : Int)) :
    itemF .byt (r.drop pl) = (.refused (exT (Str.ofString "bytes") c (min (pl + 1 + c - (pl + 1)) (r.length - (pl + 1)))), r.drop r.length) := by
  have hl := item_len e
  rw [e.1, itemF, if_pos (by omega), List.drop_length, show min (pl + 1 + c - (pl + 1)) (r.length - (pl + 1)) = s'.length by omega]
end
noncomputable def itJ : Expr := match nth (fb o804.1) 5 with
  | .Return (some (.Tuple (.IfExp _ _ e _ :: _) _ _)) _ => e
  | _ => .Constant .none 0 default
theorem it_bytes {w : World} {p : Program} {loose : List Str} {mean : ExcName → Option Value} {mg mb : Str → Option Value} {dp un : Nat} {gd : Option (List Code)} {outer : List Env} {A₀ : Around} {base G : Heap} {L : Addr} {mm : Str → Option Value} {s : Shared} {Q E : Value → Shared → Prop} {news : Led} {r : List Nat} {i j : Nat} {t : Tok}
    (B : Below A₀ base outer G) (F : Fr G L s.heap (fun y => if y = Str.ofString "body" then some (.str (T ((r.drop i).take j)) t) else mm y)) (X : (Mine.KK w.params).In G) (N : News G L s.heap news) (T' : Top p loose mean mg mb G) (hd1 : dp + 1 < recursionLimit) (hd2 : un + 40 < cLine) (hb : r.length < 10000) (hr : ∀ x ∈ r, x < 256)
    (h : ∀ t' h' k', Fr G L h' (fun y => if y = Str.ofString "body" then some (.str (T ((r.drop i).take j)) t) else mm y) → News G L h' news → Q (.bytes (Byt ((r.drop i).take j)) t') { s with heap := h', toks := k' }) :
    wpAny (model PySem.Challenge.pw_in0151_01 w) (ktrTop dp un gd (Str.ofString "_law_item") (fnO o804.1 804).cs L 804 (.ref 803) [] outer) (eval itJ (envX (Str.ofString "_law_item") (fnO o804.1 804).cs L 804 (.ref 803) [])) Q E s := by
  dsimp only [itJ, fnO, fb, nth, o804]
  k_steps
  exact h _ _ _ (by assumption) (News.sub (by assumption) (by kcf_all))
theorem Ep.itJ {x : Fx} {m : Loc} {n : Led} {r : List Nat} {i j : Nat} {t : Tok} (hcl : x.cl = []) (h5 : 2 ≤ x.c) (h6 : 41 ≤ x.u) (hb : r.length < 10000) (hr : ∀ x ∈ r, x < 256) (hm : look m (Str.ofString "body") = some (.str (T ((r.drop i).take j)) t)) : Ep x (fnO o804.1 804) m n Mine.itJ (fun v => ∃ t, v = .bytes (Byt ((r.drop i).take j)) t) := Tr.mk fun s Q E ok st q ee po => by
  obtain ⟨⟨mm, F, km⟩, N⟩ := st
  have e : mm = fun y => if y = Str.ofString "body" then some (.str (T ((r.drop i).take j)) t) else mm y := by
    funext y
    split
    · next h => rw [h]; exact km _ _ hm
    · rfl
  have h1 := ok.hd
  have h2 := ok.hu
  have := it_bytes (w := x.w) (dp := x.dp) (un := x.un) (gd := x.gd) (Q := Q) (E := E) ok.B (e ▸ F) ok.X N ok.T (by omega) (by omega) hb hr (fun t' h' k' F' N' => q _ m n h' k' ⟨⟨t', rfl⟩, rfl, rfl⟩ ⟨⟨mm, e.symm ▸ F', km⟩, N'⟩)
  show wpAny _ (ktrTop x.dp x.un x.gd _ _ x.L 804 _ x.cl x.outer) (eval Mine.itJ (envX _ _ x.L 804 _ x.cl)) Q E s
  rw [hcl]
  exact this
theorem Ep.mod {x : Fx} {f : Fn} {m : Loc} {n : Led} {a : Expr} {es : List Expr} {k : Nat} {tp pos : Pos} {y z : Str} {V : List Value → Prop} (ha : Ep x f m n a (IsS y)) (he : Er x f m n es (fun vs m' n' => V vs ∧ m' = m ∧ n' = n ∧ vs.length ≤ 1000) NoX)
    (hz : ∀ {s : Shared} {D : Addr} {vs : List Value} {t : Tok} {led : Led} {Q E : Value → Shared → Prop}, V vs → News x.G x.L s.heap led → (D, (⟨.type "tuple", Option.none, .seq vs.toArray, #[]⟩ : Obj)) ∈ led → (∀ t' k, Q (.str z t') { s with toks := k }) → wpAny x.M (x.A f) (binaryOp .Mod (.str y t) (.ref D)) Q E s) :
    Ep x f m n (.BinOp a .Mod (.Tuple es k tp) pos) (IsS z) := Tr.mk fun s Q E ok st q ee po => wpAny_BinOp (ha.use ok st (fun v0 h1 t1 ⟨t, hu⟩ st1 => by
    subst hu
    refine Tuple_ ((he tp).run _ _ E ok st1 ?_ (fun _ _ _ _ _ z => z.elim) po)
    rintro vs _ _ h2 t2 ⟨hv, rfl, rfl, hl⟩ ⟨⟨mm, F, km⟩, N⟩
    refine kup_newTuple F N (fun D h' F' N' hlt => ?_) (by rw [sizeLine_eq]; omega)
    exact hz hv N' (.head _) fun t' k => q _ _ _ h' k ⟨⟨t', rfl⟩, rfl, rfl⟩ ⟨⟨mm, F', km⟩, fun p hp => N' p (.tail _ hp)⟩) po)
noncomputable def isOct : Deed → Bool
  | .oct => true
  | _ => false
noncomputable def isStr : Deed → Bool
  | .str => true
  | _ => false
theorem oct_name (k : Deed) : (k.name.cps.toList == (Str.ofString "octet").cps.toList) = isOct k := by cases k <;> decide +kernel
theorem str_name (k : Deed) : (k.name.cps.toList == (Str.ofString "string").cps.toList) = isStr k := by cases k <;> decide +kernel
theorem it_spec {w : World} (news : List (Addr × Obj)) (r : List Nat) (pl : Nat) (k : Deed) (t1 t2 t3 : Tok) (hr : ∀ x ∈ r, x < 256) (hk : k ≠ .word) :
  Con 2 w 804 news (pl ≤ r.length ∧ r.length < 9000) [.str (T r) t1, .int pl t2, .str k.name t3] (fun v n' => ItV r pl k news v n') (fun _ _ => False) := by
  refine' Con.of (binds := [(Str.ofString "row", .str (T r) t1), (Str.ofString "place", .int pl t2), (Str.ofString "deed", .str k.name t3)]) ?a ?b ?c ?d ?e ?h ?i ?j ?k ?l
  case a => k_is
  case b => k_is
  case c => exact fun s X => BindsTo.of_eq rfl
  case d => exact locs rfl
  case e => decide
  case i => exact rfl
  case j => exact rfl
  case k => exact rfl
  case l => decide
  rintro ⟨hp1, hp2⟩ x hw hc hu hcl
  show Ex x (fnO o804.1 804) _ _ (fb o804.1) _ _
  have hl : (T r).length = r.length := T_len r
  by_cases hlt : pl < r.length
  case neg =>
    refine Ex.ifT (Tp.cast (Tp.cmp (Ep.nameI rfl) (Ep.len (Ep.nameS rfl) (by rw [hl]; omega)) Co.eqI) (beq_iff_eq.mpr (by rw [hl]; omega))) ?_
    exact Ex.ret (Ev.tup (Er.cons (Ev.tup (Er.S Ep.str fun a1 => Er.S Ep.str fun a2 => Er.nil ⟨Nat.le_of_ble_eq_true rfl, fun d hd => Er.E (Ep.name rfl) (Er.nil ⟨Nat.le_of_ble_eq_true rfl, fun D hD => .bad D d noData pl a1 a2 t2 (item_none k hk (by omega)) hp1 rfl hd (hD _ (.head _)) rfl⟩)⟩))))
  obtain ⟨c, s', hd⟩ : ∃ c s, r.drop pl = c :: s := ⟨_, _, List.drop_eq_getElem_cons hlt⟩
  have e1 : r.drop pl = c :: s' ∧ pl + 1 ≤ r.length := ⟨hd, hlt⟩
  have h256 := sign_256 e1 hr
  refine Ex.ifF (Tp.cast (Tp.cmp (Ep.nameI rfl) (Ep.len (Ep.nameS rfl) (by rw [hl]; omega)) Co.eqI) (beq_eq_false_iff_ne.mpr (by rw [hl]; omega))) ?_
  refine Ex.asI (Ep.ord (Ep.item (Ep.nameS rfl) (Ep.nameI rfl) hd (by omega))) fun u1 => ?_
  refine Ex.iff (Tp.cmp (Ep.nameS rfl) Ep.str (Co.eqC (oct_name k))) (fun h => ?_) (fun h => ?_)
  · have : k = .oct := by cases k <;> first | rfl | cases h
    subst this
    exact Ex.ret (Ev.tup (Er.E (Ep.name rfl) (Er.I (Ep.bin (Ep.nameI rfl) Ep.int Bo.addI) fun a1 => Er.nil ⟨Nat.le_of_ble_eq_true rfl, fun D hD => .ok D _ _ (pl + 1) a1 (item_oct e1) hlt (.int _ _) rfl hD rfl⟩)))
  have hz : (T ((r.drop (pl + 1)).take (pl + 1 + c - (pl + 1)))).length = min (pl + 1 + c - (pl + 1)) (r.length - (pl + 1)) := by rw [T_len, List.length_take, List.length_drop]
  refine Ex.asS (z := T ((r.drop (pl + 1)).take (pl + 1 + c - (pl + 1)))) (by rw [← slice_any r (pl + 1) (pl + 1 + c) (by omega)]; exact Ep.slSS (Ep.nameS rfl) (Ep.bin (Ep.nameI rfl) Ep.int Bo.addI) (Ep.bin (Ep.bin (Ep.nameI rfl) Ep.int Bo.addI) (Ep.nameI rfl) Bo.addI) (by rw [hl]; omega)) fun u2 => ?_
  refine Ex.iff (Tp.cmp (Ep.len (Ep.nameS rfl) (by rw [hz]; omega)) (Ep.nameI rfl) Co.ltI) (fun h2 => ?_) (fun h2 => ?_)
  · have h2 := of_decide_eq_true h2
    rw [hz] at h2
    refine Ex.asS (z := exT k.name c (min (pl + 1 + c - (pl + 1)) (r.length - (pl + 1)))) (Ep.mod (V := fun vs => ∃ u u' u'', vs = [.int (c : Int) u, .str k.name u', .int ((min (pl + 1 + c - (pl + 1)) (r.length - (pl + 1)) : Nat) : Int) u'']) Ep.str (Er.E (Ep.name rfl) (Er.E (Ep.name rfl) (Er.I (Ep.len (Ep.nameS rfl) (by rw [hz]; omega)) fun a => Er.nil ⟨⟨_, _, a, by rw [hz]⟩, rfl, rfl, Nat.le_of_ble_eq_true rfl⟩))) ?_) fun u3 => ?_
    · rintro s D _ t led Q E ⟨u, u', u'', rfl⟩ N hm q
      exact mod_law N hm (by cases k <;> decide +kernel) (by omega) (by omega) q
    refine Ex.ret (Ev.tup (Er.cons (Ev.tup (Er.S Ep.str fun a1 => Er.E (Ep.name rfl) (Er.nil ⟨Nat.le_of_ble_eq_true rfl, fun d hd => Er.I (Ep.len (Ep.nameS rfl) (by rw [hl]; omega)) fun a3 => Er.nil ⟨Nat.le_of_ble_eq_true rfl, fun D hD => .bad D d _ r.length a1 u3 a3 ?_ (Nat.le_refl _) rfl hd (hD _ (.head _)) (by rw [hl])⟩⟩)))))
    cases k with
    | word => exact absurd rfl hk
    | oct => cases h
    | str => exact item_strB e1 h2
    | byt => exact item_bytB e1 h2
  · have h2 := of_decide_eq_false h2
    rw [hz] at h2
    refine Ex.ret (Ev.tup (Er.cons (Ep.go (V := fun v => ∃ td p', itemF k (r.drop pl) = (td, r.drop (pl + 1 + c)) ∧ pl + 1 + c ≤ r.length ∧ p' = pl + 1 + c ∧ ToldIn [] v td) (Ep.ife (Tp.cmp (Ep.nameS rfl) Ep.str (Co.eqC (str_name k))) (fun h3 => ?_) (fun h3 => ?_)) ?_)))
    · have : k = .str := by cases k <;> first | rfl | cases h3
      subst this
      obtain ⟨e2, e3⟩ := item_str e1 h2
      exact (Ep.nameS rfl).mono fun _ ⟨t, e⟩ => ⟨_, _, e2, e3, rfl, e ▸ .str _ _⟩
    · have : k = .byt := by cases k <;> first | rfl | (cases h3; done) | (cases h; done) | exact absurd rfl hk
      subst this
      obtain ⟨e2, e3⟩ := item_byt e1 h2
      exact (Ep.itJ hcl (by omega) (by omega) (by omega) hr rfl).mono fun _ ⟨t, e⟩ => ⟨_, _, e2, e3, rfl, e ▸ .bytes _ _ (take_256 hr)⟩
    · rintro v ⟨td, p', e2, e3, _, e4⟩
      exact Er.I (Ep.bin (Ep.bin (Ep.nameI rfl) Ep.int Bo.addI) (Ep.nameI rfl) Bo.addI) fun a1 => Er.nil ⟨Nat.le_of_ble_eq_true rfl, fun D hD => .ok D v td (pl + 1 + c) a1 e2 e3 e4 rfl hD rfl⟩
end Mine

end
section
open Mine
namespace Mine
inductive DeedsAre : List Value → List Deed → Prop
  | nil : DeedsAre [] []
  | cons {k : Deed} {t : Tok} {vs : List Value} {ks : List Deed} : DeedsAre vs ks → DeedsAre (.str k.name t :: vs) (k :: ks)
theorem DeedsAre.get {vs : List Value} {ks : List Deed} (h : DeedsAre vs ks) : ∀ {i : Nat} {v : Value}, vs[i]? = some v → ∃ k t, ks[i]? = some k ∧ v = .str k.name t := by
  induction h with
  | nil => intro i v h; simp at h
  | @cons k t vs ks _ ih =>
    intro i v h
    cases i with
    | zero => simp at h; exact ⟨k, t, by simp, h.symm⟩
    | succ i => simpa using ih (by simpa using h)
theorem DeedsAre.out {vs : List Value} {ks : List Deed} {i : Nat} {v : Value} {P : Prop} (h : DeedsAre vs ks) (hv : vs[i]? = some v) (k : ∀ d t, ks[i]? = some d → v = .str d.name t → P) : P := let ⟨d, t, a, b⟩ := h.get hv; k d t a b
theorem DeedsAre.length {vs : List Value} {ks : List Deed} (h : DeedsAre vs ks) : vs.length = ks.length := by
  induction h with
  | nil => rfl
  | cons _ ih => simp [ih]
inductive RowsIn (news : List (Addr × Obj)) : List Value → List (Told × Int) → Prop
  | nil : RowsIn news [] []
  | snoc {vs os} {a : Addr} {tv : Value} {td : Told} {i : Int} {t : Tok} : RowsIn news vs os → (a, tupO' [tv, .int i t]) ∈ news → ToldIn news tv td → RowsIn news (vs ++ [.ref a]) (os ++ [(td, i)])
theorem RowsIn.mono {news news' : List (Addr × Obj)} (hs : ∀ p ∈ news, p ∈ news') {vs : List Value} {os : List (Told × Int)} (h : RowsIn news vs os) : RowsIn news' vs os := by
  induction h with
  | nil => exact .nil
  | snoc _ a b ih => exact .snoc ih (hs _ a) (b.mono hs)
structure WaS where
  vs : List Value
  n : Nat
  tl : List (Addr × Obj)
  ms : MS
  pl : Nat
  sv : Value
  tp : Tok
  tl' : Tok
  tw : Tok
noncomputable def StuckIn (tl : List (Addr × Obj)) (sv : Value) : Option Bool → Prop
  | none => sv = .none
  | some k => ∃ d tr tm, sv = .ref d ∧ (d, tupO' [.str (Str.ofString "refused") tr, .str (bMsg k) tm]) ∈ tl
theorem StuckIn.mono {tl tl' : List (Addr × Obj)} (hs : ∀ p ∈ tl, p ∈ tl') {sv : Value} {o : Option Bool} (h : StuckIn tl sv o) : StuckIn tl' sv o := by
  cases o with
  | none => exact h
  | some k => obtain ⟨d, tr, tm, e, hm⟩ := h; exact ⟨d, tr, tm, e, hs _ hm⟩
theorem item_stuck {r : List Nat} {pl p' : Nat} {k : Deed} {td : Told} (h : itemF k (r.drop pl) = (td, r.drop p')) (hp : r.length ≤ pl) : r.length ≤ p' := by
  rw [List.drop_eq_nil_of_le hp] at h
  cases k <;> (simp [itemF] at h; exact h.2)
inductive WaR (base : List (Addr × Obj)) (r : List Nat) (ks : List Deed) (v : Value) (n' : List (Addr × Obj)) : Prop
  | mk (D R : Addr) (vs : List Value) (n : Nat) (tl : List (Addr × Obj)) (ms : MS) (os : List (Told × Int)) (tr : Tok) : Trace ⟨r, 1, [], none⟩ ks os ms → RowsIn tl vs os → (∀ p ∈ base, p ∈ tl) → v = .ref D → n' = (D, tupO' [.ref R, .str (T ms.s) tr]) :: (R, listOf vs.toArray n) :: tl → WaR base r ks v n'
theorem slice_from (r : List Nat) (i : Nat) (h : i ≤ r.length) : Txt.slice (T r) (some (i : Int)) none = T (r.drop i) := by
  have e : Txt.slice (T r) (some (i : Int)) none = Txt.slice (T r) (some (i : Int)) (some (r.length : Int)) := by
    unfold Txt.slice Builtin.Str.strSliceIndices
    rw [T_len]
    simp only [show (1 : Int) > 0 by decide, if_true, show ∀ n : Nat, ¬ ((n : Int) < 0) by intro n; omega, if_false]
    have a : max (0 : Int) (min (r.length : Int) (r.length : Int)) = (r.length : Int) := by omega
    rw [a]
  rw [e, slice_any r i r.length h, ← List.length_drop, List.take_length]
section
variable {x : Fx} {f : Fn} {m : Loc} {n : Led} {R : Flow → Loc → Led → Prop} {X : List Value → Led → Prop}
noncomputable def FPost (x : Fx) (f : Fn) {σ : Type} (ps : σ → Loc) (led : σ → Led) (P : Nat → σ → Prop) (i : Nat) (own : Led) (r : List Stmt) (R : Flow → Loc → Led → Prop) (X : List Value → Led → Prop) : Flow → Loc → Led → Prop
  | .ret v, m', n' => R (.ret v) m' n'
  | .brk, m', n' => Ex x f m' n' r R X
  | _, m', n' => ∃ c', P (i + 1) c' ∧ (∀ p ∈ ps c', look m' p.1 = some p.2) ∧ (∀ q ∈ led c', q ∈ n') ∧ (∀ q ∈ own, q ∈ n') ∧ OwnOff own ((led c').map (·.1))
theorem Ex.forL {σ : Type} {y : Str} {yp pos : Pos} {iter : Expr} {body r : List Stmt} {l : Addr} {vs : List Value} {nn : Nat} (ps : σ → Loc) (led : σ → Led) (P : Nat → σ → Prop) (c₀ : σ) (hi : Ep x f m n iter (· = .ref l))
    (hl : ∀ i c, P i c → (l, listOf vs.toArray nn) ∈ led c) (hm : ∀ p ∈ ps c₀, look m p.1 = some p.2) (hn : ∀ q ∈ led c₀, q ∈ n) (hp : P 0 c₀)
    (turn : ∀ i v c own, vs[i]? = some v → OwnOff own ((led c).map (·.1)) → P i c → Ex x f ((y, v) :: ps c) (led c ++ own) body (FPost x f ps led P i own r R X) X)
    (done : ∀ c, P vs.length c → Ex x f (ps c) (led c) r R X) (hx : (x.env f).kindOf y = some .local := by rfl) (hs : ∀ v, foldedSetIterable iter (x.env f) v = pure v := by intro _; rfl) :
    Ex x f m n (.For (.Name y yp) iter body [] pos :: r) R X := by
  refine Ex.st (R₁ := fun fl m₁ n₁ => match fl with | .next => Ex x f m₁ n₁ r R X | fl => R fl m₁ n₁) (Tr.mk fun s Q E ok st q ee po => ?_) (fun _ _ h => h) (fun fl _ _ hne h => by cases fl <;> first | exact absurd rfl hne | exact h)
  have st0 := st
  obtain ⟨⟨mm, F, km⟩, N⟩ := st
  refine For_invVF (h₀ := x.G) F hx (by have := ok.k; show ((f.cs.kind == .class) || ((f.cs.kind == .module) && _)) = false; rw [this]; rfl) (hi.run s _ E ok st0 ?_ (fun _ _ _ _ _ z => z.elim) po) hs po
  rintro v m₀ n₀ h₀ t₀ ⟨hv, e1, e2⟩ ⟨⟨mm₀, F₀, km₀⟩, N₀⟩
  subst hv e1 e2
  refine kdl_iter (news := led c₀) (fun i mm nx => ∃ c : σ, nx = led c ∧ (∀ p ∈ ps c, mm p.1 = some p.2) ∧ P i c) rfl (hl 0 c₀ hp) F₀ (fun q hq => N₀ q (hn q hq)) ⟨c₀, rfl, fun p hp => km₀ _ _ (hm p hp), hp⟩ ?_ ?_
  · rintro i v m₁ nx h tk own hv hoff _ ⟨c, rfl, hk, hP⟩ F₁ N₁
    refine (turn i v c own hv hoff hP).run _ _ E ok ⟨⟨_, F₁, fun z u e => ?_⟩, N₁⟩ ?_ (fun e h' tk' es n' hx hz => ee e h' tk' es n' hx hz) po
    · rw [look_cons] at e
      dsimp only at e ⊢
      split at e
      · next hz => rw [if_pos hz]; exact e
      · next hz => rw [if_neg hz]; exact look_of hk z u e
    · intro fl m₂ n₂ h₂ t₂ hr st₂
      cases fl with
      | ret v => exact q _ m₂ n₂ h₂ t₂ hr st₂
      | brk => exact q _ m₂ n₂ h₂ t₂ hr st₂
      | next =>
        obtain ⟨c', h3, h5, h6, h7, h8⟩ := hr
        obtain ⟨⟨mm₂, F₂, k₂⟩, N₂⟩ := st₂
        exact InvEndG.intro F₂ N₂ ⟨hl _ _ h3, c', rfl, fun p hp => k₂ _ _ (h5 p hp), h3⟩ h8 h6 h7
      | cont =>
        obtain ⟨c', h3, h5, h6, h7, h8⟩ := hr
        obtain ⟨⟨mm₂, F₂, k₂⟩, N₂⟩ := st₂
        exact InvEndG.intro F₂ N₂ ⟨hl _ _ h3, c', rfl, fun p hp => k₂ _ _ (h5 p hp), h3⟩ h8 h6 h7
  · rintro m₁ nx h tk ⟨c, rfl, hk, hP⟩ F₁ N₁
    exact q .next _ _ h tk (done c hP) ⟨⟨m₁, F₁, look_of hk⟩, N₁⟩
theorem Ev.app {y : Str} {yp ap pos : Pos} {D : Addr} {its : List Value} {k : Nat} {e : Expr} {R : Value → Loc → Led → Prop} {pl : Sem Bool} (hy : look m y = some (.ref D))
    (hm : (D, listOf its.toArray k) ∈ n) (ha : Er x f m n [e] (fun vs m₁ n₁ => ∃ v rest, vs = [v] ∧ its.length ≤ 1000 ∧ (∀ q ∈ (D, listOf its.toArray k) :: rest, q ∈ n₁) ∧ (∀ p ∈ rest, p.1 ≠ D) ∧ R .none m₁ ((D, listOf (its ++ [v]).toArray (k + 1)) :: rest)) X)
    (hx : (x.env f).kindOf y = some .local := by rfl) (hd : (y == ("__debug__" : Str)) = false := by decide)
    (he : eval (.Call (.Attribute (.Name y yp) (Str.ofString "append") ap) [e] [] pos) (x.env f) = (do
      let ov ← eval (.Name y yp) (x.env f)
      standAt ap.atName
      let (fv, first) ← holding [ov] (getMethod ov (Str.ofString "append") pl)
      callWith pos fv first (backTo pos (starEach [e] (x.env f))) []) := by rfl)
    (hs : starEach [e] (x.env f) = (false, eval e (x.env f)) :: starEach [] (x.env f) := by rfl) : Ev x f m n (.Call (.Attribute (.Name y yp) (Str.ofString "append") ap) [e] [] pos) R X :=
  Tr.mk fun s Q E ok st q ee po => MethodCall_ ((Ep.name hy hx hd).use ok st (fun v h1 t1 hv st1 => by
    subst hv
    refine listMethod_K st1.2 hm PySem.F.slot_list_append PySem.F.type_list_append ?_
    refine callWith_method1 ((ha pos).run _ _ E ok st1 ?_ ee po) hs rfl
    rintro vs m₂ n₂ h2 t2 ⟨v, rest, rfl, hlen, hsub, hne, hR⟩ ⟨⟨mm, F, km⟩, N⟩
    refine append_K F (fun q hq => N q (hsub q hq)) (Upd.head hne) (fun h' F' N' => ?_) (by rw [sizeLine_eq, List.size_toArray]; omega)
    rw [List.push_toArray] at N'
    exact q _ _ _ h' _ hR ⟨⟨mm, F', km⟩, N'⟩) po) he
theorem Tr.ain0 {vs : List Value} {R : Unit → Loc → Led → Prop} (h : R () m n) : Tr x f m n (assignInOrder [] vs) R X := Tr.mk fun s Q E ok st q ee po => assignInOrder_nil (q _ _ _ s.heap s.toks h st)
theorem Tr.ain {y : Str} {p : Pos} {v : Value} {ts : List (Value → Sem Unit)} {vs : List Value} {R : Unit → Loc → Led → Prop} (hx : (x.env f).kindOf y = some .local) (h : Tr x f ((y, v) :: m) n (assignInOrder ts vs) R X) : Tr x f m n (assignInOrder (assign (.Name y p) (x.env f) :: ts) (v :: vs)) R X :=
  Tr.mk fun s Q E ok st q ee po => assignInOrder_cons (PyProof.Rows.assign_Name ((Tr.store hx (R := fun _ m₂ n₂ => m₂ = (y, v) :: m ∧ n₂ = n) (X := X) ⟨rfl, rfl⟩).run _ _ E ok st (fun _ _ _ h2 t2 ⟨e1, e2⟩ st2 => h.run _ Q E ok (e1 ▸ e2 ▸ st2) q ee po) ee po))
theorem Ex.unp {elts : List Expr} {tp pos : Pos} {k : Nat} {e : Expr} {r : List Stmt} (h : Ev x f m n e (fun v m₁ n₁ => ∃ D vs o, v = .ref D ∧ (D, ⟨.type "tuple", none, .seq (List.toArray vs), o⟩) ∈ n₁ ∧ (assignEach elts (x.env f)).length = vs.length ∧ Tr x f m₁ n₁ (assignInOrder (List.map (fun x => x.2) (assignEach elts (x.env f))) vs) (fun _ m₂ n₂ => Ex x f m₂ n₂ r R X) X) X)
    (hs : swapsWithSole [.Tuple elts k tp] e pos.line (x.env f) = pure false := by rfl) (hs2 : swappedStores [.Tuple elts k tp] e (x.env f) = pure none := by rfl) (hf : List.findIdx? (fun x => x.1) (assignEach elts (x.env f)) = none := by rfl) : Ex x f m n (.Assign [.Tuple elts k tp] e pos :: r) R X :=
  Ex.go <| Tr.mk fun s Q E ok st q ee po => Assign_Tuple (h.run s _ E ok st (fun v m₁ n₁ h1 t1 ⟨D, vs, o, hv, hm, hl, hE⟩ ⟨⟨mm, F, km⟩, N⟩ => by
    subst hv
    refine unpackN_ F N (N.isTup hm) rfl (by rw [hl, List.size_toArray]) hf fun h' F' N' => ?_
    exact hE.run _ _ E ok ⟨⟨mm, F', km⟩, N'⟩ (fun _ m₂ n₂ h2 t2 z st2 => q _ m₂ n₂ h2 t2 ⟨rfl, z⟩ st2) ee po) ee po) hs hs2
theorem Tp.tup {y : Str} {yp : Pos} {d : Addr} {vs : List Value} (hy : look m y = some (.ref d)) (hm : (d, (⟨.type "tuple", none, .seq vs.toArray, #[]⟩ : Obj)) ∈ n) (hl : vs.length ≤ 1000) (hx : (x.env f).kindOf y = some .local := by rfl) (hd : (y == ("__debug__" : Str)) = false := by decide) : Tp x f m n (.Name y yp) (!vs.isEmpty) :=
  Tr.mk fun s Q E ok st q ee po => isTrue_plain ((Ep.name hy hx hd).use ok st (fun v h1 t1 hv st1 => by
    subst hv
    exact ktl_truthyK st1.2 hm hl (q _ _ _ _ _ ⟨rfl, rfl, rfl⟩ st1)) po) rfl
end
theorem g_item : ∀ Q, nsIn (Mine.KK Q) mainGlobals (Str.ofString "_law_item") = some (some (.ref 804)) := by intro Q; kernel_rfl
theorem k_item : ∀ Q, keepIn (Mine.KK Q) (.ref 804) = true := by intro Q; kernel_rfl
theorem g_word : ∀ Q, nsIn (Mine.KK Q) mainGlobals (Str.ofString "_law_word") = some (some (.ref 799)) := by intro Q; kernel_rfl
theorem k_word : ∀ Q, keepIn (Mine.KK Q) (.ref 799) = true := by intro Q; kernel_rfl
theorem Co.neC {y z : Str} {b : Bool} (hb : (y.cps.toList != z.cps.toList) = b) : Cop .NotEq (IsS y) (IsS z) b := by
  rintro w A E s Q _ _ ⟨t, rfl⟩ ⟨t', rfl⟩ q
  refine P.ne_str ?_
  subst hb
  exact q s.toks
noncomputable def fB : Stmt → List Stmt
  | .For _ _ b _ _ => b
  | _ => []
noncomputable def isWd : Deed → Bool
  | .word => true
  | _ => false
theorem wd_name (k : Deed) : (k.name.cps.toList != (Str.ofString "word").cps.toList) = !isWd k := by cases k <;> decide +kernel
noncomputable def waPs (r : List Nat) (t1 : Tok) (R : Addr) (c : WaS) : Loc := [(Str.ofString "row", .str (T r) t1), (Str.ofString "rows", .ref R), (Str.ofString "place", .int c.pl c.tp), (Str.ofString "line", .int c.ms.line c.tl'), (Str.ofString "waiting", .str (T c.ms.push) c.tw), (Str.ofString "stuck", c.sv)]
structure WaP (base : Led) (r : List Nat) (ks : List Deed) (R : Addr) (i : Nat) (c : WaS) (os : List (Told × Int)) : Prop where
  hb : ∀ p ∈ base, p ∈ c.tl
  hne : ∀ p ∈ c.tl, p.1 ≠ R
  hTr : Trace ⟨r, 1, [], none⟩ (ks.take i) os c.ms
  hRows : RowsIn c.tl c.vs os
  hvl : c.vs.length ≤ i
  hs : c.ms.s = r.drop c.pl
  hpl : c.pl ≤ r.length
  hpu : c.ms.push.length ≤ 1
  hst : StuckIn c.tl c.sv c.ms.stuck
  hst2 : c.ms.stuck ≠ none → r.length ≤ c.pl
theorem wa_spec {w : World} (news : List (Addr × Obj)) (r : List Nat) (t1 : Tok) (l : Addr) (dvs : List Value) (nn : Nat) (ks : List Deed) (hr : ∀ x ∈ r, x < 256) (hks : DeedsAre dvs ks) (hlen : dvs.length < 1000) :
  Con 4 w 811 ((l, listOf dvs.toArray nn) :: news) (r.length < 9000) [.str (T r) t1, .ref l]
    (fun v n' => WaR ((l, listOf dvs.toArray nn) :: news) r ks v n') (fun _ _ => False) := by
  refine' Con.of (binds := [(Str.ofString "row", .str (T r) t1), (Str.ofString "deeds", .ref l)]) ?a ?b ?c ?d ?e ?h ?i ?j ?k ?l
  case a => k_is
  case b => k_is
  case c => exact fun s X => BindsTo.of_eq rfl
  case d => exact locs rfl
  case e => decide
  case i => exact rfl
  case j => exact rfl
  case k => exact rfl
  case l => decide
  intro hlr x hw hc hu hcl
  show Ex x (fnO o811.1 811) _ _ (fb o811.1) _ _
  have hl : (T r).length = r.length := T_len r
  refine Ex.unp (Ev.tup (Er.cons (Ev.lst (Er.nil ⟨Nat.zero_le _, fun Rr hR => Er.I Ep.int fun a1 => Er.I Ep.int fun a2 => Er.S (Ep.strT T_nil) fun a3 => Er.E Ep.none (Er.nil ⟨Nat.le_of_ble_eq_true rfl, fun D hD => ⟨D, _, _, rfl, .head _, rfl, Tr.ain rfl (Tr.ain rfl (Tr.ain rfl (Tr.ain rfl (Tr.ain rfl (Tr.ain0 ?_)))))⟩⟩)⟩))))
  clear hD
  refine Ex.forL (waPs r t1 Rr) (fun c => (Rr, listOf c.vs.toArray c.n) :: c.tl) (fun i c => ∃ os, WaP ((l, listOf dvs.toArray nn) :: news) r ks Rr i c os) ⟨[], 0, (l, listOf dvs.toArray nn) :: news, ⟨r, 1, [], none⟩, 0, .none, a1, a2, a3⟩ (Ep.name rfl)
    (fun i c ⟨os, H⟩ => List.mem_cons_of_mem _ (H.hb _ (.head _))) (List.forall_mem_cons.mpr ⟨rfl, List.forall_mem_cons.mpr ⟨rfl, List.forall_mem_cons.mpr ⟨rfl, List.forall_mem_cons.mpr ⟨rfl, List.forall_mem_cons.mpr ⟨rfl, List.forall_mem_cons.mpr ⟨rfl, List.forall_mem_nil _⟩⟩⟩⟩⟩⟩) (fun q hq => .tail _ hq)
    ⟨[], ⟨fun _ h => h, fun p hp => Nat.ne_of_lt (hR p hp), .nil, .nil, Nat.le_refl _, rfl, Nat.zero_le _, Nat.zero_le _, rfl, fun h => absurd rfl h⟩⟩ ?_ ?_
  case refine_2 =>
    rintro ⟨vs, n, tl, ms, pl, sv, tp, tl', tw⟩ ⟨os, H⟩
    have hs := H.hs
    have hTr := H.hTr
    rw [hks.length, List.take_length] at hTr
    dsimp only at hs hTr
    refine Ex.ret (Ev.tup (Er.E (Ep.name rfl) (Er.S (Ep.slSN (Ep.nameS rfl) (Ep.nameI rfl) (by rw [hl]; omega)) fun tr => Er.nil ⟨Nat.le_of_ble_eq_true rfl, fun D hD => ⟨D, Rr, vs, n, tl, ms, os, tr, hTr, H.hRows, H.hb, rfl, ?_⟩⟩)))
    rw [slice_from r pl H.hpl, hs]
  rintro i v c own hv hoff ⟨os, H⟩
  have hi9 := (List.getElem?_eq_some_iff.mp hv).1
  obtain ⟨k, tt, hk9, rfl⟩ := hks.get hv
  have app : ∀ (m : Loc) (ex : Led) (tv : Value) (td : Told) (ms' : MS) (pl' : Nat) (sv' : Value) (tp' tl2 tw' : Tok) (n' : Led), look m (Str.ofString "row") = some (.str (T r) t1) → look m (Str.ofString "rows") = some (.ref Rr) → look m (Str.ofString "told") = some tv → look m (Str.ofString "place") = some (.int pl' tp') → look m (Str.ofString "line") = some (.int ms'.line tl2) → look m (Str.ofString "waiting") = some (.str (T ms'.push) tw') → look m (Str.ofString "stuck") = some sv' →
      (∀ q ∈ (Rr, listOf c.vs.toArray c.n) :: (ex ++ (c.tl ++ own)), q ∈ n') → (∀ q ∈ ex, q.1 ≠ Rr) → (∀ q ∈ ex, ∀ p ∈ own, p.1 ≠ q.1) → StepT c.ms k td ms' → ToldIn (ex ++ c.tl) tv td → ms'.s = r.drop pl' → pl' ≤ r.length → ms'.push.length ≤ 1 → StuckIn (ex ++ c.tl) sv' ms'.stuck → (ms'.stuck ≠ none → r.length ≤ pl') →
      Ex x (fnO o811.1 811) m n' ((fB (nth (fb o811.1) 1)).drop 1) (FPost x (fnO o811.1 811) (waPs r t1 Rr) (fun c => (Rr, listOf c.vs.toArray c.n) :: c.tl) (fun i c => ∃ os, WaP ((l, listOf dvs.toArray nn) :: news) r ks Rr i c os) i own ((fb o811.1).drop 2) (fun fl _ n' => WaR ((l, listOf dvs.toArray nn) :: news) r ks (retv fl) n') (fun _ _ => False)) (fun _ _ => False) := by
    intro m ex tv td ms' pl' sv' tp' tl2 tw' n' m1 m2 m3 m4 m5 m6 m7 hsub hexR hexO hStep htd hs' hpl' hpu' hst' hst2'
    refine Ex.exp (Ev.app (its := c.vs) (k := c.n) m2 (hsub _ (.head _)) (Er.cons (Ev.tup (Er.E (Ep.name m3) (Er.E (Ep.name m5) (Er.nil ⟨Nat.le_of_ble_eq_true rfl, fun D hD => Er.nil ⟨_, (D, tupO' [tv, .int ms'.line tl2]) :: (ex ++ (c.tl ++ own)), rfl, by have := H.hvl; omega, ?_, ?_, Ex.nil ?_⟩⟩))))))
    · intro q hq
      rcases List.mem_cons.mp hq with rfl | hq
      · exact .tail _ (hsub _ (.head _))
      · rcases List.mem_cons.mp hq with rfl | hq
        · exact .head _
        · exact .tail _ (hsub _ (.tail _ hq))
    · intro q hq
      rcases List.mem_cons.mp hq with rfl | hq
      · exact Nat.ne_of_gt (hD _ (hsub _ (.head _)))
      · rcases List.mem_append.mp hq with hq | hq
        · exact hexR q hq
        · rcases List.mem_append.mp hq with hq | hq
          · exact H.hne q hq
          · exact hoff q hq _ (.head _)
    · refine ⟨⟨c.vs ++ [.ref D], c.n + 1, (D, tupO' [tv, .int ms'.line tl2]) :: (ex ++ c.tl), ms', pl', sv', tp', tl2, tw'⟩, ⟨os ++ [(td, ms'.line)], fun p hp => .tail _ (List.mem_append_right _ (H.hb p hp)), fun p hp => ?_, ?_, ?_, ?_, hs', hpl', hpu', hst'.mono fun p hp => .tail _ hp, hst2'⟩, List.forall_mem_cons.mpr ⟨m1, List.forall_mem_cons.mpr ⟨m2, List.forall_mem_cons.mpr ⟨m4, List.forall_mem_cons.mpr ⟨m5, List.forall_mem_cons.mpr ⟨m6, List.forall_mem_cons.mpr ⟨m7, List.forall_mem_nil _⟩⟩⟩⟩⟩⟩, fun q hq => ?_, fun q hq => .tail _ (.tail _ (List.mem_append_right _ (List.mem_append_right _ hq))), fun p hp b hb' => ?_⟩
      · rcases List.mem_cons.mp hp with rfl | hp
        · exact Nat.ne_of_gt (hD _ (hsub _ (.head _)))
        · rcases List.mem_append.mp hp with hp | hp
          · exact hexR p hp
          · exact H.hne p hp
      · rw [List.take_add_one, hk9]
        exact H.hTr.snoc hStep
      · exact .snoc (H.hRows.mono fun p hp => .tail _ (List.mem_append_right _ hp)) (.head _) (htd.mono fun p hp => .tail _ hp)
      · rw [List.length_append]; exact Nat.succ_le_succ H.hvl
      · rcases List.mem_cons.mp hq with rfl | hq
        · exact .head _
        · rcases List.mem_cons.mp hq with rfl | hq
          · exact .tail _ (.head _)
          · rcases List.mem_append.mp hq with hq | hq
            · exact .tail _ (.tail _ (List.mem_append_left _ hq))
            · exact .tail _ (.tail _ (List.mem_append_right _ (List.mem_append_left _ hq)))
      · obtain ⟨q, hq, rfl⟩ := List.mem_map.mp hb'
        rcases List.mem_cons.mp hq with rfl | hq
        · exact hoff p hp _ (.head _)
        · rcases List.mem_cons.mp hq with rfl | hq
          · exact Nat.ne_of_lt (hD _ (hsub _ (.tail _ (List.mem_append_right _ (List.mem_append_right _ hp)))))
          · rcases List.mem_append.mp hq with hq | hq
            · exact hexO q hq p hp
            · exact hoff p hp _ (List.mem_map.mpr ⟨q, .tail _ hq, rfl⟩)
  have lo : ∀ {d : Addr} {n₂ : Led}, (∀ p ∈ (Rr, listOf c.vs.toArray c.n) :: (c.tl ++ own), @LT.lt Nat _ p.1 d) → d ≠ Rr ∧ ∀ p ∈ own, p.1 ≠ d := fun h => ⟨Nat.ne_of_gt (h _ (.head _)), fun p hp => Nat.ne_of_lt (h p (.tail _ (List.mem_append_right _ hp)))⟩
  obtain ⟨vs, n, tl, ⟨s0, line, push, stuck⟩, pl, sv, tp, tl', tw⟩ := c
  have hs := H.hs
  have hpl := H.hpl
  have hpu := H.hpu
  have hst := H.hst
  have hst2 := H.hst2
  dsimp only at hs hpl hpu hst hst2 app lo ⊢
  subst hs
  refine Ex.iff (Tp.cmp (Ep.nameS rfl) Ep.str (Co.neC (wd_name k))) (fun hk => ?_) (fun hk => ?_)
  · have hkw : k ≠ .word := by rintro rfl; cases hk
    refine Ex.unp2 (Ev.dcall g_item k_item (Er.E (Ep.name rfl) (Er.E (Ep.name rfl) (Er.E (Ep.name rfl) (Er.nil (Tr.con (lv := 2) (it_spec _ r pl k t1 tp tt hr hkw) ⟨hpl, hlr⟩ (fun _ h => h) (by omega) (by omega) ?_ (fun _ _ z => z.elim)))))))
    rintro v n' (⟨D, tv, td, p', tp', h1, h2, h3, rfl, hD, rfl⟩ | ⟨D, d, msg, p', tr, tm, tp', h1, h2, rfl, hd, hD, rfl⟩)
    · exact ⟨_, fun _ h => h, D, _, _, _, rfl, .head _, app _ [] tv td ⟨r.drop p', line, push, stuck⟩ p' sv tp' tl' tw _ rfl rfl rfl rfl rfl rfl rfl (fun q hq => .tail _ hq) (List.forall_mem_nil _) (List.forall_mem_nil _) (.item hkw h1) (h3.mono (List.forall_mem_nil _)) rfl h2 hpu hst (fun h => item_stuck h1 (hst2 h))⟩
    · exact ⟨_, fun _ h => h, D, _, _, _, rfl, .head _, app _ [(d, tupO' [.str (Str.ofString "refused") tr, .str msg tm])] (.ref d) (.refused msg) ⟨r.drop p', line, push, stuck⟩ p' sv tp' tl' tw _ rfl rfl rfl rfl rfl rfl rfl (fun q hq => by
        rcases List.mem_cons.mp hq with rfl | hq
        · exact .tail _ (.tail _ (.head _))
        · rcases List.mem_cons.mp hq with rfl | hq
          · exact .tail _ (.head _)
          · exact .tail _ (.tail _ (.tail _ hq))) (List.forall_mem_cons.mpr ⟨(lo (n₂ := []) hd).1, List.forall_mem_nil _⟩) (List.forall_mem_cons.mpr ⟨(lo (n₂ := []) hd).2, List.forall_mem_nil _⟩) (.item hkw h1) (.refused _ _ _ _ (.head _)) rfl h2 hpu (hst.mono fun p hp => .tail _ hp) (fun h => item_stuck h1 (hst2 h))⟩
  have hkw : k = .word := by cases k <;> first | rfl | cases hk
  subst hkw
  rcases push with _ | ⟨c, _ | ⟨c2, push⟩⟩
  case cons.cons => exact absurd hpu (by simp)
  case cons.nil =>
    refine Ex.ifT (Tp.val (Ep.name (v := .str (T [c]) tw) rfl) Tv.one) ?_
    refine Ex.swp2 (Ev.tup (Er.E (Ep.name rfl) (Er.S (Ep.strT T_nil) fun u => Er.nil ⟨Nat.le_of_ble_eq_true rfl, fun D hD => ⟨D, _, _, _, rfl, .head _, ?_⟩⟩)))
    exact app _ [] _ (.str (T [c])) ⟨r.drop pl, line, [], stuck⟩ pl sv tp tl' u _ rfl rfl rfl rfl rfl rfl rfl (fun q hq => .tail _ hq) (List.forall_mem_nil _) (List.forall_mem_nil _) .push (.str _ _) rfl hpl (Nat.zero_le _) hst hst2
  case nil =>
  refine Ex.ifF (Tp.val (Ep.name (v := .str (T []) tw) rfl) (Tv.txt (l := []) (by decide))) ?_
  rcases stuck with _ | kk
  case some =>
    obtain ⟨d, tr, tm, rfl, hmem⟩ := hst
    refine Ex.ifT (Tp.tup (vs := [.str (Str.ofString "refused") tr, .str (bMsg kk) tm]) rfl (.tail _ (List.mem_append_left _ hmem)) (Nat.le_of_ble_eq_true rfl)) ?_
    refine Ex.asE (Ep.name rfl) ?_
    exact app _ [] _ (.refused (bMsg kk)) ⟨r.drop pl, line, [], some kk⟩ pl (.ref d) tp tl' tw _ rfl rfl rfl rfl rfl rfl rfl (fun q hq => hq) (List.forall_mem_nil _) (List.forall_mem_nil _) .stuck (.refused _ _ _ _ hmem) rfl hpl (Nat.zero_le _) ⟨_, _, _, rfl, hmem⟩ hst2
  case none =>
  cases hst
  refine Ex.ifF (Tp.val (Ep.name (v := .none) rfl) Tv.none) ?_
  refine Ex.unp (Ev.dcall g_word k_word (Er.E (Ep.name rfl) (Er.E (Ep.name rfl) (Er.nil (Tr.con (lv := 3) (wo_spec _ r pl t1 tp hr) ⟨hpl, by omega⟩ (fun _ h => h) (by omega) (by omega) ?_ (fun _ _ z => z.elim))))))
  have hln : ∀ kk : Nat, ∀ v, IsI kk v → Fi (inplaceOp .Add (.int line tl') v) (IsI (line + (kk : Int))) := fun kk v hv => Io.addI v hv
  rintro v n' (⟨D, st, tok, kk, q, push, p', W, tt2, tp2, tk2, tw2, hRun, hp', rfl, hD, hpush, rfl, hq, rfl⟩ | ⟨D, kk, p', tp2, tk2, tw2, hRun, hp', rfl, hD, rfl⟩ | ⟨D, d, esc, st, tok, kk, tr, tm, tp2, tk2, tw2, hRun, rfl, hd, hD, rfl⟩)
  · refine ⟨_, fun _ h => h, D, _, _, rfl, .head _, rfl, Tr.ain rfl (Tr.ain rfl (Tr.ain rfl (Tr.ain rfl (Tr.ain0 ?_))))⟩
    refine Ex.aug rfl (Ep.nameI rfl) (hln kk) ?_
    rintro _ ⟨u, rfl⟩
    refine Ex.asE (v := .none) (Ep.ife (c := false) (Tp.val (Ev.isi rfl Tr.isiS) Tv.bool) (fun h => nomatch h) (fun _ => Ep.none)) ?_
    exact app _ [] _ (.str (T tok)) ⟨r.drop p', line + (kk : Int), push, none⟩ p' .none tp2 u tw2 _ rfl rfl rfl rfl rfl rfl rfl (fun q hq => .tail _ hq) (List.forall_mem_nil _) (List.forall_mem_nil _) (.done (hRun line) (if_neg hq).symm) (.str _ _) rfl hp' hpush rfl (fun h => absurd rfl h)
  · refine ⟨_, fun _ h => h, D, _, _, rfl, .head _, rfl, Tr.ain rfl (Tr.ain rfl (Tr.ain rfl (Tr.ain rfl (Tr.ain0 ?_))))⟩
    refine Ex.aug rfl (Ep.nameI rfl) (hln kk) ?_
    rintro _ ⟨u, rfl⟩
    refine Ex.asE (v := .none) (Ep.ife (c := false) (Tp.val (Ev.isi rfl Tr.isiN) Tv.bool) (fun h => nomatch h) (fun _ => Ep.none)) ?_
    exact app _ [] _ .none ⟨r.drop p', line + (kk : Int), [], none⟩ p' .none tp2 u tw2 _ rfl rfl rfl rfl rfl (by rw [← T_nil]; rfl) rfl (fun q hq => .tail _ hq) (List.forall_mem_nil _) (List.forall_mem_nil _) (.done (hRun line) (if_pos ⟨rfl, rfl⟩).symm) .none rfl hp' (Nat.zero_le _) rfl (fun h => absurd rfl h)
  · refine ⟨_, fun _ h => h, D, _, _, rfl, .head _, rfl, Tr.ain rfl (Tr.ain rfl (Tr.ain rfl (Tr.ain rfl (Tr.ain0 ?_))))⟩
    refine Ex.aug rfl (Ep.nameI rfl) (hln kk) ?_
    rintro _ ⟨u, rfl⟩
    refine Ex.asE (v := .ref d) (Ep.ife (c := true) (Tp.val (Ev.isi rfl (Tr.isiT (.tail _ (.head _)) rfl)) Tv.bool) (fun _ => Ep.name rfl) (fun h => nomatch h)) ?_
    exact app _ [(d, tupO' [.str (Str.ofString "refused") tr, .str (bMsg esc) tm])] _ (.refused (bMsg esc)) ⟨[], line + (kk : Int), [], some esc⟩ r.length (.ref d) tp2 u tw2 _ rfl rfl rfl rfl rfl (by rw [← T_nil]; rfl) rfl (fun q hq => by
        rcases List.mem_cons.mp hq with rfl | hq
        · exact .tail _ (.tail _ (.head _))
        · rcases List.mem_cons.mp hq with rfl | hq
          · exact .tail _ (.head _)
          · exact .tail _ (.tail _ (.tail _ hq))) (List.forall_mem_cons.mpr ⟨(lo (n₂ := []) hd).1, List.forall_mem_nil _⟩) (List.forall_mem_cons.mpr ⟨(lo (n₂ := []) hd).2, List.forall_mem_nil _⟩) (.bad (hRun line)) (.refused _ _ _ _ (.head _)) (by rw [List.drop_length]) (Nat.le_refl _) (Nat.zero_le _) ⟨_, _, _, rfl, .head _⟩ (fun _ => Nat.le_refl _)
end Mine

end
section
open Mine
namespace Mine
noncomputable def TxS (B : Nat) (S : Str) : Prop := S.length ≤ B ∧ ∀ c ∈ S.cps.toList, c < 256
noncomputable def TxV (B : Nat) (v : Value) : Prop := ∃ S t, v = .str S t ∧ TxS B S
noncomputable def InV (lo hi : Int) (v : Value) : Prop := ∃ i t, v = .int i t ∧ lo ≤ i ∧ i ≤ hi
noncomputable def DeV (v : Value) : Prop := ∃ (k : Deed) (t : Tok), v = .str k.name t ∧ k ≠ .word
theorem TxS.lit (B : Nat) (S : Str) (h : (S.cps.size ≤ B) ∧ S.cps.toList.all (fun c => decide (c < 256)) = true) : TxS B S := ⟨h.1, fun c hc => by
  have := List.all_eq_true.mp h.2 c hc
  simpa using this⟩
theorem TxS.mono {B C : Nat} {S : Str} (h : TxS B S) (hb : B ≤ C) : TxS C S := ⟨Nat.le_trans h.1 hb, h.2⟩
theorem TxS.app {B C : Nat} {X Y : Str} (h : TxS B X) (g : TxS C Y) : TxS (B + C) (X ++ Y) := by
  refine ⟨by rw [Str.length_append]; exact Nat.add_le_add h.1 g.1, fun c hc => ?_⟩
  rw [Str.cps_append, Array.toList_append] at hc
  rcases List.mem_append.mp hc with hc | hc
  · exact h.2 c hc
  · exact g.2 c hc
theorem TxS.toT {B : Nat} {S : Str} (h : TxS B S) : ∃ l, S = T l ∧ l.length ≤ B ∧ ∀ c ∈ l, c < 256 := ⟨S.cps.toList, by cases S; rfl, by simpa [Str.length] using h.1, h.2⟩
theorem TxS.out {B : Nat} {S : Str} {P : Prop} (h : TxS B S) (k : ∀ l, S = T l → l.length ≤ B → (∀ c ∈ l, c < 256) → P) : P := let ⟨l, a, b, c⟩ := h.toT; k l a b c
theorem T_of (S : Str) : S = T S.cps.toList := by cases S; rfl
theorem TxS.from {B : Nat} {S : Str} {k : Int} (h : TxS B S) (h0 : 0 ≤ k) (h1 : k < S.length) : TxS B (Txt.slice S (some k) none) ∧ 1 ≤ (Txt.slice S (some k) none).length := by
  have e : Txt.slice S (some k) none = Txt.slice S (some k) (some (S.length : Int)) := by
    unfold Txt.slice
    rw [StrLaws.sliceIdx_none_hi]
  have hl : S.length = S.cps.toList.length := by simp [Str.length]
  obtain ⟨j, rfl⟩ := Int.eq_ofNat_of_zero_le h0
  have e2 : Txt.slice S (some (j : Int)) (some (S.length : Int)) = T ((S.cps.toList.drop j).take (S.length - j)) := by
    have := slice_T S.cps.toList j S.length (by omega) (by omega)
    rw [← T_of] at this
    exact this
  rw [e, e2]
  refine ⟨⟨?_, fun c hc => h.2 c (List.mem_of_mem_drop (List.mem_of_mem_take (by simpa using hc)))⟩, ?_⟩
  · rw [T_len, List.length_take, List.length_drop]
    have := h.1
    omega
  · rw [T_len, List.length_take, List.length_drop]
    omega
theorem slice_mem {x : Str} {l u : Option Int} : ∀ c ∈ (Txt.slice x l u).cps.toList, c ∈ x.cps.toList := by
  intro c hc
  unfold Txt.slice at hc
  split at hc
  · exact hc
  · rw [List.toList_toArray, List.mem_filterMap] at hc
    obtain ⟨i, _, hi⟩ := hc
    exact Array.mem_toList_iff.mpr (Array.mem_of_getElem? hi)
theorem TxS.slice {B : Nat} {S : Str} {l u : Option Int} (h : TxS B S) : TxS B (Txt.slice S l u) := ⟨Nat.le_trans (Txt.slice_le S _ _) h.1, fun c hc => h.2 c (slice_mem c hc)⟩
section
variable {prog : Program} {w : World} {A : Around} {E : Value → Shared → Prop} {s : Shared} {t u : Tok} {Q : Value → Shared → Prop} {h₀ : Heap} {L : Addr} {m : Str → Option Value} {news : List (Addr × Obj)}
theorem dig_mod {a k : Int} (hk : 0 < k) (h : ∀ d t' k', 0 ≤ d → d < k → Q (.int d t') { s with toks := k' }) : wpAny (model prog w) A (binaryOp .Mod (.int a t) (.int k u)) Q E s :=
  mod_int (by omega) (h _ _ _ (Int.fmod_nonneg_of_pos a hk) (Int.fmod_lt_of_pos a hk))
theorem tup_pick (P : Value → Prop) {value slice : PySem.Expr} {D : Addr} {vs : List Value} {n : Nat} {k : Int} (N : News h₀ L s.heap news) (hm : (D, ({ cls := .type "tuple", data := .seq vs.toArray n } : Obj)) ∈ news) (h0 : 0 ≤ k) (h1 : k < (vs.length : Int)) (hz : (vs.length : Int) < 2 ^ 60) (hP : ∀ v ∈ vs, P v)
    (h : ∀ v, P v → Q v s) (hs : subscripted slice false (.ref D) (.int k u) = operate [.ref D, .int k u] (getItem (.ref D) (.int k u)) := by with_unfolding_all rfl) : wpAny (model prog w) A (subscriptTail value slice (.ref D) (.int k u)) Q E s := by
  have ht : IsTup s.heap D vs.toArray := ⟨_, (N _ hm).1, rfl, _, rfl⟩
  obtain ⟨j, rfl⟩ := Int.eq_ofNat_of_zero_le h0
  have hj : j < vs.length := by omega
  exact item_tupleT (j := j) (x := vs[j]) ht (by omega) (by omega) (StrLaws.seqIndex_nonneg h0 h1) (List.getElem?_eq_getElem hj) (h _ (hP _ (List.getElem_mem hj))) hs
theorem add_tx {B C : Nat} {X Y : Str} (h1 : TxS B X) (h2 : TxS C Y) (hb : B + C ≤ 10000) (h : ∀ S t' k, TxS (B + C) S → Q (.str S t') { s with toks := k }) : wpAny (model prog w) A (binaryOp .Add (.str X t) (.str Y u)) Q E s := by
  have hl := (h1.app h2).1
  rw [Str.length_append] at hl
  exact add_str (fun _ _ => h _ _ _ (h1.app h2)) (by rw [sizeLine_eq]; have := h1.1; have := h2.1; omega)
theorem iadd_tx {B C : Nat} {X Y : Str} (h1 : TxS B X) (h2 : TxS C Y) (hb : B + C ≤ 10000) (h : ∀ S t' k, TxS (B + C) S → Q (.str S t') { s with toks := k }) : wpAny (model prog w) A (inplaceOp .Add (.str X t) (.str Y u)) Q E s := by
  have hA := h1.app h2
  obtain ⟨a, rfl, ha, _⟩ := h1.toT
  obtain ⟨b', rfl, hb', _⟩ := h2.toT
  rw [T_app] at hA
  exact iadd_T (by omega) (fun _ _ => h _ _ _ hA)
theorem chr_tx {i : Int} (h0 : 0 ≤ i) (h1 : i < 256) (h : ∀ S t' k, TxS 1 S → Q (.str S t') { s with toks := k }) : wpAny (model prog w) A (call (.builtin "chr") [.int i t]) Q E s :=
  chr_of_range h0 (by omega) (h _ _ _ ⟨Nat.le_refl _, fun c hc => by
    have : c = i.toNat := by simpa using hc
    omega⟩)
theorem slice_sn_tx {B : Nat} {x : Str} {i : Int} {ui : Tok} {value slice : PySem.Expr} (hF : Fr h₀ L s.heap m) (hN : News h₀ L s.heap news) (hx : TxS B x) (hB : B ≤ 10000) (h0 : 0 ≤ i) (h1 : i < x.length) (h : ∀ S h' t' k, TxS B S → 1 ≤ S.length → Fr h₀ L h' m → News h₀ L h' news → Q (.str S t') { s with heap := h', toks := k })
    (hs : subscripted slice false (.str x t) (.ref s.heap.objs.size) = operate [.ref s.heap.objs.size, .str x t] (getItem (.str x t) (.ref s.heap.objs.size)) := by with_unfolding_all rfl)
    (ht : ∀ r, letTemporaryGo value (.str x t) r = pure () := by intro _; with_unfolding_all rfl) :
    wpAny (model prog w) A (subscriptTail value slice (.str x t) (.ref s.heap.objs.size)) Q E { s with heap := s.heap.push { cls := .type "slice", data := .fields #[.int i ui, .none, .none] } } :=
  slice_strN_sn hF hN (fun h' t' k a b => h _ h' t' k (hx.from h0 h1).1 (hx.from h0 h1).2 a b) hs ht (by have := hx.1; rw [sizeLine_eq]; omega)
theorem slice_ns_tx {B : Nat} {x : Str} {j : Int} {uj : Tok} {value slice : PySem.Expr} (hF : Fr h₀ L s.heap m) (hN : News h₀ L s.heap news) (hx : TxS B x) (hB : B ≤ 10000) (h : ∀ S h' t' k, TxS B S → Fr h₀ L h' m → News h₀ L h' news → Q (.str S t') { s with heap := h', toks := k })
    (hs : subscripted slice false (.str x t) (.ref s.heap.objs.size) = operate [.ref s.heap.objs.size, .str x t] (getItem (.str x t) (.ref s.heap.objs.size)) := by with_unfolding_all rfl)
    (ht : ∀ r, letTemporaryGo value (.str x t) r = pure () := by intro _; with_unfolding_all rfl) :
    wpAny (model prog w) A (subscriptTail value slice (.str x t) (.ref s.heap.objs.size)) Q E { s with heap := s.heap.push { cls := .type "slice", data := .fields #[.none, .int j uj, .none] } } :=
  slice_strN_ns hF hN (fun h' t' k a b => h _ h' t' k hx.slice a b) hs ht (by have := hx.1; rw [sizeLine_eq]; omega)
theorem item0_tx {B : Nat} {x : Str} {value slice : PySem.Expr} (hx : TxS B x) (hB : B ≤ 10000) (h1 : 1 ≤ x.length) (h : ∀ S t' k, TxS 1 S → Q (.str S t') { s with toks := k })
    (hs : subscripted slice false (.str x t) (.int 0 u) = operate [.str x t, .int 0 u] (getItem (.str x t) (.int 0 u)) := by with_unfolding_all rfl)
    (ht : ∀ r, letTemporaryGo value (.str x t) r = pure () := by intro _; with_unfolding_all rfl) :
    wpAny (model prog w) A (subscriptTail value slice (.str x t) (.int 0 u)) Q E s := by
  obtain ⟨l, rfl, hl, hc⟩ := hx.toT
  rw [T_len] at h1
  exact item_T (pl := 0) (by omega) (by omega) (fun c s' hd tk k => h _ _ _ ⟨Nat.le_refl _, fun d hd' => by
    have e : d = c := by simpa using hd'
    rw [e]
    exact hc c (by have := hd.1; rw [List.drop_zero] at this; rw [this]; exact .head _)⟩) hs ht
end
section
variable {prog : Program} {w : World} {A : Around} {E : Value → Shared → Prop} {s : Shared} {t u : Tok} {Q : Value → Shared → Prop} {h₀ : Heap} {L : Addr} {news : List (Addr × Obj)} {D D2 : Addr} {n n2 : Nat}
theorem eq_item0 (N : News h₀ L s.heap news) (h1 : (D, W.listOf #[] n) ∈ news) (h2 : (D2, W.listOf #[.str (Str.ofString "octet") u] n2) ∈ news) (hu : A.units + 64 < cLine) (h : Q (.bool false) s) : wpAny (model prog w) A (compareOp .Eq (.ref D) (.ref D2)) Q E s :=
  eq_dataH (reads_list_at (News.get N h1) rfl rfl .nil) (reads_list_at (News.get N h2) rfl rfl (.cons (Reads.str _ _) .nil)) (by decide) (by decide +kernel) hu (by
    rw [show PyData.eqv (.list []) (.list [.str (Str.ofString "octet")]) = false by decide +kernel]
    exact h)
theorem truthy_item0 {Q : Bool → Shared → Prop} (N : News h₀ L s.heap news) (h1 : (D, W.listOf #[] n) ∈ news) (h : ∀ k, Q false { s with toks := k }) : wpAny (model prog w) A (truthy (.ref D)) Q E s :=
  wpAny_truthy_list (items := #[]) ⟨_, (N _ h1).1, rfl, _, rfl⟩ (by decide) (h _)
theorem truthy_item1 {v : Value} {Q : Bool → Shared → Prop} (N : News h₀ L s.heap news) (h1 : (D, W.listOf #[v] n) ∈ news) (h : ∀ k, Q true { s with toks := k }) : wpAny (model prog w) A (truthy (.ref D)) Q E s :=
  wpAny_truthy_list (items := #[v]) ⟨_, (N _ h1).1, rfl, _, rfl⟩ (by show ((1 : Nat) : Int) < 2 ^ 63; omega) (h _)
theorem eq_item1 {x : Str} {b : Bool} (N : News h₀ L s.heap news) (h1 : (D, W.listOf #[.str x t] n) ∈ news) (h2 : (D2, W.listOf #[.str (Str.ofString "octet") u] n2) ∈ news) (hu : A.units + 64 < cLine) (hs : SeqAt.shaped (.list [.str x]) = true) (hb : PyData.eqv (.list [.str x]) (.list [.str (Str.ofString "octet")]) = b) (h : Q (.bool b) s) : wpAny (model prog w) A (compareOp .Eq (.ref D) (.ref D2)) Q E s :=
  eq_dataH (reads_list_at (News.get N h1) rfl rfl (.cons (Reads.str _ _) .nil)) (reads_list_at (News.get N h2) rfl rfl (.cons (Reads.str _ _) .nil)) hs (by decide +kernel) hu (by
    rw [hb]
    exact h)
end
theorem comp_end {h₀ : Heap} {L I C D : Addr} {m : Str → Option Value} {s₁ : Shared} {oI oC oD : Obj} {S : List (Addr × Obj) → Prop} {rest : Value → List (Addr × Obj) → Prop} {y : Value} {h' : Heap} {tk : Nat} {news' : List (Addr × Obj)}
    (F : Fr h₀ L h' m) (N : News h₀ L h' ((I, oI) :: (C, oC) :: (D, oD) :: news')) (off : LCg.Off3 I C D news') (hS : S news') (r : rest y news') :
    LCg.CompEnd h₀ L m s₁ I oI C oC D oD S rest y { s₁ with heap := h', toks := tk } := ⟨h', tk, news', rfl, F, N, off, hS, r⟩
theorem DeedsAre.w {t : Tok} {vs : List Value} {ks : List Deed} (h : DeedsAre vs ks) : DeedsAre (.str (Str.ofString "word") t :: vs) (.word :: ks) := .cons (k := .word) h
theorem DeedsAre.s {t : Tok} {vs : List Value} {ks : List Deed} (h : DeedsAre vs ks) : DeedsAre (.str (Str.ofString "string") t :: vs) (.str :: ks) := .cons (k := .str) h
theorem DeedsAre.b {t : Tok} {vs : List Value} {ks : List Deed} (h : DeedsAre vs ks) : DeedsAre (.str (Str.ofString "bytes") t :: vs) (.byt :: ks) := .cons (k := .byt) h
theorem DeedsAre.o {t : Tok} {vs : List Value} {ks : List Deed} (h : DeedsAre vs ks) : DeedsAre (.str (Str.ofString "octet") t :: vs) (.oct :: ks) := .cons (k := .oct) h
theorem DeV.s {t : Tok} : DeV (.str (Str.ofString "string") t) := ⟨.str, t, rfl, fun h => nomatch h⟩
theorem DeV.b {t : Tok} : DeV (.str (Str.ofString "bytes") t) := ⟨.byt, t, rfl, fun h => nomatch h⟩
theorem DeV.o {t : Tok} : DeV (.str (Str.ofString "octet") t) := ⟨.oct, t, rfl, fun h => nomatch h⟩
section
variable {M : Model} {A : Around} {E : Value → Shared → Prop} {s : Shared} {Q : Flow → Shared → Prop} {h₀ : Heap} {L : Addr} {m : Str → Option Value} {news : List (Addr × Obj)} {env : Env} {x : Str} {B : Nat}
noncomputable def SetEnd (h₀ : Heap) (L : Addr) (m : Str → Option Value) (news : List (Addr × Obj)) (x : Str) (B : Nat) (s : Shared) (fl : Flow) (s' : Shared) : Prop :=
  fl = .next ∧ ∃ h' tk' S' t', s' = { s with heap := h', toks := tk' } ∧ TxS B S' ∧ Fr h₀ L h' (fun y => if y = x then some (.str S' t') else m y) ∧ News h₀ L h' news
theorem SetEnd.set {h' : Heap} {tk' : Nat} {S' : Str} {t' : Tok} (F : Fr h₀ L h' (fun y => if y = x then some (.str S' t') else m y)) (N : News h₀ L h' news) (hS : TxS B S') : SetEnd h₀ L m news x B s .next { s with heap := h', toks := tk' } := ⟨rfl, h', tk', S', t', rfl, hS, F, N⟩
theorem SetEnd.stay {h' : Heap} {tk' : Nat} {S' : Str} {t' : Tok} (F : Fr h₀ L h' m) (N : News h₀ L h' news) (hx : m x = some (.str S' t')) (hS : TxS B S') : SetEnd h₀ L m news x B s .next { s with heap := h', toks := tk' } := by
  refine ⟨rfl, h', tk', S', t', rfl, hS, ?_, N⟩
  have e : (fun y => if y = x then some (Value.str S' t') else m y) = m := by
    funext y
    by_cases h : y = x
    · rw [if_pos h, h, hx]
    · rw [if_neg h]
  rw [e]
  exact F
theorem if_set {test : PySem.Expr} {body orelse : List Stmt} {pos : Pos} (x : Str) (B : Nat) (_F : Fr h₀ L s.heap m) (_N : News h₀ L s.heap news)
    (h1 : wpAny M A (exec (.If test body orelse pos) env) (SetEnd h₀ L m news x B s) E s)
    (h2 : ∀ h' tk' S' t', TxS B S' → Fr h₀ L h' (fun y => if y = x then some (.str S' t') else m y) → News h₀ L h' news → Q .next { s with heap := h', toks := tk' }) : wpAny M A (exec (.If test body orelse pos) env) Q E s := by
  refine wpAny_mono h1 (fun fl s' ⟨e, h', tk', S', t', e2, hS, F', N'⟩ => ?_) fun _ _ h => h
  subst e e2
  exact h2 h' tk' S' t' hS F' N'
end
end Mine

end
section
open Mine
namespace Mine
open LCg in
section
variable {prog : Program} {w : World} {A : Around} {E : Value → Shared → Prop} {s : Shared} {h₀ : Heap} {L : Addr} {m : Str → Option Value} {env : Env} {elt : PySem.Expr} {x x₂ : Str} {scope : Scope} {cl : List (Str × Addr)} {S : List (Addr × Obj) → Prop} {P : Nat → Value → Prop} {Fin : List Value → List (Addr × Obj) → Prop} {n : Nat} {news : List (Addr × Obj)}
theorem compEnd_mono {s₁ : Shared} {I C D : Addr} {oI oC oD : Obj} {r r' : Value → List (Addr × Obj) → Prop} {y : Value} {s₂ : Shared} (hr : ∀ y n, r y n → r' y n) (h : LCg.CompEnd h₀ L m s₁ I oI C oC D oD S r y s₂) : LCg.CompEnd h₀ L m s₁ I oI C oC D oD S r' y s₂ := by
  obtain ⟨h', tk, n', e, F, N, off, hS, hr'⟩ := h
  exact ⟨h', tk, n', e, F, N, off, hS, hr _ _ hr'⟩
theorem comp_inv (J : Nat → List Value → List (Addr × Obj) → Prop) (h0 : J 0 [] news)
    (step : ∀ i ys nw, i < n → J i ys nw → ∀ v I oI C oC D m₂ h tk (E' : Value → Shared → Prop), P i v → LCg.NsObj oC m₂ → m₂ x = some v → Fr h₀ L h m → News h₀ L h ((I, oI) :: (C, oC) :: (D, LCg.lst ys) :: nw) → LCg.Off3 I C D nw → ((@Ne Nat I C) ∧ (@Ne Nat I D) ∧ (@Ne Nat C D)) →
      wpAny (model prog w) A (eval elt (compEnvC scope cl C env)) (LCg.CompEnd h₀ L m { s with heap := h, toks := tk } I oI C oC D (LCg.lst ys) S (fun y nw' => J (i + 1) (ys ++ [y]) nw')) E' { s with heap := h, toks := tk })
    (fin : ∀ ys nw, J n ys nw → Fin ys nw) : LCg.CompRest prog w A h₀ L m env elt x scope cl s S P Fin n 0 [] news := by
  have key : ∀ (j i : Nat) (ys : List Value) (nw : List (Addr × Obj)), i + j = n → J i ys nw → LCg.CompRest prog w A h₀ L m env elt x scope cl s S P Fin j i ys nw := by
    intro j
    induction j with
    | zero =>
      intro i ys nw hi hJ
      have e : i = n := by omega
      subst e
      exact LCg.CompRest.zero (fin ys nw hJ)
    | succ j ih =>
      intro i ys nw hi hJ
      refine LCg.CompRest.succ ?_
      intro v I oI C oC D m₂ h tk E' hv hC hx F N off ne
      exact wpAny_mono (step i ys nw (by omega) hJ v I oI C oC D m₂ h tk E' hv hC hx F N off ne) (fun y s₂ hq => compEnd_mono (fun y n' hJ' => ih (i + 1) _ _ (by omega) hJ') hq) fun _ _ e => e
  exact key n 0 [] news (by omega) h0
theorem comp_invP (J : Nat → List Value → List (Addr × Obj) → Prop) (h0 : J 0 [] news)
    (step : ∀ i ys nw, i < n → J i ys nw → ∀ v, P i v → ∃ (t : Addr) (ot : Obj) (v₁ v₂ : Value) (nt : Nat), v = .ref t ∧ (t, ot) ∈ nw ∧ ot.cls = .type "tuple" ∧ ot.data = .seq #[v₁, v₂] nt ∧
      ∀ I oI C oC D m₂ h tk (E' : Value → Shared → Prop), LCg.NsObj oC m₂ → m₂ x = some v₁ → m₂ x₂ = some v₂ → Fr h₀ L h m → News h₀ L h ((I, oI) :: (C, oC) :: (D, LCg.lst ys) :: nw) → LCg.Off3 I C D nw → ((@Ne Nat I C) ∧ (@Ne Nat I D) ∧ (@Ne Nat C D)) →
      wpAny (model prog w) A (eval elt (compEnvC scope cl C env)) (LCg.CompEnd h₀ L m { s with heap := h, toks := tk } I oI C oC D (LCg.lst ys) S (fun y nw' => J (i + 1) (ys ++ [y]) nw')) E' { s with heap := h, toks := tk })
    (fin : ∀ ys nw, J n ys nw → Fin ys nw) : LCp.CompRestP prog w A h₀ L m env elt x x₂ scope cl s S P Fin n 0 [] news := by
  have key : ∀ (j i : Nat) (ys : List Value) (nw : List (Addr × Obj)), i + j = n → J i ys nw → LCp.CompRestP prog w A h₀ L m env elt x x₂ scope cl s S P Fin j i ys nw := by
    intro j
    induction j with
    | zero =>
      intro i ys nw hi hJ
      have e : i = n := by omega
      subst e
      exact LCp.CompRestP.zero (fin ys nw hJ)
    | succ j ih =>
      intro i ys nw hi hJ
      refine LCp.CompRestP.succ ?_
      intro v hv
      obtain ⟨t, ot, v₁, v₂, nt, h1, h2, h3, h4, h5⟩ := step i ys nw (by omega) hJ v hv
      refine ⟨t, ot, v₁, v₂, nt, h1, h2, h3, h4, ?_⟩
      intro I oI C oC D m₂ h tk E' hC hx hx2 F N off ne
      exact wpAny_mono (h5 I oI C oC D m₂ h tk E' hC hx hx2 F N off ne) (fun y s₂ hq => compEnd_mono (fun y n' hJ' => ih (i + 1) _ _ (by omega) hJ') hq) fun _ _ e => e
  exact key n 0 [] news (by omega) h0
end
noncomputable def NumJ (news : List (Addr × Obj)) (i : Nat) (ys : List Value) (nw : List (Addr × Obj)) : Prop := nw = news ∧ ∃ ns : List Int, IntsAre ys ns ∧ ns.length = i ∧ ∀ k ∈ ns, 0 ≤ k ∧ k < 100000000
theorem NumJ.out {news nw : List (Addr × Obj)} {i : Nat} {ys : List Value} {P : Prop} (h : NumJ news i ys nw) (k : ∀ ns, nw = news → IntsAre ys ns → ns.length = i → (∀ k ∈ ns, 0 ≤ k ∧ k < 100000000) → P) : P := by
  obtain ⟨e, ns, a, b, c⟩ := h
  exact k ns e a b c
theorem NumJ.nil {news : List (Addr × Obj)} : NumJ news 0 [] news := ⟨rfl, [], .nil, rfl, List.forall_mem_nil _⟩
theorem NumJ.step {news nw : List (Addr × Obj)} {i : Nat} {ys : List Value} {d : Int} {t : Tok} (h : NumJ news i ys nw) (h0 : 0 ≤ d) (h1 : d < 100000000) : NumJ news (i + 1) (ys ++ [.int d t]) nw := by
  obtain ⟨e, ns, hi, hl, hb⟩ := h
  refine ⟨e, ns ++ [d], IntsAre.append hi (.cons d t .nil), by simp [hl], fun k hk => ?_⟩
  rcases List.mem_append.mp hk with hk | hk
  · exact hb k hk
  · rw [List.mem_singleton.mp hk]
    exact ⟨h0, h1⟩
end Mine

end
section
open Mine
set_option maxHeartbeats 400000
namespace Mine
noncomputable def PcR (news : List (Addr × Obj)) (v : Value) (n' : List (Addr × Obj)) : Prop :=
  ∃ (D Wd : Addr) (dvs : List Value) (ks : List Deed) (l : List Nat) (tl : Tok) (nn : Nat), v = .ref D ∧ DeedsAre dvs ks ∧ dvs.length ≤ 4 ∧ l.length ≤ 150 ∧ (∀ c ∈ l, c < 256) ∧ (∀ q ∈ news, @LT.lt Nat _ q.1 D) ∧ (∀ q ∈ news, @LT.lt Nat _ q.1 Wd) ∧ n' = (D, tupO' [.str (T l) tl, .ref Wd]) :: (Wd, W.listOf dvs.toArray nn) :: news
theorem PcR.intro {news : List (Addr × Obj)} {D Wd : Addr} {dvs : List Value} {ks : List Deed} {S : Str} {tl : Tok} {nn : Nat} {B : Nat} (hS : TxS B S) (hB : B ≤ 150) (h : DeedsAre dvs ks) (hl : dvs.length ≤ 4) (h1 : ∀ q ∈ news, @LT.lt Nat _ q.1 D) (h2 : ∀ q ∈ news, @LT.lt Nat _ q.1 Wd) :
    PcR news (.ref D) ((D, tupO' [.str S tl, .ref Wd]) :: (Wd, W.listOf dvs.toArray nn) :: news) := by
  obtain ⟨l, rfl, hl', hc⟩ := (hS.mono hB).toT
  exact ⟨D, Wd, dvs, ks, l, tl, nn, rfl, h, hl, hl', hc, h1, h2, rfl⟩
theorem deeds_of : ∀ {vs : List Value}, (∀ v ∈ vs, ∃ (k : Deed) (t : Tok), v = .str k.name t) → ∃ ks, DeedsAre vs ks
  | [], _ => ⟨_, .nil⟩
  | v :: vs, h => by
    obtain ⟨k, t, e⟩ := h v (.head _)
    obtain ⟨ks, hk⟩ := deeds_of fun u hu => h u (.tail _ hu)
    exact ⟨k :: ks, e ▸ .cons hk⟩
noncomputable def Dl (b : Nat) (vs : List Value) : Prop := vs.length ≤ b ∧ ∀ v ∈ vs, ∃ (k : Deed) (t : Tok), v = .str k.name t
theorem Dl.app {a b : Nat} {vs ws : List Value} (h : Dl a vs) (g : Dl b ws) : Dl (a + b) (vs ++ ws) := ⟨by rw [List.length_append]; exact Nat.add_le_add h.1 g.1, fun v hv => (List.mem_append.mp hv).elim (h.2 v) (g.2 v)⟩
theorem Dl.mono {a b : Nat} {vs : List Value} (h : Dl a vs) (g : a ≤ b) : Dl b vs := ⟨Nat.le_trans h.1 g, h.2⟩
noncomputable def D12 (vs : List Value) : Prop := ∃ (k : Deed) (t : Tok), vs = [.str k.name t] ∨ ∃ (k' : Deed) (t' : Tok), vs = [.str k.name t, .str k'.name t']
theorem D12.dl {vs : List Value} (h : D12 vs) : Dl 2 vs := by
  obtain ⟨k, t, rfl | ⟨k', t', rfl⟩⟩ := h
  · exact ⟨Nat.le_succ _, List.forall_mem_cons.mpr ⟨⟨k, t, rfl⟩, List.forall_mem_nil _⟩⟩
  · exact ⟨Nat.le_refl _, List.forall_mem_cons.mpr ⟨⟨k, t, rfl⟩, List.forall_mem_cons.mpr ⟨⟨k', t', rfl⟩, List.forall_mem_nil _⟩⟩⟩
theorem D12.hd {vs : List Value} (h : D12 vs) : Dl 1 (kms_pick vs none (some 1)) := by
  obtain ⟨k, t, rfl | ⟨k', t', rfl⟩⟩ := h <;> exact ⟨Nat.le_refl _, List.forall_mem_cons.mpr ⟨⟨k, t, rfl⟩, List.forall_mem_nil _⟩⟩
theorem D12.tl {vs : List Value} (h : D12 vs) : Dl 1 (kms_pick vs (some 1) none) := by
  obtain ⟨k, t, rfl | ⟨k', t', rfl⟩⟩ := h
  · exact ⟨Nat.zero_le _, List.forall_mem_nil _⟩
  · exact ⟨Nat.le_refl _, List.forall_mem_cons.mpr ⟨⟨k', t', rfl⟩, List.forall_mem_nil _⟩⟩
noncomputable def D01 (vs : List Value) : Prop := vs = [] ∨ ∃ v, vs = [v] ∧ DeV v
theorem DeV.any {v : Value} (h : DeV v) : ∃ (k : Deed) (t : Tok), v = .str k.name t := let ⟨k, t, e, _⟩ := h; ⟨k, t, e⟩
theorem D01.dl {vs : List Value} (h : D01 vs) : Dl 1 vs := by
  rcases h with rfl | ⟨v, rfl, h⟩
  · exact ⟨Nat.zero_le _, List.forall_mem_nil _⟩
  · exact ⟨Nat.le_refl _, List.forall_mem_cons.mpr ⟨h.any, List.forall_mem_nil _⟩⟩
section
variable {α : Type} {x : Fx} {f : Fn} {m : Loc} {n : Led} {R : Flow → Loc → Led → Prop} {X : List Value → Led → Prop}
theorem Con.ofC {lv : Nat} {w : World} {fa : Addr} {news : Led} {pre : Prop} {vs : List Value} {R : Value → Led → Prop}
    {name qual : Str} {params : Arguments} {body : List Stmt} {scope : Scope} {dV kV doc pm cdv ct oc : Value} {an od : Option Addr} {osl : Array (Option Value)} {binds : List (Str × Value)}
    (ho : (Mine.KK w.params).lookup fa = some ⟨oc, od, .func (fnOf name qual params body scope dV kV doc pm an cdv ct), osl⟩) (hcd : codeIn (Mine.KK w.params) cdv qual = true)
    (hbind : ∀ s : Shared, (Mine.KK w.params).In s.heap → BindsTo s (fnOf name qual params body scope dV kV doc pm an cdv ct) ⟨vs, []⟩ binds) (hloc : (binds.all fun y => scope.names.lookup y.1 == some .local || scope.names.lookup y.1 == some .cell) = true)
    (hnd : ((cellsFrom 0 scope.names []).map (·.1)).Nodup) (hlv : 0 < lv)
    (h : pre → ∀ (x : Fx) (cells : Led), x.w = w → x.c = 5 * lv - 1 → x.u = 40 * lv - 3 → x.cl = cellsFrom (x.L + 1) scope.names [] → CellsAre (bindC (x.env ⟨qual, scope, fa, cdv⟩).kindOf binds fun _ => none) x.cl cells → Ex x ⟨qual, scope, fa, cdv⟩ [] (cells ++ news) body (fun fl _ n' => R (retv fl) n') NoX)
    (hco : scope.isCoroutine = false) (hgen : scope.isGenerator = false) (hk : scope.kind = .function) : Con lv w fa news pre vs R (fun _ _ => False) := by
  intro p loose mean mg mb dp un gd cn cs a ccd cl outer A₀ base h₀ L m s Q E B F X N T hck hpre hdp hun ret rai
  refine wpAny_call (code_defC (env := envX cn cs L a ccd cl) (outer := outer) B F X N T rfl rfl hck ho hcd ?_ (hbind s (X.keeps F.keep)) hloc hnd ?_ hco hgen hk)
  · show dp < recursionLimit
    omega
  intro G LL h1 tk cells FG F1 N1 Y1 B1 X1 T1 l1
  refine (h hpre ⟨w, p, loose, mean, mg, mb, dp + 1, un + 3, 5 * lv - 1, 40 * lv - 3, gd, cellsFrom (LL + 1) scope.names [], envX cn cs L a ccd cl :: outer, _, base, G, LL⟩ cells rfl rfl rfl rfl Y1).run _ _ _ ⟨B1, X1, T1, hk, (by show dp + 1 + (5 * lv - 1) < recursionLimit; omega), (by show un + 3 + (40 * lv - 3) < cLine; omega)⟩ ⟨⟨_, F1, fun _ _ e => nomatch e⟩, N1⟩ ?_ (fun _ _ _ _ _ z => z.elim) PassesOwn.leaving
  rintro fl m' n' h' tk' r ⟨⟨mm, F', _⟩, N'⟩
  exact ⟨LL, mm, n', F', N', fun F₂ N₂ => by
    have := ret (retv fl) h' tk' n' r F₂ N₂
    cases fl <;> exact this⟩
theorem Tr.post {t : Sem α} {R R' : α → Loc → Led → Prop} (h : Tr x f m n t R' X) (k : ∀ a m' n', R' a m' n' → ∃ n₂, (∀ q ∈ n₂, q ∈ n') ∧ R a m' n₂) : Tr x f m n t R X := Tr.mk fun s Q E ok st q ee po => h.run s Q E ok st (fun a m' n' h' tk' r st' => by
  obtain ⟨n₂, hs, hr⟩ := k a m' n' r
  exact q a m' n₂ h' tk' hr ⟨st'.1, fun p hp => st'.2 p (hs p hp)⟩) ee po
noncomputable def Pw (x : Fx) (f : Fn) (m : Loc) (n : Led) (es : List Expr) (P : Value → Prop) : Prop := Er x f m n es (fun vs m' n' => (vs.length = es.length ∧ ∀ v ∈ vs, P v) ∧ m' = m ∧ n' = n) NoX
theorem Pw.nil {P : Value → Prop} : Pw x f m n [] P := Er.nil ⟨⟨rfl, List.forall_mem_nil _⟩, rfl, rfl⟩
theorem Er.mono {es : List Expr} {K K' : List Value → Loc → Led → Prop} (h : Er x f m n es K NoX) (k : ∀ vs m' n', K vs m' n' → K' vs m' n') : Er x f m n es K' X := fun pos => (h pos).mono k (fun _ _ z => z.elim)
theorem Pw.cons {P : Value → Prop} {e : Expr} {r : List Expr} (h : Ep x f m n e P) (hr : Pw x f m n r P) (hs : starEach (e :: r) (x.env f) = (false, eval e (x.env f)) :: starEach r (x.env f) := by rfl) : Pw x f m n (e :: r) P :=
  Er.cons (h.go fun v hv => Er.mono hr fun vs m' n' ⟨⟨h1, h2⟩, h3⟩ => ⟨⟨congrArg (· + 1) h1, List.forall_mem_cons.mpr ⟨hv, h2⟩⟩, h3⟩) hs
theorem Ep.pick {es : List Expr} {k : Nat} {tp pos : Pos} {ix : Expr} {P : Value → Prop} {hi : Int} (h : Pw x f m n es P) (hix : ∀ n', (∀ q ∈ n, q ∈ n') → Ep x f m n' ix (InV 0 hi)) (hl : hi < (es.length : Int)) (hz : es.length ≤ 1000)
    (hs : ∀ D i u, subscripted ix false (.ref D) (.int i u) = operate [.ref D, .int i u] (getItem (.ref D) (.int i u)) := by intros; with_unfolding_all rfl) : Ep x f m n (.Subscript (.Tuple es k tp) ix pos) P :=
  Tr.mk fun s Q E ok st q ee po => Subscript_ ((Ev.tup (R := fun v m₁ n₁ => m₁ = m ∧ ∃ (D : Addr) (vs : List Value), v = .ref D ∧ vs.length = es.length ∧ (∀ v ∈ vs, P v) ∧ n₁ = (D, ⟨.type "tuple", Option.none, .seq vs.toArray, #[]⟩) :: n) (h.mono fun vs m₁ n₁ ⟨⟨h1, h2⟩, e1, e2⟩ => by
      subst e1 e2
      exact ⟨by omega, fun D hD => ⟨rfl, D, vs, rfl, h1, h2, rfl⟩⟩)).run s _ E ok st (fun v m₁ n₁ h1 t1 ⟨e1, D, vs, e2, hv1, hv2, e3⟩ st1 => by
    subst e1 e2 e3
    refine (hix _ (fun q hq => .tail _ hq)).run _ _ E ok st1 (fun u m₂ n₂ h2 t2 ⟨⟨i, t, e4, i0, i1⟩, e5, e6⟩ st2 => ?_) (fun _ _ _ _ _ z => z.elim) po
    subst e4 e5 e6
    exact tup_pick P st2.2 (.head _) i0 (by omega) (by omega) hv2 (fun v hv => q v _ n h2 t2 ⟨hv, rfl, rfl⟩ ⟨st2.1, fun p hp => st2.2 p (.tail _ hp)⟩) (hs _ _ _)) ee po)
theorem Ep.fig {y : Str} {yp cp pos : Pos} {i : Int} {c : Nat} {P : Value → Prop} {vs : List Value} {D : Addr} (hy : look m y = some (.ref D)) (hm : (D, LCg.lst vs) ∈ n) (hP : ∀ v ∈ vs, P v) (h0 : 0 ≤ i) (h1 : i < (vs.length : Int)) (hz : i < 2 ^ 63) (hx : (x.env f).kindOf y = some .local := by rfl) (hd : (y == ("__debug__" : Str)) = false := by decide)
    (hs : ∀ u, subscripted (.Constant (.int i) c cp) false (.ref D) (.int i u) = operate [.ref D, .int i u] (getItem (.ref D) (.int i u)) := by intros; with_unfolding_all rfl) (ht : ∀ z, letTemporaryGo (.Name y yp) (.ref D) z = pure () := by intros; with_unfolding_all rfl) : Ep x f m n (.Subscript (.Name y yp) (.Constant (.int i) c cp) pos) P :=
  Tr.mk fun s Q E ok st q ee po => Subscript_ ((Ep.name hy hx hd).run s _ E ok st (fun v m₁ n₁ h1' t1 ⟨e1, e2, e3⟩ st1 => (Ep.int).run _ _ E ok st1 (fun u m₂ n₂ h2 t2 ⟨⟨t, e4⟩, e5, e6⟩ st2 => by
    subst e1 e4
    obtain ⟨j, rfl⟩ := Int.eq_ofNat_of_zero_le h0
    have hj : j < vs.length := by omega
    exact kim_list (x := vs[j]) (e3 ▸ e6 ▸ st2.2) hm rfl rfl h0 hz (List.getElem?_eq_getElem hj) (q _ _ _ _ _ ⟨hP _ (List.getElem_mem hj), e5.trans e2, e6.trans e3⟩ st2) (hs _) ht) (fun _ _ _ _ _ z => z.elim) po) (fun _ _ _ _ _ z => z.elim) po)
theorem Ep.nameC {y : Str} {pos : Pos} {c : Addr} {o : Obj} {v : Value} (hc : x.cl.lookup y = some c) (hm : (c, o) ∈ n) (ho : o.data = .cell (some v)) (hk : (x.env f).kindOf y = some .cell) (hd : (y == ("__debug__" : Str)) = false := by decide) : Ep x f m n (.Name y pos) (· = v) :=
  Tr.mk fun s Q E ok st q _ _ => nameX_C st.2 hc hm ho (q v m n s.heap s.toks ⟨rfl, rfl, rfl⟩ st) ok.k hk hd
theorem Ep.lit {y : Str} {k : Nat} {pos : Pos} {B : Nat} (h : y.cps.size ≤ B ∧ y.cps.toList.all (fun c => decide (c < 256)) = true) : Ep x f m n (.Constant (.str y) k pos) (TxV B) := Ep.str.mono fun _ ⟨t, e⟩ => ⟨y, t, e, TxS.lit B y h⟩
theorem Ep.cint {i lo hi : Int} {k : Nat} {pos : Pos} (h0 : lo ≤ i) (h1 : i ≤ hi) : Ep x f m n (.Constant (.int i) k pos) (InV lo hi) := Ep.int.mono fun _ ⟨t, e⟩ => ⟨i, t, e, h0, h1⟩
theorem Ep.nm {y : Str} {pos : Pos} {v : Value} {V : Value → Prop} (hy : look m y = some v) (hv : V v) (hx : (x.env f).kindOf y = some .local := by rfl) (hd : (y == ("__debug__" : Str)) = false := by decide) : Ep x f m n (.Name y pos) V := (Ep.name hy hx hd).mono fun _ e => e ▸ hv
noncomputable def AnI (v : Value) : Prop := ∃ i t, v = .int i t
theorem InV.any {lo hi : Int} (v : Value) (h : InV lo hi v) : AnI v := let ⟨i, t, e, _⟩ := h; ⟨i, t, e⟩
theorem Ep.modC {e : Expr} {i : Int} {k : Nat} {cp pos : Pos} (h : Ep x f m n e AnI) (hi0 : 0 < i) : Ep x f m n (.BinOp e .Mod (.Constant (.int i) k cp) pos) (InV 0 (i - 1)) :=
  Ep.bin h Ep.int (by
    rintro _ _ ⟨a, t, rfl⟩ ⟨u, rfl⟩ w A E s Q _ q
    exact dig_mod hi0 fun d t' k' h0 h1 => q _ k' ⟨d, t', rfl, h0, by omega⟩)
theorem Bo.addX {a b : Nat} (hb : a + b ≤ 10000) : ∀ u v, TxV a u → TxV b v → Fi (binaryOp .Add u v) (TxV (a + b)) := by
  rintro _ _ ⟨S, t, rfl, h1⟩ ⟨S', t', rfl, h2⟩ w A E s Q _ q
  exact add_tx h1 h2 hb fun S t k h => q _ k ⟨S, t, rfl, h⟩
theorem Ep.addX {l r : Expr} {pos : Pos} {a b : Nat} (hl : Ep x f m n l (TxV a)) (hr : Ep x f m n r (TxV b)) (hb : a + b ≤ 10000) : Ep x f m n (.BinOp l .Add r pos) (TxV (a + b)) := Ep.bin hl hr (Bo.addX hb)
theorem Ep.chrX {p pos : Pos} {e : Expr} {lo hi : Int} (h : Ep x f m n e (InV lo hi)) (h0 : 0 ≤ lo) (h1 : hi < 256)
    (he : eval (.Call (.Name (Str.ofString "chr") p) [e] [] pos) (x.env f) = (do callWith pos (← eval (.Name (Str.ofString "chr") p) (x.env f)) [] (backTo pos (starEach [e] (x.env f))) (backToKw pos (keywordEach [] (x.env f)))) := by rfl)
    (hs : starEach [e] (x.env f) = (false, eval e (x.env f)) :: starEach [] (x.env f) := by rfl) (hx : (x.env f).kindOf (Str.ofString "chr") = some .globalImplicit := by rfl) : Ep x f m n (.Call (.Name (Str.ofString "chr") p) [e] [] pos) (TxV 1) :=
  Ep.call1 (by intro Q; kernel_rfl) (by boot_by_name) (by decide) h (by
    rintro _ ⟨i, t, rfl, h2, h3⟩ w A E s Q _ q
    exact chr_tx (Int.le_trans h0 h2) (Int.lt_of_le_of_lt h3 h1) fun S t k h => q _ k ⟨S, t, rfl, h⟩) he hs hx
theorem Ep.mulX {y : Str} {i : Int} {k k2 : Nat} {p1 p2 pos : Pos} (hx : y.length ≤ 16) (h0 : -(2 ^ 63 : Int) ≤ i) (h1 : i ≤ ((1048576 : Nat) : Int)) : Ep x f m n (.BinOp (.Constant (.str y) k p1) .Mult (.Constant (.int i) k2 p2) pos) (IsS (Txt.mul y i)) :=
  Ep.bin Ep.str Ep.int (by
    rintro _ _ ⟨t, rfl⟩ ⟨u, rfl⟩ w A E s Q _ q
    exact SB.mul (mulOk_of 16 1048576 (by omega) h1 h0 (by decide) (by decide)) fun t' k => q _ k ⟨t', rfl⟩)
noncomputable def Tq (x : Fx) (f : Fn) (m : Loc) (n : Led) (e : Expr) : Prop := Tr x f m n (isTrue e (x.env f) (eval e (x.env f))) (fun _ m' n' => m' = m ∧ n' = n) NoX
theorem Tq.cmp {l r : Expr} {op : CmpOp} {pos : Pos} {Vl : Value → Prop} (hl : Ep x f m n l Vl)
    (hr : Ev x f m n r (fun vr m₁ n₁ => m₁ = m ∧ (∀ q ∈ n, q ∈ n₁) ∧ ∀ vl, Vl vl → ∀ (s : Shared) (Q E : Value → Shared → Prop), x.Ok f → News x.G x.L s.heap n₁ → (∀ b k, Q (.bool b) { s with toks := k }) → wpAny x.M (x.A f) (compareOp op vl vr) Q E s) NoX) (hm : behindInMarks op r = false := by with_unfolding_all rfl) : Tq x f m n (.Compare l [op] [r] pos) :=
  Tr.mk fun s Q E ok st q ee po => wpAny_isTrue_Compare1 (hl.run s _ E ok st (fun vl _ _ h1 t1 ⟨e1, e2, e3⟩ st1 => by
    subst e2 e3
    refine hr.run _ _ E ok st1 (fun vr m₂ n₂ h2 t2 ⟨e4, hs, hc⟩ st2 => ?_) (fun _ _ _ _ _ z => z.elim) po
    subst e4
    exact hc vl e1 _ _ _ ok st2.2 fun b k => wpAny_truthy_bool (q b _ _ h2 k ⟨rfl, rfl⟩ ⟨st2.1, fun p hp => st2.2 p (hs p hp)⟩)) (fun _ _ _ _ _ z => z.elim) po) hm
theorem Tq.cmpI {l : Expr} {op : CmpOp} {pos cp : Pos} {lo hi i : Int} {c : Nat} (hl : Ep x f m n l (InV lo hi)) (ho : ∀ a t u w A E s Q, (∀ b, Q (.bool b) s) → wpAny (model PySem.Challenge.pw_in0151_01 w) A (compareOp op (.int a t) (.int i u)) Q E s) (hm : behindInMarks op (.Constant (.int i) c cp) = false := by with_unfolding_all rfl) : Tq x f m n (.Compare l [op] [.Constant (.int i) c cp] pos) :=
  Tq.cmp hl (Ep.int.go fun v ⟨u, e⟩ => ⟨rfl, fun _ h => h, fun vl ⟨a, t, e2, _⟩ s Q E _ _ q => e ▸ e2 ▸ ho a t u _ _ _ s Q fun b => q b s.toks⟩) hm
theorem Tq.val {e : Expr} {V : Value → Prop} (h : Ep x f m n e V) (hv : ∀ v, V v → ∀ (s : Shared) (Q : Bool → Shared → Prop) (E : Value → Shared → Prop), News x.G x.L s.heap n → (∀ b k, Q b { s with toks := k }) → wpAny x.M (x.A f) (truthy v) Q E s) (hp : isTrue e (x.env f) (eval e (x.env f)) = (do
      let v ← eval e (x.env f)
      standAt e.pos
      holding [v] (truthy v)) := by rfl) : Tq x f m n e := Tr.mk fun s Q E ok st q ee po => isTrue_plain (h.use ok st (fun v h1 t1 e1 st1 => by
    skip
    exact hv v e1 _ _ E st1.2 fun b k => q b _ _ _ _ ⟨rfl, rfl⟩ st1) po) hp
theorem Ex.ifq {test : Expr} {a b r : List Stmt} {pos : Pos} (ht : Tq x f m n test) (h1 : Ex x f m n (a ++ r) R X) (h2 : Ex x f m n (b ++ r) R X) : Ex x f m n (.If test a b pos :: r) R X :=
  Tr.seq (t₂ := fun c => if c then execs (a ++ r) (x.env f) else execs (b ++ r) (x.env f)) (fun s Q E h => wpAny_ifs h) (ht.mono (fun _ _ _ h => h) (fun _ _ z => z.elim)) (fun v m₁ n₁ ⟨e1, e2⟩ => by
    subst e1 e2
    cases v with
    | true => exact h1
    | false => exact h2)
theorem Ev.ifq {t b o : Expr} {pos : Pos} {R : Value → Loc → Led → Prop} (ht : Tq x f m n t) (h1 : Ev x f m n b R X) (h2 : Ev x f m n o R X) : Ev x f m n (.IfExp t b o pos) R X := Tr.mk fun s Q E ok st q ee po => IfExp_ (ht.run s _ E ok st (fun v m₀ n₀ h' t' ⟨e1, e2⟩ st1 => by
    subst e1 e2
    cases v with
    | true => exact ite_tt (h1.run _ Q E ok st1 q ee po)
    | false => exact ite_ff (h2.run _ Q E ok st1 q ee po)) (fun _ _ _ _ _ z => z.elim) po)
noncomputable def Lv (x : Fx) (f : Fn) (m : Loc) (n : Led) (e : Expr) (P : List Value → Prop) : Prop := Ev x f m n e (fun v m' n' => m' = m ∧ (∀ q ∈ n, q ∈ n') ∧ ∃ (D : Addr) (vs : List Value) (k : Nat), v = .ref D ∧ P vs ∧ (D, W.listOf vs.toArray k) ∈ n') NoX
theorem Lv.lst {es : List Expr} {pos : Pos} {V : Value → Prop} {P : List Value → Prop} (h : Pw x f m n es V) (hz : es.length ≤ 1000) (k : ∀ vs, vs.length = es.length → (∀ v ∈ vs, V v) → P vs) : Lv x f m n (.List es pos) P :=
  Ev.lst (h.mono fun vs m' n' ⟨⟨h1, h2⟩, e1, e2⟩ => ⟨by omega, fun D _ => ⟨e1, fun q hq => .tail _ (e2 ▸ hq), D, vs, 0, rfl, k vs h1 h2, .head _⟩⟩)
theorem Lv.name {y : Str} {pos : Pos} {D : Addr} {vs : List Value} {k : Nat} {P : List Value → Prop} (hy : look m y = some (.ref D)) (hm : (D, W.listOf vs.toArray k) ∈ n) (hP : P vs) (hx : (x.env f).kindOf y = some .local := by rfl) (hd : (y == ("__debug__" : Str)) = false := by decide) : Lv x f m n (.Name y pos) P :=
  (Ep.name hy hx hd).go fun _ e => ⟨rfl, fun _ h => h, D, vs, k, e, hP, hm⟩
theorem Lv.ifq {t b o : Expr} {pos : Pos} {P : List Value → Prop} (ht : Tq x f m n t) (h1 : Lv x f m n b P) (h2 : Lv x f m n o P) : Lv x f m n (.IfExp t b o pos) P := Ev.ifq ht h1 h2
theorem Lv.mono {e : Expr} {P P' : List Value → Prop} (h : Lv x f m n e P) (k : ∀ vs, P vs → P' vs) : Lv x f m n e P' := Tr.mono h (fun _ _ _ ⟨h1, h2, D, vs, j, h3, h4, h5⟩ => ⟨h1, h2, D, vs, j, h3, k vs h4, h5⟩) (fun _ _ z => z)
theorem Ev.addL {l r : Expr} {pos : Pos} {P₁ P₂ : List Value → Prop} {R : Value → Loc → Led → Prop} (hl : Lv x f m n l P₁) (hr : ∀ n', (∀ q ∈ n, q ∈ n') → Lv x f m n' r P₂) (hz : ∀ vs ws, P₁ vs → P₂ ws → vs.length + ws.length ≤ 1000)
    (k : ∀ D vs ws n', P₁ vs → P₂ ws → (∀ q ∈ n, q ∈ n') → (∀ q ∈ n', @LT.lt Nat _ q.1 D) → R (.ref D) m ((D, W.listOf (vs ++ ws).toArray 0) :: n')) : Ev x f m n (.BinOp l .Add r pos) R X :=
  Tr.mk fun s Q E ok st q ee po => wpAny_BinOp (hl.run s _ E ok st (fun a m₁ n₁ h1 t1 ⟨e1, hs1, D1, vs, k1, e2, p1, hm1⟩ st1 => by
    subst e1 e2
    refine (hr n₁ hs1).run _ _ E ok st1 (fun b m₂ n₂ h2 t2 ⟨e3, hs2, D2, ws, k2, e4, p2, hm2⟩ st2 => ?_) (fun _ _ _ _ _ z => z.elim) po
    subst e3 e4
    obtain ⟨⟨mm, F, km⟩, N⟩ := st2
    exact kmk_add_lit F N (N.isList (hs2 _ hm1)) (N.isList hm2) (zs := vs ++ ws) rfl (fun D h' F' N' hlt => q _ _ _ h' _ (k D vs ws _ p1 p2 (fun q hq => hs2 q (hs1 q hq)) hlt) ⟨⟨mm, F', km⟩, N'⟩) (by rw [sizeLine_eq]; exact Nat.le_trans (hz vs ws p1 p2) (Nat.le_of_ble_eq_true rfl))) (fun _ _ _ _ _ z => z.elim) po)
theorem Lv.add {l r : Expr} {pos : Pos} {a b : Nat} (hl : Lv x f m n l (Dl a)) (hr : ∀ n', (∀ q ∈ n, q ∈ n') → Lv x f m n' r (Dl b)) (hz : a + b ≤ 1000) : Lv x f m n (.BinOp l .Add r pos) (Dl (a + b)) :=
  Ev.addL hl hr (fun _ _ h g => Nat.le_trans (Nat.add_le_add h.1 g.1) hz) fun D vs ws n' h g hs _ => ⟨rfl, fun q hq => .tail _ (hs q hq), D, _, 0, rfl, h.app g, .head _⟩
theorem Lv.sl {y : Str} {yp p pos : Pos} {lo up : Option Expr} {vl vu : Option Int} {D : Addr} {vs : List Value} {k : Nat} {P : List Value → Prop} (hy : look m y = some (.ref D)) (hm : (D, W.listOf vs.toArray k) ∈ n) (hP : P (kms_pick vs vl vu)) (hz : vs.length ≤ 1000)
    (hlo : ∀ (s : Shared) (Q E : Value → Shared → Prop), (∀ v k, IsPart v vl → Q v { s with toks := k }) → wpAny x.M (x.A f) (evalPart lo (x.env f)) Q E s) (hup : ∀ (s : Shared) (Q E : Value → Shared → Prop), (∀ v k, IsPart v vu → Q v { s with toks := k }) → wpAny x.M (x.A f) (evalPart up (x.env f)) Q E s)
    (hx : (x.env f).kindOf y = some .local := by rfl) (hd : (y == ("__debug__" : Str)) = false := by decide)
    (hs : ∀ b, subscripted (.Slice lo up Option.none p) false (.ref D) (.ref b) = operate [.ref b, .ref D] (getItem (.ref D) (.ref b)) := by intros; with_unfolding_all rfl)
    (ht : ∀ r, letTemporaryGo (.Name y yp) (.ref D) r = pure () := by intros; with_unfolding_all rfl) : Lv x f m n (.Subscript (.Name y yp) (.Slice lo up Option.none p) pos) P :=
  Tr.mk fun s Q E ok st q ee po => Subscript_ ((Ep.name hy hx hd).use ok st (fun v0 h1 t1 e0 st1 => by
    subst e0
    refine wpAny_Slice (hlo _ _ _ fun vl k1 p1 => hup _ _ _ fun vu k2 p2 => evalPart_none_step ?_)
    obtain ⟨⟨mm, F, km⟩, N⟩ := st1
    exact kms_slice_lit F N (N.isList hm) p1 p2 rfl (fun D' h' F' N' hlt => q _ _ _ h' _ ⟨rfl, fun q hq => .tail _ hq, D', _, 0, rfl, hP, .head _⟩ ⟨⟨mm, F', km⟩, N'⟩) (hs _) ht (by rw [sizeLine_eq]; show vs.length ≤ _; omega)) po)
theorem part_none {e : Env} {M : Model} {A : Around} (s : Shared) (Q E : Value → Shared → Prop) (h : ∀ v k, IsPart v Option.none → Q v { s with toks := k }) : wpAny M A (evalPart Option.none e) Q E s := evalPart_none_step (h _ s.toks .none)
theorem part_int {i : Int} {c : Nat} {pos : Pos} (s : Shared) (Q E : Value → Shared → Prop) (h : ∀ v k, IsPart v (some i) → Q v { s with toks := k }) : wpAny x.M (x.A f) (evalPart (some (.Constant (.int i) c pos)) (x.env f)) Q E s := evalPart_some_step (wpAny_Constant_int (h _ _ (.int i _)))
theorem Ex.asL {y : Str} {p pos : Pos} {e : Expr} {r : List Stmt} {P : List Value → Prop} (h₁ : Lv x f m n e P) (h₂ : ∀ D vs k n', P vs → (∀ q ∈ n, q ∈ n') → (D, W.listOf vs.toArray k) ∈ n' → Ex x f ((y, .ref D) :: m) n' r R X) (hs : swapsWith e (some (.Name y p)) pos.line (x.env f) = pure false := by rfl) (hx : (x.env f).kindOf y = some .local := by rfl) : Ex x f m n (.Assign [.Name y p] e pos :: r) R X :=
  Ex.asK (Tr.mono h₁ (fun _ _ n' ⟨e1, hs, D, vs, k, e2, hP, hm⟩ => e1 ▸ e2 ▸ h₂ D vs k n' hP hs hm) (fun _ _ z => z.elim)) hs hx
theorem Tr.moreX {t : Sem α} {R : α → Loc → Led → Prop} (h : Tr x f m n t R NoX) : Tr x f m n t R X := h.mono (fun _ _ _ h => h) (fun _ _ z => z.elim)
theorem Ep.slX {a lo : Expr} {p pos : Pos} {B : Nat} {z : Str} {i0 i1 : Int} (ha : Ep x f m n a (IsS z)) (hz : TxS B z) (hlo : Ep x f m n lo (InV i0 i1)) (hB : B ≤ 10000) (h0 : 0 ≤ i0) (h1 : i1 < z.length)
    (hs : ∀ t b, subscripted (.Slice (some lo) Option.none Option.none p) false (.str z t) (.ref b) = operate [.ref b, .str z t] (getItem (.str z t) (.ref b)) := by intros; with_unfolding_all rfl)
    (ht : ∀ t r, letTemporaryGo a (.str z t) r = pure () := by intros; with_unfolding_all rfl) : Ep x f m n (.Subscript a (.Slice (some lo) Option.none Option.none p) pos) (fun v => ∃ S t, v = .str S t ∧ TxS B S ∧ 1 ≤ S.length) :=
  Tr.mk fun s Q E ok st q ee po => Subscript_ (ha.use ok st (fun v0 h1' t1 ⟨t, hu⟩ st1 => wpAny_Slice (evalPart_some_step (hlo.use ok st1 (fun v0 h2 t2 ⟨i, ti, hi, i2, i3⟩ st2 => evalPart_none_step (evalPart_none_step (by
    subst hu hi
    obtain ⟨⟨mm, F, km⟩, N⟩ := st2
    exact slice_sn_tx F N hz hB (Int.le_trans h0 i2) (Int.lt_of_le_of_lt i3 h1) (fun S h' t' k hS hS1 F' N' => q _ _ _ h' k ⟨⟨S, t', rfl, hS, hS1⟩, rfl, rfl⟩ ⟨⟨mm, F', km⟩, N'⟩) (hs _ _) (ht _)))) po))) po)
theorem Ep.slXu {y : Str} {yp : Pos} {up : Expr} {p pos : Pos} {B : Nat} {z : Str} {t : Tok} {i0 i1 : Int} (hy : look m y = some (.str z t)) (hz : TxS B z) (hup : Ep x f m n up (InV i0 i1)) (hB : B ≤ 10000) (hx : (x.env f).kindOf y = some .local := by rfl) (hd : (y == ("__debug__" : Str)) = false := by decide)
    (hs : ∀ b, subscripted (.Slice Option.none (some up) Option.none p) false (.str z t) (.ref b) = operate [.ref b, .str z t] (getItem (.str z t) (.ref b)) := by intros; with_unfolding_all rfl)
    (ht : ∀ r, letTemporaryGo (.Name y yp) (.str z t) r = pure () := by intros; with_unfolding_all rfl) : Ep x f m n (.Subscript (.Name y yp) (.Slice Option.none (some up) Option.none p) pos) (TxV B) :=
  Tr.mk fun s Q E ok st q ee po => Subscript_ ((Ep.name hy hx hd).use ok st (fun v0 h1 t1 hu st1 => wpAny_Slice (evalPart_none_step (evalPart_some_step (hup.use ok st1 (fun v0 h2 t2 ⟨i, ti, hi, _, _⟩ st2 => evalPart_none_step (by
    subst hu hi
    obtain ⟨⟨mm, F, km⟩, N⟩ := st2
    exact slice_ns_tx F N hz hB (fun S h' t' k hS F' N' => q _ _ _ h' k ⟨⟨S, t', rfl, hS⟩, rfl, rfl⟩ ⟨⟨mm, F', km⟩, N'⟩) (hs _) ht)) po)))) po)
end
theorem intV_truthy {v : Value} {lo hi : Int} (h : InV lo hi v) {w : World} {A : Around} {s : Shared} {Q : Bool → Shared → Prop} {E : Value → Shared → Prop} (q : ∀ b k, Q b { s with toks := k }) : wpAny (model PySem.Challenge.pw_in0151_01 w) A (truthy v) Q E s := by
  obtain ⟨i, t, rfl, _, _⟩ := h
  exact truthy_int (q _ s.toks)
theorem d01_truthy {x : Fx} {f : Fn} {n : Led} {D : Addr} {vs : List Value} {k : Nat} (h : D01 vs) (hm : (D, W.listOf vs.toArray k) ∈ n) {s : Shared} {Q : Bool → Shared → Prop} {E : Value → Shared → Prop} (N : News x.G x.L s.heap n) (q : ∀ b k, Q b { s with toks := k }) : wpAny x.M (x.A f) (truthy (.ref D)) Q E s := by
  rcases h with rfl | ⟨v, rfl, _⟩
  · exact truthy_item0 N hm (q _)
  · exact truthy_item1 N hm (q _)
theorem d01_eq {x : Fx} {f : Fn} {n : Led} {D D2 : Addr} {vs : List Value} {k k2 : Nat} {u : Tok} (h : D01 vs) (hm : (D, W.listOf vs.toArray k) ∈ n) (hm2 : (D2, W.listOf #[.str (Str.ofString "octet") u] k2) ∈ n) (hu : (x.A f).units + 64 < cLine) {s : Shared} {Q E : Value → Shared → Prop} (N : News x.G x.L s.heap n) (q : ∀ b k, Q (.bool b) { s with toks := k }) : wpAny x.M (x.A f) (compareOp .Eq (.ref D) (.ref D2)) Q E s := by
  rcases h with rfl | ⟨v, rfl, ⟨k, t, rfl, hk⟩⟩
  · exact eq_item0 N hm hm2 hu (q _ s.toks)
  · cases k with
    | word => exact absurd rfl hk
    | str => exact eq_item1 N hm hm2 hu (by decide +kernel) rfl (q _ s.toks)
    | byt => exact eq_item1 N hm hm2 hu (by decide +kernel) rfl (q _ s.toks)
    | oct => exact eq_item1 N hm hm2 hu (by decide +kernel) rfl (q _ s.toks)
theorem pow_p {w : World} {A : Around} {s : Shared} {Q E : Value → Shared → Prop} {t u : Tok} {i : Nat} (hi : i < 8) (h : ∀ (b : Int) t' k, 0 < b → b < 1000000000 → Q (.int b t') { s with toks := k }) : wpAny (model PySem.Challenge.pw_in0151_01 w) A (binaryOp .Pow (.int 10 t) (.int (0 + (i : Int)) u)) Q E s :=
  pow_int_small (by omega) (by omega) (by decide) (h _ _ _ (by exact Int.pow_pos (by decide)) (by
    have : (0 + (i : Int)).toNat = i := by omega
    rw [this]
    have key : ∀ j : Fin 8, (10 : Int) ^ j.val < 1000000000 := by decide
    exact key ⟨i, hi⟩))
theorem fdiv_p {w : World} {A : Around} {s : Shared} {Q E : Value → Shared → Prop} {t u : Tok} {a b : Int} (h0 : 0 < b) (h1 : b < 1000000000) (h : ∀ (c : Int) t' k, Q (.int c t') { s with toks := k }) : wpAny (model PySem.Challenge.pw_in0151_01 w) A (binaryOp .FloorDiv (.int a t) (.int b u)) Q E s :=
  floordiv_int (by omega) (h _ _ _) (.inl (PyProof.noPylong_small (by omega)))
end Mine

end
section
open Mine
theorem Mine.pre_Pc : PySem.Challenge.rw_in0151_01 = PySem.Challenge.rw_in0151_01 ∧ Mine.KK = Mine.KK := by
  k_with "CompSrc" => refine Mine.Halt.out ?_
  k_with "CompEnd" => (k_dflt (refine' Mine.comp_end ?F_z ?N_z ?off_z ?S_z ?_; (case F_z => assumption); (case N_z => assumption); (case off_z => assumption); (case S_z => exact True.intro)))
  k_with "binaryOp Mod int int" => ((with_reducible show wpAny _ _ (binaryOp Operator.Mod (Value.int _ _) (Value.int _ _)) _ _ _); refine Mine.dig_mod (by decide) ?_; intro d'z t'z k'z hd0'z hd1'z)
  k_with "subscriptTail Name Constant ref int" => (k_dflt (refine' kim_list ?kN_z ?km_z ?c1_z ?c2_z ?k0_z ?k1_z ?kx_z ?_; (case kN_z => k_asm); (case km_z => k_mem); (case c1_z => exact rfl); (case c2_z => exact rfl); (case k0_z => omega); (case k1_z => omega); (case kx_z => exact rfl)))
  k_with "FinA" => ((unfold LCg.FinA); intro D'z h'z tk'z F'z N'z o1'z; (clear o1'z); (repeat (rename LCg.NsObj _ _ => z9z; clear z9z)); (repeat (rename LCg.Off3 _ _ _ _ => z9z; clear z9z)); (repeat (rename _ ≠ _ ∧ _ ≠ _ ∧ _ ≠ _ => z9z; clear z9z)); (repeat (rename (_ : Option Value) = some (Value.int _ _) => z9z; clear z9z)); (repeat (rename IsRange _ _ _ _ _ _ _ _ => z9z; clear z9z)); (try simp only [List.nil_append, List.cons_append] at N'z); (try dsimp only))
  k_with "binaryOp Pow int int" => (refine Mine.pow_p (by assumption) ?_; intro b'z t'z k'z hb0'z hb1'z)
  k_with "binaryOp FloorDiv int int" => (refine Mine.fdiv_p (by assumption) (by assumption) ?_; intro b'z t'z k'z)
  exact ⟨rfl, rfl⟩

set_option maxHeartbeats 800000
namespace Mine
noncomputable def FigJ (news : Led) (i : Nat) (ys : List Value) (nw : Led) : Prop := nw = news ∧ ys.length = i ∧ ∀ v ∈ ys, InV 0 9 v
theorem TxV.up (v : Value) (h : TxV (10 + 1) v) : TxV 12 v := let ⟨S, t, e, h⟩ := h; ⟨S, t, e, h.mono (by decide)⟩
theorem fig_of {d : Int} {t : Tok} (h0 : 0 ≤ d) (h1 : d < 10) : InV 0 9 (.int d t) := ⟨d, t, rfl, h0, Int.le_of_lt_add_one h1⟩
theorem FigJ.nil {news : Led} : FigJ news 0 [] news := ⟨rfl, rfl, List.forall_mem_nil _⟩
theorem FigJ.step {news nw : Led} {i : Nat} {ys : List Value} {d : Int} {t : Tok} (h : FigJ news i ys nw) (h0 : 0 ≤ d) (h1 : d < 10) : FigJ news (i + 1) (ys ++ [.int d t]) nw := ⟨h.1, by rw [List.length_append, h.2.1]; rfl, fun v hv => (List.mem_append.mp hv).elim (h.2.2 v) fun hv => ⟨d, t, List.mem_singleton.mp hv, h0, by omega⟩⟩
noncomputable def pcF : Stmt := nth (fb o752.1) 0
theorem figs_at {w : World} {p : Program} {loose : List Str} {mean : ExcName → Option Value} {mg mb : Str → Option Value} {dp un : Nat} {gd : Option (List Code)} {outer : List Env} {A₀ : Around} {base G : Heap} {L C0 : Addr} {mm : Str → Option Value} {s : Shared} {Q : Flow → Shared → Prop} {E : Value → Shared → Prop} {news : Led} {n : Int} {t : Tok} {oc : Obj} (ho : oc.data = .cell (some (.int n t)))
    (B : Below A₀ base outer G) (F : Fr G L s.heap mm) (X : (Mine.KK w.params).In G) (N : News G L s.heap ((C0, oc) :: news)) (T' : Top p loose mean mg mb G) (hd1 : dp + 1 < recursionLimit) (hd2 : un + 40 < cLine)
    (h : ∀ vs D h' k', vs.length = 8 → (∀ v ∈ vs, InV 0 9 v) → Fr G L h' (fun z => if z = Str.ofString "figures" then some (.ref D) else mm z) → News G L h' ((D, LCg.lst vs) :: (C0, oc) :: news) → Q .next { s with heap := h', toks := k' }) :
    wpAny (model PySem.Challenge.pw_in0151_01 w) (ktrTop dp un gd (Str.ofString "_law_piece") (fnO o752.1 752).cs L 752 (fnO o752.1 752).ccd [(Str.ofString "number", C0)] outer) (exec pcF (envX (Str.ofString "_law_piece") (fnO o752.1 752).cs L 752 (fnO o752.1 752).ccd [(Str.ofString "number", C0)])) Q E s := by
  dsimp only [pcF, fnO, fb, nth, o752]
  k_steps
  unfold Mine.Halt
  k_dflt (refine LCg.CompSrc.range (by rfl) (by k_asm) (by k_asm) (by assumption) (by decide) (by rfl) (by exact Nat.le_of_ble_eq_true rfl) ?_)
  intro g'
  refine Mine.comp_inv (Mine.FigJ _) Mine.FigJ.nil ?step ?fin
  case step =>
    intro i ys nw hi hJ v I oI C oC D m₂ h tk E' hv hC hx F N off ne
    obtain ⟨t9, hv9⟩ := hv
    subst hv9
    have e9 := hJ.1
    subst e9
    k_steps
    exact hJ.step (by assumption) (by assumption)
  case fin =>
    intro ys nw hJ
    have e9 := hJ.1
    subst e9
    k_steps
    (with_reducible rename Fr _ _ _ _ => F9); (with_reducible rename News _ _ _ _ => N9)
    exact h ys _ _ _ hJ.2.1 hJ.2.2 F9 N9
theorem Ex.figs {x : Fx} {n : Led} {k : Int} {t : Tok} {C0 : Addr} {oc : Obj} {r : List Stmt} {R : Flow → Loc → Led → Prop} {X : List Value → Led → Prop} (ho : oc.data = .cell (some (.int k t))) (hcl : x.cl = [(Str.ofString "number", C0)]) (h5 : 2 ≤ x.c) (h6 : 41 ≤ x.u)
    (h : ∀ D vs, vs.length = 8 → (∀ v ∈ vs, InV 0 9 v) → Ex x (fnO o752.1 752) [(Str.ofString "figures", .ref D)] ((D, LCg.lst vs) :: (C0, oc) :: n) r R X) : Ex x (fnO o752.1 752) [] ((C0, oc) :: n) (pcF :: r) R X :=
  Ex.go <| Tr.mk fun s Q E ok st q ee po => by
    obtain ⟨⟨mm, F, km⟩, N⟩ := st
    have h1 := ok.hd
    have h2 := ok.hu
    have := figs_at (w := x.w) (dp := x.dp) (un := x.un) (gd := x.gd) (Q := Q) (E := E) ho ok.B F ok.X N ok.T (by omega) (by omega) (fun vs D h' k' hl hv F' N' => q _ _ _ h' k' ⟨rfl, h D vs hl hv⟩ ⟨⟨_, F', fun y v e => by
      rw [show look [(Str.ofString "figures", Value.ref D)] = _ from look_cons] at e
      dsimp only at e
      split at e
      · next hz => rw [if_pos hz]; exact e
      · exact nomatch e⟩, N'⟩)
    show wpAny _ (ktrTop x.dp x.un x.gd _ _ x.L 752 _ x.cl x.outer) (exec pcF (envX _ _ x.L 752 _ x.cl)) Q E s
    rw [hcl]
    exact this
theorem pc_spec {w : World} (news : List (Addr × Obj)) (n : Int) (t : Tok) :
  Con 5 w 752 news (0 ≤ n ∧ n < 10 ^ 8) [.int n t]
    (fun v n' => PcR news v n') (fun _ _ => False) := by
  refine' Con.ofC (binds := [(Str.ofString "number", .int n t)]) ?a ?b ?c ?d ?d2 ?e ?h ?i ?j ?k
  case a => k_is
  case b => k_is
  case c => exact fun s X => BindsTo.of_eq rfl
  case d => exact rfl
  case d2 => decide +kernel
  case e => decide
  case i => exact rfl
  case j => exact rfl
  case k => exact rfl
  rintro ⟨hn0, hn1⟩ x cells hw hc hu hcl hY
  replace hcl : x.cl = [(Str.ofString "number", x.L + 1)] := hcl
  rw [hcl] at hY
  obtain ⟨oc, rfl, ho⟩ : ∃ oc : Obj, cells = [(x.L + 1, oc)] ∧ oc.data = .cell (some (.int n t)) := by
    cases hY with
    | cons h1 h2 => cases h2; exact ⟨_, rfl, h1⟩
  show Ex x (fnO o752.1 752) _ _ (fb o752.1) _ _
  refine Ex.figs ho hcl (by omega) (by omega) fun D vs hl hv => ?_
  have hN : ∀ (m : Loc) (n' : Led), (∀ q ∈ (D, LCg.lst vs) :: (x.L + 1, oc) :: news, q ∈ n') → ∀ pos, Ep x (fnO o752.1 752) m n' (.Name (Str.ofString "number") pos) (· = .int n t) := fun m n' hs pos => Ep.nameC (by rw [hcl]; rfl) (hs _ (.tail _ (.head _))) ho rfl
  have hF : ∀ (m : Loc) (n' : Led), look m (Str.ofString "figures") = some (.ref D) → (∀ q ∈ (D, LCg.lst vs) :: (x.L + 1, oc) :: news, q ∈ n') → ∀ (yp cp pos : Pos) (i : Int) (c : Nat), 0 ≤ i → i < 8 → (∀ u, subscripted (.Constant (.int i) c cp) false (.ref D) (.int i u) = operate [.ref D, .int i u] (getItem (.ref D) (.int i u))) → Ep x (fnO o752.1 752) m n' (.Subscript (.Name (Str.ofString "figures") yp) (.Constant (.int i) c cp) pos) (InV 0 9) := fun m n' hm hs yp cp pos i c h0 h1 h2 =>
    Ep.fig hm (hs _ (.head _)) hv h0 (by rw [hl]; exact h1) (by omega) rfl (by decide) h2
  refine Ex.asp (V := TxV 1) (Ep.chrX (Ep.modC (Ep.bin (hN _ _ (fun _ h => h) _) Ep.int (by rintro _ _ rfl ⟨u, rfl⟩ w A E s Q _ q; exact fdiv_p (by decide) (by decide) fun c t k => q _ k ⟨c, t, rfl⟩)) (by decide)) (by decide) (by decide)) fun odd hodd => ?_
  refine Ex.asp (V := TxV 12) (Ep.pick (Pw.cons (Ep.lit (by decide +kernel)) (Pw.cons (Ep.lit (by decide +kernel)) (Pw.cons (Ep.lit (by decide +kernel)) (Pw.cons (Ep.lit (by decide +kernel)) Pw.nil)))) (fun n' hs => Ep.modC (Ep.mono (V := InV 0 9) (hF _ n' rfl hs _ _ _ _ _ (by decide) (by decide) (by intros; with_unfolding_all rfl)) InV.any) (by decide)) (by decide) (by decide)) fun gap hgap => ?_
  refine Ex.asp (V := TxV 12) (Ep.pick (hi := 9) ?a1 ?a2 ?a3 ?a4) fun word hword => ?_
  case a2 => exact (fun n' hs => hF _ n' rfl hs _ _ _ _ _ (by decide) (by decide) (by intros; with_unfolding_all rfl))
  case a3 => decide
  case a4 => decide
  case a1 =>
    refine Pw.cons (Ep.lit (by decide +kernel)) ?_
    refine Pw.cons (Ep.mono (V := TxV (10 + 1)) (Ep.addX (a := 10) (b := 1) (Ep.lit (by decide +kernel)) (Ep.nm (v := odd) rfl hodd) (by decide)) TxV.up) ?_
    refine Pw.cons (Ep.lit (by decide +kernel)) ?_
    refine Pw.cons (Ep.mono (V := TxV (10 + 1)) (Ep.addX (a := 10) (b := 1) (Ep.addX (a := 9) (b := 1) (Ep.lit (by decide +kernel)) (Ep.nm (v := odd) rfl hodd) (by decide)) (Ep.lit (by decide +kernel)) (by decide)) TxV.up) ?_
    refine Pw.cons (Ep.lit (by decide +kernel)) ?_
    refine Pw.cons (Ep.lit (by decide +kernel)) ?_
    refine Pw.cons (Ep.lit (by decide +kernel)) ?_
    refine Pw.cons (Ep.lit (by decide +kernel)) ?_
    refine Pw.cons (Ep.lit (by decide +kernel)) ?_
    refine Pw.cons (Ep.lit (by decide +kernel)) ?_
    exact Pw.nil
  refine Ex.asp (V := TxV 12) (Ep.pick (hi := 9) ?a1 ?a2 ?a3 ?a4) fun en hen => ?_
  case a2 => exact (fun n' hs => hF _ n' rfl hs _ _ _ _ _ (by decide) (by decide) (by intros; with_unfolding_all rfl))
  case a3 => decide
  case a4 => decide
  case a1 =>
    refine Pw.cons (Ep.lit (by decide +kernel)) ?_
    refine Pw.cons (Ep.lit (by decide +kernel)) ?_
    refine Pw.cons (Ep.lit (by decide +kernel)) ?_
    refine Pw.cons (Ep.lit (by decide +kernel)) ?_
    refine Pw.cons (Ep.lit (by decide +kernel)) ?_
    refine Pw.cons (Ep.lit (by decide +kernel)) ?_
    refine Pw.cons (Ep.lit (by decide +kernel)) ?_
    refine Pw.cons (Ep.lit (by decide +kernel)) ?_
    refine Pw.cons (Ep.lit (by decide +kernel)) ?_
    refine Pw.cons (Ep.lit (by decide +kernel)) ?_
    exact Pw.nil
  have hrest : ∀ en, TxV 12 en → Ex x (fnO o752.1 752) [(Str.ofString "end", en), (Str.ofString "word", word), (Str.ofString "gap", gap), (Str.ofString "figures", .ref D)] ((D, LCg.lst vs) :: (x.L + 1, oc) :: news) ((fb o752.1).drop 6) (fun fl _ n' => PcR news (retv fl) n') NoX := by
    clear hen en
    intro en hen
    refine Ex.asp (V := InV 0 32) (Ep.pick (hi := 9) ?a1 ?a2 ?a3 ?a4) fun size hsize => ?_
    case a2 => exact (fun n' hs => hF _ n' rfl hs _ _ _ _ _ (by decide) (by decide) (by intros; with_unfolding_all rfl))
    case a3 => decide
    case a4 => decide
    case a1 =>
      refine Pw.cons (Ep.cint (by decide) (by decide)) ?_
      refine Pw.cons (Ep.cint (by decide) (by decide)) ?_
      refine Pw.cons (Ep.cint (by decide) (by decide)) ?_
      refine Pw.cons (Ep.cint (by decide) (by decide)) ?_
      refine Pw.cons (Ep.cint (by decide) (by decide)) ?_
      refine Pw.cons (Ep.cint (by decide) (by decide)) ?_
      refine Pw.cons (Ep.cint (by decide) (by decide)) ?_
      refine Pw.cons (Ep.cint (by decide) (by decide)) ?_
      refine Pw.cons (Ep.cint (by decide) (by decide)) ?_
      refine Pw.cons (Ep.cint (by decide) (by decide)) ?_
      exact Pw.nil
    refine Ex.asp (Ep.slX (B := 48) (Ep.mulX (by decide +kernel) (by decide) (by decide)) ?a1 (hF _ _ rfl (fun _ h => h) _ _ _ _ _ (by decide) (by decide) (by intros; with_unfolding_all rfl)) (by decide) (by decide) ?a2) ?_
    case a1 => exact TxS.lit 48 _ (by decide +kernel)
    case a2 => decide +kernel
    rintro _ ⟨te, tt, rfl, hte, hte1⟩
    refine Ex.asL (P := D01) (Lv.ifq (Tq.cmpI (hF _ _ rfl (fun _ h => h) _ _ _ _ _ (by decide) (by decide) (by intros; with_unfolding_all rfl)) (fun _ _ _ _ _ _ _ _ q => eq_int (q _))) (Lv.lst (V := DeV) Pw.nil (by decide) fun vs h _ => .inl (List.length_eq_zero_iff.mp h)) (Lv.lst (Pw.cons (Ep.pick (P := DeV) (hi := 3 - 1) ?a1 ?a2 ?a3 ?a4) Pw.nil) (by decide) fun vs h g => ?_)) ?_
    case a1 => exact Pw.cons (Ep.str.mono fun _ ⟨t, e⟩ => e ▸ DeV.s) (Pw.cons (Ep.str.mono fun _ ⟨t, e⟩ => e ▸ DeV.b) (Pw.cons (Ep.str.mono fun _ ⟨t, e⟩ => e ▸ DeV.o) Pw.nil))
    case a2 => exact (fun n' hs => Ep.modC (Ep.mono (V := InV 0 9) (hF _ n' rfl hs _ _ _ _ _ (by decide) (by decide) (by intros; with_unfolding_all rfl)) InV.any) (by decide))
    case a3 => decide
    case a4 => decide
    · obtain ⟨v, rfl⟩ := List.length_eq_one_iff.mp h
      exact .inr ⟨v, rfl, g v (.head _)⟩
    intro I its ik nI hI hsI hmI
    obtain ⟨eS, et, rfl, heS⟩ := hen
    refine Ex.asp (V := TxV (12 + 12 + 12)) (Ep.addX (Ep.addX (Ep.nm (v := gap) rfl hgap) (Ep.nm (v := word) rfl hword) (by decide)) (Ep.nm (v := .str eS et) rfl ⟨eS, et, rfl, heS⟩) (by decide)) ?_
    rintro _ ⟨wS, wt, rfl, hwS⟩
    have hrest2 : ∀ wS wt, TxS 100 wS → Ex x (fnO o752.1 752) [(Str.ofString "written", .str wS wt), (Str.ofString "items", .ref I), (Str.ofString "end", .str eS et), (Str.ofString "figures", .ref D)] nI ((fb o752.1).drop 11) (fun fl _ n' => PcR news (retv fl) n') NoX := by
      clear hwS wS wt
      intro wS wt hwS
      have hsb : ∀ {a b c : Led}, (∀ q ∈ a, q ∈ b) → (∀ q ∈ b, q ∈ c) → ∀ q ∈ a, q ∈ c := fun h g q hq => g q (h q hq)
      refine Ex.asL (P := D12) (Lv.ifq (Tq.cmp (Vl := TxV 12) (Ep.nm (v := .str eS et) rfl ⟨eS, et, rfl, heS⟩) (Ev.tup (Er.S Ep.str fun t1 => Er.S Ep.str fun t2 => Er.nil ⟨Nat.le_of_ble_eq_true rfl, fun D2 _ => ⟨rfl, fun _ h => .tail _ h, ?b1⟩⟩))) (Lv.lst (V := IsS (Str.ofString "word")) (Pw.cons Ep.str (Pw.cons Ep.str Pw.nil)) (by decide) ?b2) (Lv.lst (V := IsS (Str.ofString "word")) (Pw.cons Ep.str Pw.nil) (by decide) ?b3)) ?_
      case b1 =>
        rintro _ ⟨S, t, rfl, _⟩ s Q E _ N q
        exact in_tuple_strs (N.isTup (.head _)) (.cons _ _ (.cons _ _ .nil)) (q _ s.toks)
      case b2 =>
        intro vs h g
        obtain ⟨a, b, rfl⟩ : ∃ a b, vs = [a, b] := by match vs, h with | [a, b], _ => exact ⟨a, b, rfl⟩
        obtain ⟨t, rfl⟩ := g _ (.head _)
        obtain ⟨t', rfl⟩ := g _ (.tail _ (.head _))
        exact ⟨.word, t, .inr ⟨.word, t', rfl⟩⟩
      case b3 =>
        intro vs h g
        obtain ⟨a, rfl⟩ := List.length_eq_one_iff.mp h
        obtain ⟨t, rfl⟩ := g _ (.head _)
        exact ⟨.word, t, .inl rfl⟩
      intro W1 ws wk nW hW hsW hmW
      refine Ex.asL (P := Dl 3) (Lv.ifq (Tq.val (Ep.modC (Ep.mono (V := InV 0 9) (hF _ _ rfl (hsb hsI hsW) _ _ _ _ _ (by decide) (by decide) (by intros; with_unfolding_all rfl)) InV.any) (by decide)) (fun v e s Q E _ q => intV_truthy e q)) (Lv.add (a := 2) (b := 1) (Lv.name rfl hmW hW.dl) (fun n' hs => Lv.name rfl (hs _ (hsW _ hmI)) hI.dl) (by decide))
        (Lv.add (a := 1 + 1) (b := 1) (Lv.add (a := 1) (b := 1) (Lv.sl rfl hmW hW.hd (Nat.le_trans hW.dl.1 (by decide)) part_none part_int) (fun n' hs => Lv.name rfl (hs _ (hsW _ hmI)) hI.dl) (by decide)) (fun n' hs => Lv.sl rfl (hs _ hmW) hW.tl (Nat.le_trans hW.dl.1 (by decide)) part_int part_none) (by decide))) ?_
      intro D3 ds dk nD hD hsD hmD
      refine Ex.ret (Tr.post (R' := fun v _ n' => ∃ n₂, (∀ q ∈ n₂, q ∈ n') ∧ PcR news v n₂) (Ev.tup (Er.E (Ep.name rfl) (Er.cons (Ev.addL (P₁ := Dl 3) (P₂ := Dl 1) (Lv.name rfl hmD hD) (fun n' hs => Lv.ifq (Tq.cmpI (hF _ _ rfl (hsb (hsb hsI hsW) (hsb hsD hs)) _ _ _ _ _ (by decide) (by decide) (by intros; with_unfolding_all rfl)) (fun _ _ _ _ _ _ _ _ q => eq_int (q _))) (Lv.lst (V := IsS (Str.ofString "word")) (Pw.cons Ep.str Pw.nil) (by decide) ?b4) (Lv.lst (V := IsS (Str.ofString "word")) Pw.nil (by decide) ?b5)) (fun vs ws h g => Nat.le_trans (Nat.add_le_add h.1 g.1) (by decide)) ?b6)))) fun _ _ _ h => h)
      case b4 =>
        intro vs h g
        refine ⟨Nat.le_of_eq h, fun v hv => ?_⟩
        obtain ⟨t, rfl⟩ := g _ hv
        exact ⟨.word, t, rfl⟩
      case b5 =>
        intro vs h g
        refine ⟨Nat.le_trans (Nat.le_of_eq h) (Nat.zero_le _), fun v hv => ?_⟩
        obtain ⟨t, rfl⟩ := g _ hv
        exact ⟨.word, t, rfl⟩
      case b6 =>
        intro Wd vs ws n' h g hs hlt
        refine Er.nil ⟨Nat.le_of_ble_eq_true rfl, fun Dt hDt => ⟨_, List.forall_mem_cons.mpr ⟨.head _, List.forall_mem_cons.mpr ⟨.tail _ (.head _), fun q hq => .tail _ (.tail _ (hs q (hsD q (hsW q (hsI q (.tail _ (.tail _ hq)))))))⟩⟩, ?_⟩⟩
        obtain ⟨ks, hk⟩ := deeds_of (h.app g).2
        exact PcR.intro hwS (by decide) hk (h.app g).1 (fun q hq => hDt q (.tail _ (hs q (hsD q (hsW q (hsI q (.tail _ (.tail _ hq)))))))) (fun q hq => hlt q (hs q (hsD q (hsW q (hsI q (.tail _ (.tail _ hq)))))))
    refine Ex.ifq (Tq.cmp (Ep.name rfl) (Ev.lst (Er.S Ep.str fun t => Er.nil ⟨Nat.le_of_ble_eq_true rfl, fun D2 _ => ⟨rfl, fun _ h => .tail _ h, fun vl e s Q E ok N q => e ▸ d01_eq hI (.tail _ hmI) (.head _) (by have h9 := ok.hu; rw [hu] at h9; show x.un + 64 < cLine; omega) N q⟩⟩))) ?t1 ?t2
    case t1 =>
      refine Ex.aug (V := TxV 1) (W := TxV 100) rfl (Ep.sub (Ep.name rfl) Ep.int ?v1) ?v2 ?v3
      case v1 =>
        rintro _ _ rfl ⟨u, rfl⟩ w A E s Q _ q
        exact item0_tx hte (by decide) hte1 fun S t' k h => q _ k ⟨S, t', rfl, h⟩
      case v2 =>
        rintro _ ⟨S, t', rfl, h⟩ w A E s Q _ q
        exact iadd_tx hwS h (by decide) fun S t k h => q _ k ⟨S, t, rfl, h.mono (by decide)⟩
      case v3 =>
        rintro _ ⟨S, t', rfl, h⟩
        exact Tr.weak (List.forall_mem_cons.mpr ⟨rfl, List.forall_mem_cons.mpr ⟨rfl, List.forall_mem_cons.mpr ⟨rfl, List.forall_mem_cons.mpr ⟨rfl, List.forall_mem_nil _⟩⟩⟩⟩) (fun _ h => h) (hrest2 S t' h)
    case t2 =>
      refine Ex.ifq (Tq.val (Ep.name rfl) (fun v e s Q E N q => e ▸ d01_truthy hI hmI N q)) ?t3 ?t4
      case t3 =>
        refine Ex.aug (V := TxV (1 + 48)) (W := TxV 100) rfl (Ep.addX (Ep.chrX (lo := 0) (hi := 32) (Ep.nm (v := size) rfl hsize) (by decide) (by decide)) (Ep.slXu rfl hte (Ep.nm (V := InV 0 32) (v := size) rfl hsize) (by decide)) (by decide)) ?v2 ?v3
        case v2 =>
          rintro _ ⟨S, t', rfl, h⟩ w A E s Q _ q
          exact iadd_tx hwS h (by decide) fun S t k h => q _ k ⟨S, t, rfl, h.mono (by decide)⟩
        case v3 =>
          rintro _ ⟨S, t', rfl, h⟩
          exact Tr.weak (List.forall_mem_cons.mpr ⟨rfl, List.forall_mem_cons.mpr ⟨rfl, List.forall_mem_cons.mpr ⟨rfl, List.forall_mem_cons.mpr ⟨rfl, List.forall_mem_nil _⟩⟩⟩⟩) (fun _ h => h) (hrest2 S t' h)
      case t4 => exact Tr.weak (List.forall_mem_cons.mpr ⟨rfl, List.forall_mem_cons.mpr ⟨rfl, List.forall_mem_cons.mpr ⟨rfl, List.forall_mem_cons.mpr ⟨rfl, List.forall_mem_nil _⟩⟩⟩⟩) (fun _ h => h) (hrest2 wS wt (hwS.mono (by decide)))
  refine Ex.ifq (Tq.cmpI (hF _ _ rfl (fun _ h => h) _ _ _ _ _ (by decide) (by decide) (by intros; with_unfolding_all rfl)) (fun _ _ _ _ _ _ _ _ q => gt_int (q _))) (Ex.asp (V := TxV 12) (Ep.lit (by decide +kernel)) fun en' hen' => ?_) ?_
  · exact Tr.weak (List.forall_mem_cons.mpr ⟨rfl, List.forall_mem_cons.mpr ⟨rfl, List.forall_mem_cons.mpr ⟨rfl, List.forall_mem_cons.mpr ⟨rfl, List.forall_mem_nil _⟩⟩⟩⟩) (fun _ h => h) (hrest en' hen')
  · exact Tr.weak (List.forall_mem_cons.mpr ⟨rfl, List.forall_mem_cons.mpr ⟨rfl, List.forall_mem_cons.mpr ⟨rfl, List.forall_mem_cons.mpr ⟨rfl, List.forall_mem_nil _⟩⟩⟩⟩) (fun _ h => h) (hrest en hen)
end Mine

end
section
open Mine
namespace Mine
theorem Con.top {lv : Nat} {w : World} {f : Addr} {news : List (Addr × Obj)} {pre : Prop} {vs : List Value} {R : Value → List (Addr × Obj) → Prop} {RE : List Value → List (Addr × Obj) → Prop} (C : Con lv w f news pre vs R RE)
    {p : Program} {loose : List Str} {mean : ExcName → Option Value} {mg mb : Str → Option Value} {cn : Str} {cs : Scope} {a : Addr} {ccd : Value} {cl : List (Str × Addr)} {base h₀ : Heap} {L : Addr} {m : Str → Option Value} {s : Shared} {Q E : Value → Shared → Prop}
    (B : Below callerA base [] h₀) (F : Fr h₀ L s.heap m) (X : (Mine.KK w.params).In h₀) (N : News h₀ L s.heap news) (T : Top p loose mean mg mb h₀) (hk : cs.kind = .function)
    (hp : pre) (hd : 302 + 5 * lv < recursionLimit) (hu : 7 + 40 * lv < cLine)
    (ret : ∀ (v : Value) (h' : Heap) (tk' : Nat) (news' : List (Addr × Obj)), R v news' → Fr h₀ L h' m → News h₀ L h' news' → Q v { s with heap := h', toks := tk' })
    (exc : ∀ es n', RE es n' → False) :
    wpAny (model PySem.Challenge.pw_in0151_01 w) (callerA.deeper (envX cn cs L a ccd cl)) (call (.ref f) vs) Q E s :=
  C p loose mean mg mb 302 7 (some []) cn cs a ccd cl [] callerA base h₀ L m s Q E B F X N T hk hp hd hu ret (fun _ _ _ _ _ es n' h _ _ _ _ => (exc es n' h).elim)
inductive PsAre (nw : List (Addr × Obj)) : List Value → List (List Nat) → List (List Deed) → Prop
  | nil : PsAre nw [] [] []
  | cons {D Wd : Addr} {dvs : List Value} {ks : List Deed} {l : List Nat} {tl : Tok} {nn : Nat} {vs : List Value} {ls : List (List Nat)} {kss : List (List Deed)} :
    (D, tupO' [.str (T l) tl, .ref Wd]) ∈ nw → (Wd, listOf dvs.toArray nn) ∈ nw → DeedsAre dvs ks → dvs.length ≤ 4 → l.length ≤ 150 → (∀ c ∈ l, c < 256) → PsAre nw vs ls kss → PsAre nw (.ref D :: vs) (l :: ls) (ks :: kss)
theorem PsAre.mono {nw nw' : List (Addr × Obj)} {vs : List Value} {ls : List (List Nat)} {kss : List (List Deed)} (hs : ∀ p ∈ nw, p ∈ nw') (h : PsAre nw vs ls kss) : PsAre nw' vs ls kss := by
  induction h with
  | nil => exact .nil
  | cons a b c d e f _ ih => exact .cons (hs _ a) (hs _ b) c d e f ih
theorem PsAre.snoc {nw : List (Addr × Obj)} {D Wd : Addr} {dvs : List Value} {ks : List Deed} {l : List Nat} {tl : Tok} {nn : Nat} {vs : List Value} {ls : List (List Nat)} {kss : List (List Deed)} (h : PsAre nw vs ls kss)
    (a : (D, tupO' [.str (T l) tl, .ref Wd]) ∈ nw) (b : (Wd, listOf dvs.toArray nn) ∈ nw) (c : DeedsAre dvs ks) (d : dvs.length ≤ 4) (e : l.length ≤ 150) (f : ∀ c ∈ l, c < 256) : PsAre nw (vs ++ [.ref D]) (ls ++ [l]) (kss ++ [ks]) := by
  induction h with
  | nil => exact .cons a b c d e f .nil
  | cons a' b' c' d' e' f' _ ih => exact .cons a' b' c' d' e' f' ih
theorem PsAre.length {nw : List (Addr × Obj)} {vs : List Value} {ls : List (List Nat)} {kss : List (List Deed)} (h : PsAre nw vs ls kss) : ls.length = vs.length ∧ kss.length = vs.length := by
  induction h with
  | nil => exact ⟨rfl, rfl⟩
  | cons _ _ _ _ _ _ _ ih => simp [ih.1, ih.2]
theorem PsAre.get {nw : List (Addr × Obj)} {vs : List Value} {ls : List (List Nat)} {kss : List (List Deed)} (h : PsAre nw vs ls kss) : ∀ {i : Nat} {v : Value}, vs[i]? = some v → ∃ (D Wd : Addr) (dvs : List Value) (ks : List Deed) (l : List Nat) (tl : Tok) (nn : Nat), v = .ref D ∧ ls[i]? = some l ∧ kss[i]? = some ks ∧
    (D, tupO' [.str (T l) tl, .ref Wd]) ∈ nw ∧ (Wd, listOf dvs.toArray nn) ∈ nw ∧ DeedsAre dvs ks ∧ dvs.length ≤ 4 ∧ l.length ≤ 150 ∧ (∀ c ∈ l, c < 256) := by
  induction h with
  | nil => intro i v e; simp at e
  | cons a b c d e f _ ih =>
    intro i v hv
    cases i with
    | zero =>
      rw [List.getElem?_cons_zero] at hv
      cases hv
      exact ⟨_, _, _, _, _, _, _, rfl, rfl, rfl, a, b, c, d, e, f⟩
    | succ i =>
      rw [List.getElem?_cons_succ] at hv
      obtain ⟨D, Wd, dvs, ks, l, tl, nn, h1, h2, h3, h4⟩ := ih hv
      exact ⟨D, Wd, dvs, ks, l, tl, nn, h1, by simpa using h2, by simpa using h3, h4⟩
theorem PsAre.out {nw : List (Addr × Obj)} {vs : List Value} {ls : List (List Nat)} {kss : List (List Deed)} {i : Nat} {v : Value} {P : Prop} (h : PsAre nw vs ls kss) (hv : vs[i]? = some v) (k : ∀ D Wd l tl, v = .ref D → (D, tupO' [.str (T l) tl, .ref Wd]) ∈ nw → l.length ≤ 150 → (∀ c ∈ l, c < 256) → P) : P := by
  obtain ⟨D, Wd, _, _, l, tl, _, h1, _, _, h4, _, _, _, h8, h9⟩ := h.get hv
  exact k D Wd l tl h1 h4 h8 h9
noncomputable def PieceJ (news : List (Addr × Obj)) (i : Nat) (ys : List Value) (nw : List (Addr × Obj)) : Prop := (∀ p ∈ news, p ∈ nw) ∧ ys.length = i ∧ ∃ ls kss, PsAre nw ys ls kss
theorem PieceJ.out {news nw : List (Addr × Obj)} {i : Nat} {ys : List Value} {P : Prop} (h : PieceJ news i ys nw) (k : ∀ ls kss, (∀ p ∈ news, p ∈ nw) → ys.length = i → PsAre nw ys ls kss → P) : P := by
  obtain ⟨a, b, ls, kss, c⟩ := h
  exact k ls kss a b c
theorem PieceJ.nil {news : List (Addr × Obj)} : PieceJ news 0 [] news := ⟨fun _ h => h, rfl, [], [], .nil⟩
theorem off3_cons {I C D : Addr} {p : Addr × Obj} {l : List (Addr × Obj)} (h1 : p.1 ≠ I) (h2 : p.1 ≠ C) (h3 : p.1 ≠ D) (h : LCg.Off3 I C D l) : LCg.Off3 I C D (p :: l) := ⟨⟨h1, h2, h3⟩, h⟩
theorem piece_end {h₀ h : Heap} {L : Addr} {m : Str → Option Value} {s₁ : Shared} {I C D : Addr} {oI oC oD : Obj} {S : List (Addr × Obj) → Prop} {news nw n' : List (Addr × Obj)} {i tk : Nat} {ys : List Value} {v : Value} (hJ : PieceJ news i ys nw) (off : LCg.Off3 I C D nw)
    (F : Fr h₀ L h m) (hR : PcR ((I, oI) :: (C, oC) :: (D, oD) :: nw) v n') (N : News h₀ L h n') (hS : ∀ nw', (∀ p ∈ news, p ∈ nw') → S nw') :
    LCg.CompEnd h₀ L m s₁ I oI C oC D oD S (fun y nw' => PieceJ news (i + 1) (ys ++ [y]) nw') v { s₁ with heap := h, toks := tk } := by
  obtain ⟨D2, Wd, dvs, ks, l, tl, nn, rfl, h1, h2, h3, h4, h5, h6, rfl⟩ := hR
  obtain ⟨a, b, ls, kss, c⟩ := hJ
  refine ⟨h, tk, (D2, tupO' [.str (T l) tl, .ref Wd]) :: (Wd, listOf dvs.toArray nn) :: nw, rfl, F, News.sub N (fun p hp => ?_), ?_, ?_, ?_⟩
  · simp only [List.mem_cons] at hp ⊢
    rcases hp with e | e | e | e | e | e <;> simp [e]
  · exact off3_cons (Nat.ne_of_gt (h5 _ (.head _))) (Nat.ne_of_gt (h5 _ (.tail _ (.head _)))) (Nat.ne_of_gt (h5 _ (.tail _ (.tail _ (.head _)))))
      (off3_cons (Nat.ne_of_gt (h6 _ (.head _))) (Nat.ne_of_gt (h6 _ (.tail _ (.head _)))) (Nat.ne_of_gt (h6 _ (.tail _ (.tail _ (.head _))))) off)
  · exact hS _ (fun p hp => .tail _ (.tail _ (a p hp)))
  · exact ⟨fun p hp => .tail _ (.tail _ (a p hp)), by simp [b], _, _, (c.mono fun p hp => .tail _ (.tail _ hp)).snoc (.head _) (.tail _ (.head _)) h1 h2 h3 h4⟩
noncomputable def WrJ (news : List (Addr × Obj)) (i : Nat) (ys : List Value) (nw : List (Addr × Obj)) : Prop := nw = news ∧ ys.length = i ∧ ∃ ls : List (List Nat), StrsAre ys (ls.map T) ∧ ∀ l ∈ ls, l.length ≤ 150 ∧ ∀ c ∈ l, c < 256
theorem WrJ.out {news nw : List (Addr × Obj)} {i : Nat} {ys : List Value} {P : Prop} (h : WrJ news i ys nw) (k : ∀ ls : List (List Nat), nw = news → ys.length = i → StrsAre ys (ls.map T) → (∀ l ∈ ls, l.length ≤ 150 ∧ ∀ c ∈ l, c < 256) → P) : P := by
  obtain ⟨e, a, ls, b, c⟩ := h
  exact k ls e a b c
theorem WrJ.nil {news : List (Addr × Obj)} : WrJ news 0 [] news := ⟨rfl, rfl, [], .nil, List.forall_mem_nil _⟩
theorem strs_snoc {ys : List Value} {xs : List Str} {x : Str} {t : Tok} (h : StrsAre ys xs) : StrsAre (ys ++ [.str x t]) (xs ++ [x]) := by
  induction h with
  | nil => exact .cons _ _ .nil
  | cons y t' _ ih => exact .cons y t' ih
theorem WrJ.step {news nw : List (Addr × Obj)} {i : Nat} {ys : List Value} {l : List Nat} {t : Tok} (h : WrJ news i ys nw) (h0 : l.length ≤ 150) (h1 : ∀ c ∈ l, c < 256) : WrJ news (i + 1) (ys ++ [.str (T l) t]) nw := by
  obtain ⟨e, hl, ls, hs, hb⟩ := h
  refine ⟨e, by simp [hl], ls ++ [l], by rw [List.map_append]; exact strs_snoc hs, fun k hk => ?_⟩
  rcases List.mem_append.mp hk with hk | hk
  · exact hb k hk
  · rw [List.mem_singleton.mp hk]
    exact ⟨h0, h1⟩
section
variable {prog : Program} {w : World} {A : Around} {E : Value → Shared → Prop} {s : Shared} {t : Tok} {Q : Value → Shared → Prop}
theorem sum_le {ls : List (List Nat)} {b : Nat} (h : ∀ l ∈ ls, l.length ≤ b) : (ls.map List.length).sum ≤ b * ls.length := by
  induction ls with
  | nil => simp
  | cons l ls ih =>
    have h1 := h l (.head _)
    have h2 := ih fun x hx => h x (.tail _ hx)
    simp only [List.map_cons, List.sum_cons, List.length_cons, Nat.mul_succ]
    omega
theorem join_t {D : Addr} {ys : List Value} {ls : List (List Nat)} (hl : s.heap.IsList D ys.toArray) (hi : StrsAre ys (ls.map T)) (hb : ∀ l ∈ ls, l.length ≤ 150 ∧ ∀ c ∈ l, c < 256) (hn : ls.length ≤ 20)
    (h : ∀ (r : List Nat) t' k, r.length ≤ 3000 → (∀ c ∈ r, c < 256) → Q (.str (T r) t') { s with toks := k }) : wpAny (model prog w) A (call (.builtin "str.join") [.str (Str.ofString "") t, .ref D]) Q E s := by
  have e0 : Str.ofString "" = T [] := by decide +kernel
  have hsum := sum_le (ls := ls) (b := 150) fun l hl => (hb l hl).1
  refine join_list (ys := ls.map T) hl (by simpa using hi) ?_ fun t' k => ?_
  · have h3 : (ls.map T).map (·.length) = ls.map List.length := by
      rw [List.map_map]; congr 1
    rw [h3, e0, T_len]
    simp only [List.length_map, List.length_nil]
    omega
  · rw [e0]
    show Q (.str (PySem.Builtin.Str.glued (T []) _) t') _
    rw [glued_T]
    have key : ∀ ls : List (List Nat), joinL [] ls = ls.flatten := by
      intro ls
      induction ls with
      | nil => rfl
      | cons x ls ih =>
        cases ls with
        | nil => simp [joinL]
        | cons y ls => rw [joinL, ih]; simp
    rw [key]
    refine h _ _ _ ?_ fun c hc => ?_
    · rw [List.length_flatten]
      omega
    · obtain ⟨l, hl, hc⟩ := List.mem_flatten.mp hc
      exact (hb l hl).2 c hc
end
end Mine
namespace Mine
theorem ints_at {vs : List Value} {ns : List Int} (h : IntsAre vs ns) : ∀ {i : Nat} {v : Value}, vs.toArray[i]? = some v → ∃ k t, v = .int k t := by
  induction h with
  | nil => intro i v e; simp at e
  | cons k t _ ih =>
    intro i v e
    cases i with
    | zero => simp at e; exact ⟨k, t, e.symm⟩
    | succ i => exact ih (i := i) (by simpa using e)
theorem ints_atK {vs : List Value} {ns : List Int} {i : Nat} {v : Value} {P : Prop} (h : IntsAre vs ns) (hv : vs.toArray[i]? = some v) (k : ∀ n t, v = .int n t → P) : P := let ⟨n, t, e⟩ := ints_at h hv; k n t e
theorem ints_len {vs : List Value} {ns : List Int} (h : IntsAre vs ns) : vs.length = ns.length := h.length
end Mine
namespace Mine
theorem ints_in {vs : List Value} {ns : List Int} (h : IntsAre vs ns) : ∀ {i : Nat} {v : Value}, vs.toArray[i]? = some v → ∃ k t, v = .int k t ∧ k ∈ ns := by
  induction h with
  | nil => intro i v e; simp at e
  | cons k t _ ih =>
    intro i v e
    cases i with
    | zero => simp at e; exact ⟨k, t, e.symm, .head _⟩
    | succ i =>
      obtain ⟨k', t', h1, h2⟩ := ih (i := i) (by simpa using e)
      exact ⟨k', t', h1, .tail _ h2⟩
theorem ints_inK {vs : List Value} {ns : List Int} {i : Nat} {v : Value} {P : Prop} (h : IntsAre vs ns) (hv : vs.toArray[i]? = some v) (k : ∀ n t, v = .int n t → n ∈ ns → P) : P := let ⟨n, t, e, m⟩ := ints_in h hv; k n t e m
section
variable {prog : Program} {w : World} {A : Around} {E : Value → Shared → Prop} {s : Shared} {Q : Value → Shared → Prop} {h₀ : Heap} {L : Addr} {m : Str → Option Value} {news : List (Addr × Obj)}
theorem add_ls {a b : Addr} {vs ws : List Value} {n1 n2 : Nat} (F : Fr h₀ L s.heap m) (N : News h₀ L s.heap news) (ma : (a, ({ cls := .type "list", data := .seq vs.toArray n1 } : Obj)) ∈ news) (mb : (b, ({ cls := .type "list", data := .seq ws.toArray n2 } : Obj)) ∈ news)
    (hz : vs.length + ws.length ≤ 100000) (h : ∀ D h', Fr h₀ L h' m → News h₀ L h' ((D, listOf (vs ++ ws).toArray 0) :: news) → (∀ p ∈ news, p.1 < D) → Q (.ref D) { s with heap := h' }) : wpAny (model prog w) A (binaryOp .Add (.ref a) (.ref b)) Q E s :=
  add_lists (hsz := by rw [sizeLine_eq]; omega) F N ⟨_, (N _ ma).1, rfl, _, rfl⟩ ⟨_, (N _ mb).1, rfl, _, rfl⟩ fun h' F' N' => h _ h' F' N' fun p hp => Heap.lt_size (N p hp).1
end
end Mine
namespace Mine
section
variable {prog : Program} {w : World} {A : Around} {E : Value → Shared → Prop} {s : Shared} {t u : Tok} {Q : Value → Shared → Prop}
theorem pow_108 (h : ∀ t' k, Q (.int 100000000 t') { s with toks := k }) : wpAny (model prog w) A (binaryOp .Pow (.int 10 t) (.int 8 u)) Q E s :=
  pow_int_small (by decide) (by decide) (by decide) (by
    rw [show (10 : Int) ^ (8 : Int).toNat = 100000000 by decide]
    exact h _ _)
end
end Mine
namespace Mine
theorem strs_len {vs : List Value} {xs : List Str} (h : StrsAre vs xs) : xs.length = vs.length := by
  induction h with
  | nil => rfl
  | cons _ _ _ ih => simp [ih]
section
variable {prog : Program} {w : World} {A : Around} {E : Value → Shared → Prop} {s : Shared} {t u : Tok} {Q : Value → Shared → Prop} {h₀ : Heap} {L : Addr} {m : Str → Option Value} {news : List (Addr × Obj)}
theorem join_n {D : Addr} {ys : List Value} {ls : List (List Nat)} (N : News h₀ L s.heap news) (hm : (D, LCg.lst ys) ∈ news) (hi : StrsAre ys (ls.map T)) (hb : ∀ l ∈ ls, l.length ≤ 150 ∧ ∀ c ∈ l, c < 256) (hn : ys.length ≤ 20)
    (h : ∀ S t' k, TxS 3000 S → Q (.str S t') { s with toks := k }) : wpAny (model prog w) A (call (.builtin "str.join") [.str (Str.ofString "") t, .ref D]) Q E s :=
  join_t ⟨_, (N _ hm).1, rfl, _, rfl⟩ hi hb (by have := strs_len hi; rw [List.length_map] at this; omega) fun r t' k h1 h2 => h _ _ _ ⟨by rw [T_len]; exact h1, by simpa using h2⟩
theorem sum_n {D : Addr} {ys : List Value} {ns : List Int} (F : Fr h₀ L s.heap m) (N : News h₀ L s.heap news) (hh : A.handled = none) (hm : (D, LCg.lst ys) ∈ news) (hi : IntsAre ys ns)
    (h : ∀ (d : Int) h' tk t', Fr h₀ L h' m → News h₀ L h' news → Q (.int d t') { s with heap := h', toks := tk }) : wpAny (model prog w) A (call (.builtin "sum") [.ref D]) Q E s :=
  LSm.sum_ints F N hh ⟨_, (N _ hm).1, rfl, _, rfl⟩ hi (h _)
theorem len_tx {B : Nat} {S : Str} (hS : TxS B S) (hB : B ≤ 100000) (h : ∀ t' k, Q (.int (S.length : Int) t') { s with toks := k }) : wpAny (model prog w) A (call (.builtin "len") [.str S t]) Q E s :=
  len_str (by have := hS.1; omega) (h _ _)
end
section
variable {M : Model} {A : Around} {E : Value → Shared → Prop} {s : Shared} {Q : Flow → Shared → Prop} {h₀ : Heap} {L : Addr} {m : Str → Option Value} {news : List (Addr × Obj)} {env : Env}
theorem st_set {st : Stmt} (x : Str) (B : Nat) (_F : Fr h₀ L s.heap m) (_N : News h₀ L s.heap news) (h1 : wpAny M A (exec st env) (SetEnd h₀ L m news x B s) E s)
    (h2 : ∀ h' tk' S' t', TxS B S' → Fr h₀ L h' (fun y => if y = x then some (.str S' t') else m y) → News h₀ L h' news → Q .next { s with heap := h', toks := tk' }) : wpAny M A (exec st env) Q E s := by
  refine wpAny_mono h1 (fun fl s' ⟨e, h', tk', S', t', e2, hS, F', N'⟩ => ?_) fun _ _ h => h
  subst e e2
  exact h2 h' tk' S' t' hS F' N'
end
end Mine

end
section
open Mine
namespace Mine
open PySem.Calls
section
variable {prog : Program} {w : World} {A : Around} {E : Value → Shared → Prop} {s : Shared} {R : Result → Shared → Prop}
theorem turn2_inner (elt tgt iter iter2 : PySem.Expr) (y : Str) (py : Pos) (scope : Scope) (pos : Pos) (it acc : Value) (env : Env) :
    compTurn (.ListComp elt [⟨tgt, iter, [], 0⟩, ⟨.Name y py, iter2, [], 0⟩] scope pos) 1 it acc env = (standAt iter2.pos >>= fun _ => pyNext it >>= fun r => match r with
      | none => pure (.done .next)
      | some v => letOwnedTupleGo (.Name y py) it v >>= fun _ => assign (.Name y py) env v >>= fun _ =>
        (eval elt env >>= fun x => call (.builtin "list.append") [acc, x] >>= fun _ => pure ()) >>= fun _ =>
          again (.compLoop (.ListComp elt [⟨tgt, iter, [], 0⟩, ⟨.Name y py, iter2, [], 0⟩] scope pos) 1 it acc env)) := by rfl
theorem turn2_outer (elt tgt iter iter2 : PySem.Expr) (y : Str) (py : Pos) (scope : Scope) (pos : Pos) (it acc : Value) (env : Env) :
    compTurn (.ListComp elt [⟨tgt, iter, [], 0⟩, ⟨.Name y py, iter2, [], 0⟩] scope pos) 0 it acc env = (standAt iter.pos >>= fun _ => pyNext it >>= fun r => match r with
      | none => pure (.done .next)
      | some v => letOwnedTupleGo tgt it v >>= fun _ => assign tgt env v >>= fun _ => eval iter2 env >>= fun x => standAt iter2.pos >>= fun _ => foldedSetIterable iter2 env x >>= fun x =>
          holding [x] (pyIter x) >>= fun it' => runOwn (.compStart (.ListComp elt [⟨tgt, iter, [], 0⟩, ⟨.Name y py, iter2, [], 0⟩] scope pos) 1 it' acc env) env >>= fun _ =>
          again (.compLoop (.ListComp elt [⟨tgt, iter, [], 0⟩, ⟨.Name y py, iter2, [], 0⟩] scope pos) 0 it acc env)) := by rfl
theorem start2_inner {elt tgt iter iter2 y py scope pos it acc env}
    (h0 : codeAny (model prog w) A (.compLoop (.ListComp elt [⟨tgt, iter, [], 0⟩, ⟨.Name y py, iter2, [], 0⟩] scope pos) 1 it acc env) R s)
    (h : wpAny (model prog w) A (pyIter it) (fun it' s' => codeAny (model prog w) A (.compLoop (.ListComp elt [⟨tgt, iter, [], 0⟩, ⟨.Name y py, iter2, [], 0⟩] scope pos) 1 it' acc env) R s')
      (notedBy (model prog w) A env fun x s' => R (.error x) s') s) :
    codeAny (model prog w) A (.compStart (.ListComp elt [⟨tgt, iter, [], 0⟩, ⟨.Name y py, iter2, [], 0⟩] scope pos) 1 it acc env) R s := by
  refine codeAny_of_tree ?_
  show wpAny _ _ ((compStart (.ListComp elt [⟨tgt, iter, [], 0⟩, ⟨.Name y py, iter2, [], 0⟩] scope pos) 1 it acc env).onRaise (fun x => do noteFrame x env; standAt theWindowsPlace)) _ _ s
  refine wpAny_notedAt ?_
  unfold compStart
  show wpAny _ _ (ask >>= _) _ _ s
  refine wpAny_bind (wpAny_askSetting (wpAny_ite ?_))
  split
  · first
      | exact wpAny_bind (wpAny_pure (wpAny_pure (And.intro rfl h0)))
      | exact wpAny_pure (And.intro rfl h0)
  · first
      | exact wpAny_bind (wpAny_rule (wpAny_bind (wpAny_standAt (wpAny_bind (wpAny_mono h (fun it' s' h' => wpAny_pure (And.intro rfl h')) fun _ _ x => x)))))
      | (refine wpAny_bind (wpAny_rule ?_); show wpAny _ _ (standAt iter2.pos >>= _) _ _ s; exact wpAny_bind (wpAny_standAt (wpAny_bind (wpAny_mono h (fun it' s' h' => wpAny_pure (And.intro rfl h')) fun _ _ x => x))))
structure InTurn (prog : Program) (w : World) (e : PySem.Expr) (y : Str) (py px : Pos) (ip : Pos) : Prop where
  turn : ∀ (it acc : Value) (env : Env), compTurn e 1 it acc env = (standAt ip >>= fun _ => pyNext it >>= fun r => match r with
      | none => pure (.done .next)
      | some v => letOwnedTupleGo (.Name y py) it v >>= fun _ => assign (.Name y py) env v >>= fun _ =>
        (eval (.Name y px) env >>= fun x => call (.builtin "list.append") [acc, x] >>= fun _ => pure ()) >>= fun _ =>
          again (.compLoop e 1 it acc env))
  den : ∀ (it acc : Value) (env : Env), (model prog w).den (.compLoop e 1 it acc env) = (compTurn e 1 it acc env).onRaise (fun x => do noteFrame x env; theTreesLotGoes x)
  un : ∀ (A : Around) (it acc : Value) (env : Env), A.under (.compLoop e 1 it acc env) = A
inductive InJ (s : Shared) (I1 C D Wd : Addr) (dvs ys0 : List Value) (k : Nat) (s' : Shared) : Prop
  | mk (h' : Heap) (tk i : Nat) (m' : Str → Option Value) : s' = { s with heap := h', toks := tk } → i ≤ dvs.length → k = dvs.length - i → (h'.IsListIter I1 Wd i ∧ h'.IsList Wd dvs.toArray) → h'.Ns C m' → h'.get? D = some (LCg.lst (ys0 ++ dvs.take i)) → (∀ b o, b ≠ I1 → b ≠ C → b ≠ D → s.heap.get? b = some o → h'.get? b = some o) → InJ s I1 C D Wd dvs ys0 k s'
theorem inner_loop {e : PySem.Expr} {ip : Pos} {y : Str} {py px : Pos} {scope : Scope} {cl : List (Str × Addr)} {env : Env} {I1 C D Wd : Addr} {dvs ys0 : List Value} {mC : Str → Option Value} (hh : A.handled = none) (ht : InTurn prog w e y py px ip)
    (hkind : scope.kind = .function) (hy : scope.names.lookup y = some .local) (hd : (y == ("__debug__" : Str)) = false)
    (hI : s.heap.IsListIter I1 Wd 0) (hW : s.heap.IsList Wd dvs.toArray) (hC : s.heap.Ns C mC) (hD : s.heap.get? D = some (LCg.lst ys0)) (e1 : I1 ≠ C) (e2 : I1 ≠ D) (e3 : C ≠ D) (e4 : Wd ≠ I1) (e5 : Wd ≠ C) (e6 : Wd ≠ D) (hsz : ys0.length + dvs.length ≤ 100000)
    (hR : ∀ h' tk m', (∀ b o, b ≠ I1 → b ≠ C → b ≠ D → s.heap.get? b = some o → h'.get? b = some o) → h'.Ns C m' → h'.get? D = some (LCg.lst (ys0 ++ dvs)) → R (.ok .next) { s with heap := h', toks := tk }) :
    codeAny (model prog w) A (.compLoop e 1 (.ref I1) (.ref D) (compEnvC scope cl C env)) R s := by
  have W := Walks.list (prog := prog) (w := w) hh I1 Wd e4 dvs.toArray
  have hsize : dvs.toArray.size = dvs.length := by simp
  refine codeAny_loop rfl (InJ s I1 C D Wd dvs ys0) ?_ dvs.length ⟨s.heap, s.toks, 0, mC, rfl, Nat.zero_le _, rfl, ⟨hI, hW⟩, hC, by simpa using hD, fun _ _ _ _ _ e => e⟩
  rintro k s' ⟨h', tk, i, m', rfl, hi, rfl, st, hn, hD', old⟩
  rw [ht.un, ht.den]
  refine wpAny_noted ?_
  rw [ht.turn]
  refine wpAny_bind (wpAny_standAt (wpAny_bind ?_))
  by_cases hlt : i < dvs.length
  · refine W.item i _ _ _ (by rw [hsize]; exact hlt) st fun v h₂ tk₂ hv st₂ hk₂ => ?_
    have hn₂ : h₂.Ns C m' := hn.at' fun o e => hk₂ _ o (by simpa using Ne.symm e1) e
    refine wpAny_bind (wpAny_of_eq (a := ()) rfl ?_)
    refine wpAny_bind (wpAny_assign_Name (wpAny_storeName_local (lookup_relabel_local hy) hn₂ (fun h₃ hn₃ hs₃ => ?_) (by simp [compEnvC, relabel, hkind])))
    refine wpAny_bind (wpAny_bind (wpAny_Name (wpAny_loadName_local (v := v) hkind (lookup_relabel_local hy) hn₃ (by simp) ?_) hd))
    have old3 : ∀ b o, b ≠ I1 → b ≠ C → h'.get? b = some o → h₃.get? b = some o := fun b o n1 n2 e => hs₃.extBut b o n2 (hk₂ b o (by simpa using n1) e)
    have hD3 := old3 D _ (Ne.symm e2) (Ne.symm e3) hD'
    refine wpAny_bind (append_at (hsz := by rw [List.size_toArray, List.length_append, List.length_take, sizeLine_eq]; omega) hD3 fun h₅ hs₅ hD₅ => ?_)
    refine wpAny_pure (wpAny_pure ⟨rfl, dvs.length - (i + 1), by omega, h₅, _, i + 1, _, rfl, hlt, rfl, ?_, hn₃.at' fun o e => hs₅.extBut _ _ e3 e, ?_, fun b o n1 n2 n3 e => hs₅.extBut b o n3 (old3 b o n1 n2 (old b o n1 n2 n3 e))⟩)
    · refine W.frame _ _ _ st₂ fun b hb o e => ?_
      have hb' : b = I1 ∨ b = Wd := by simpa using hb
      refine hs₅.extBut b o ?_ (hs₃.extBut b o ?_ e)
      · rcases hb' with q | q <;> rw [q] <;> assumption
      · rcases hb' with q | q <;> rw [q] <;> assumption
    · rw [hD₅, LCg.lst_snoc]
      have hv' : dvs[i]? = some v := by simpa using hv
      rw [List.take_add_one, hv']
      simp
  · obtain rfl : i = dvs.length := by omega
    refine W.done _ _ _ (by rw [hsize]; exact st) fun h₂ tk₂ hk₂ => ?_
    rw [List.take_length] at hD'
    exact wpAny_pure (hR h₂ tk₂ m' (fun b o n1 n2 n3 e => hk₂ b o (by simpa using n1) (old b o n1 n2 n3 e)) (hn.at' fun o e => hk₂ _ o (by simpa using Ne.symm e1) e) (hk₂ _ _ (by simpa using Ne.symm e2) hD'))
end
end Mine

end
section
open Mine
namespace Mine
open PySem.Calls
section
variable {prog : Program} {w : World} {A : Around} {E : Value → Shared → Prop} {s : Shared} {R : Result → Shared → Prop}
theorem DeedsAre.app {a b : List Value} {ka kb : List Deed} (h : DeedsAre a ka) (g : DeedsAre b kb) : DeedsAre (a ++ b) (ka ++ kb) := by
  induction h with
  | nil => exact g
  | cons _ ih => exact .cons ih
structure OutTurn (prog : Program) (w : World) (e : PySem.Expr) (x x₂ : Str) (px px₂ tp p2 : Pos) (tk : Nat) (ip : Pos) : Prop where
  turn : ∀ (it acc : Value) (env : Env), compTurn e 0 it acc env = (standAt ip >>= fun _ => pyNext it >>= fun r => match r with
      | none => pure (.done .next)
      | some v => letOwnedTupleGo (.Tuple [.Name x px, .Name x₂ px₂] tk tp) it v >>= fun _ => assign (.Tuple [.Name x px, .Name x₂ px₂] tk tp) env v >>= fun _ => eval (.Name x₂ p2) env >>= fun v => standAt (PySem.Expr.Name x₂ p2).pos >>= fun _ => foldedSetIterable (.Name x₂ p2) env v >>= fun v =>
          holding [v] (pyIter v) >>= fun it' => runOwn (.compStart e 1 it' acc env) env >>= fun _ =>
          again (.compLoop e 0 it acc env))
  den : ∀ (it acc : Value) (env : Env), (model prog w).den (.compLoop e 0 it acc env) = (compTurn e 0 it acc env).onRaise (fun x => do noteFrame x env; theTreesLotGoes x)
  un : ∀ (A : Around) (it acc : Value) (env : Env), A.under (.compLoop e 0 it acc env) = A
  start : ∀ {A : Around} {R : Result → Shared → Prop} {s : Shared} {it acc : Value} {env : Env}, codeAny (model prog w) A (.compLoop e 1 it acc env) R s →
    wpAny (model prog w) A (pyIter it) (fun it' s' => codeAny (model prog w) A (.compLoop e 1 it' acc env) R s') (notedBy (model prog w) A env fun x s' => R (.error x) s') s → codeAny (model prog w) A (.compStart e 1 it acc env) R s
inductive PcI (H : Heap) (v : Value) : Prop
  | mk (t Wd : Addr) (v₁ : Value) (dvs : List Value) (ks : List Deed) : v = Value.ref t → IsTup H t #[v₁, Value.ref Wd] → H.IsList Wd dvs.toArray → DeedsAre dvs ks → dvs.length ≤ 4 → PcI H v
inductive OuJ (s : Shared) (H : Heap) (I0 C D ax : Addr) (vs : List Value) (k : Nat) (s' : Shared) : Prop
  | mk (h' : Heap) (tk i : Nat) (m' : Str → Option Value) (ys : List Value) (ks : List Deed) : s' = { s with heap := h', toks := tk } → i ≤ vs.length → k = vs.length - i → (h'.IsListIter I0 ax i ∧ h'.IsList ax vs.toArray) → h'.Ns C m' → h'.get? D = some (LCg.lst ys) → (∀ b o, H.get? b = some o → h'.get? b = some o) → DeedsAre ys ks → ys.length ≤ 4 * i → OuJ s H I0 C D ax vs k s'
theorem outer_loop {e : PySem.Expr} {ip : Pos} {x x₂ y : Str} {px px₂ tp p2 py pe : Pos} {tk : Nat} {ip2 : Pos} {scope : Scope} {cl : List (Str × Addr)} {env : Env} {I0 C D ax : Addr} {vs : List Value} {mC : Str → Option Value} {H : Heap} (hh : A.handled = none) (hto : OutTurn prog w e x x₂ px px₂ tp p2 tk ip) (hin : InTurn prog w e y py pe ip2)
    (hkind : scope.kind = .function) (hx : scope.names.lookup x = some .local) (hx₂ : scope.names.lookup x₂ = some .local) (hy : scope.names.lookup y = some .local) (hxx : x ≠ x₂) (hd : (y == ("__debug__" : Str)) = false) (hd₂ : (x₂ == ("__debug__" : Str)) = false)
    (hP : ∀ (i : Nat) (v : Value), vs[i]? = some v → PcI H v) (hax : H.IsList ax vs.toArray)
    (old : ∀ b o, H.get? b = some o → s.heap.get? b = some o) (i1 : H.objs.size ≤ I0) (i2 : H.objs.size ≤ C) (i3 : H.objs.size ≤ D) (e1 : I0 ≠ C) (e2 : I0 ≠ D) (e3 : C ≠ D)
    (hI : s.heap.IsListIter I0 ax 0) (hC : s.heap.Ns C mC) (hD : s.heap.get? D = some (LCg.lst [])) (hsz : vs.length ≤ 1000)
    (hR : ∀ h' tk m' ys ks, (∀ b o, H.get? b = some o → h'.get? b = some o) → h'.Ns C m' → h'.get? D = some (LCg.lst ys) → DeedsAre ys ks → ys.length ≤ 4 * vs.length → R (.ok .next) { s with heap := h', toks := tk }) :
    codeAny (model prog w) A (.compLoop e 0 (.ref I0) (.ref D) (compEnvC scope cl C env)) R s := by
  have lt : ∀ {b o}, H.get? b = some o → b < H.objs.size := fun e => Heap.lt_size e
  have hltax : ax < H.objs.size := by obtain ⟨o, e, _⟩ := hax; exact lt e
  have neI : ∀ {b o}, H.get? b = some o → b ≠ I0 := fun e => Nat.ne_of_lt (Nat.lt_of_lt_of_le (lt e) i1)
  have neC : ∀ {b o}, H.get? b = some o → b ≠ C := fun e => Nat.ne_of_lt (Nat.lt_of_lt_of_le (lt e) i2)
  have neD : ∀ {b o}, H.get? b = some o → b ≠ D := fun e => Nat.ne_of_lt (Nat.lt_of_lt_of_le (lt e) i3)
  have W := Walks.list (prog := prog) (w := w) hh I0 ax (Nat.ne_of_lt (Nat.lt_of_lt_of_le hltax i1)) vs.toArray
  have hsize : vs.toArray.size = vs.length := by simp
  refine codeAny_loop rfl (OuJ s H I0 C D ax vs) ?_ vs.length ⟨s.heap, s.toks, 0, mC, [], [], rfl, Nat.zero_le _, rfl, ⟨hI, hax.at fun o e => old _ o e⟩, hC, hD, old, .nil, Nat.le_refl _⟩
  rintro k s' ⟨h', tk', i, m', ys, ks, rfl, hi, rfl, st, hn, hD', old', hks, hyl⟩
  rw [hto.un, hto.den]
  refine wpAny_noted ?_
  rw [hto.turn]
  refine wpAny_bind (wpAny_standAt (wpAny_bind ?_))
  by_cases hlt : i < vs.length
  · refine W.item i _ _ _ (by rw [hsize]; exact hlt) st fun v h₂ tk₂ hv st₂ hk₂ => ?_
    have hv' : vs[i]? = some v := by simpa using hv
    obtain ⟨t, Wd, v₁, dvs, kd, rfl, ht, hW, hkd, hdl⟩ := hP i v hv'
    have hk2 : ∀ b o, b ≠ I0 → h'.get? b = some o → h₂.get? b = some o := fun b o n e => hk₂ b o (by simpa using n) e
    have hn₂ : h₂.Ns C m' := hn.at' fun o e => hk2 _ o (Ne.symm e1) e
    have old2 : ∀ b o, H.get? b = some o → h₂.get? b = some o := fun b o e => hk2 b o (neI e) (old' b o e)
    have ht₂ : IsTup h₂ t #[v₁, Value.ref Wd] := by
      obtain ⟨o, e, r⟩ := ht
      exact ⟨o, old2 _ _ e, r⟩
    refine wpAny_bind (wpAny_letOwnedTupleGo_listiter st₂.1 ?_)
    refine wpAny_bind (assign_Tuple_tuple hh ht₂ rfl rfl fun h₅ he => ?_)
    have he' : ∀ b o, h₂.get? b = some o → h₅.get? b = some o := fun b o e => he b o (Nat.ne_of_lt (Heap.lt_size e)) e
    refine assignInOrder_cons (wpAny_assign_Name (wpAny_storeName_local (lookup_relabel_local hx) (hn₂.at' fun o e => he' _ o e) (fun h₆ hn₆ hs₆ => ?_) (by simp [compEnvC, relabel, hkind])))
    refine assignInOrder_cons (wpAny_assign_Name (wpAny_storeName_local (lookup_relabel_local hx₂) hn₆ (fun h₃ hn₃ hs₃ => ?_) (by simp [compEnvC, relabel, hkind])))
    refine assignInOrder_nil ?_
    have old3 : ∀ b o, b ≠ C → h₂.get? b = some o → h₃.get? b = some o := fun b o hb e => hs₃.extBut b o hb (hs₆.extBut b o hb (he' b o e))
    refine wpAny_bind (wpAny_Name (wpAny_loadName_local (v := .ref Wd) hkind (lookup_relabel_local hx₂) hn₃ (by simp) ?_) hd₂)
    refine wpAny_bind (wpAny_standAt (wpAny_bind (wpAny_of_eq (a := .ref Wd) rfl ?_)))
    have oldH3 : ∀ b o, H.get? b = some o → h₃.get? b = some o := fun b o e => old3 b o (neC e) (old2 b o e)
    have hW₃ : h₃.IsList Wd dvs.toArray := hW.at fun o e => oldH3 _ o e
    have hD₃ : h₃.get? D = some (LCg.lst ys) := old3 _ _ (Ne.symm e3) (hk2 _ _ (Ne.symm e2) hD')
    have st₃ : h₃.IsListIter I0 ax (i + 1) ∧ h₃.IsList ax vs.toArray := W.frame _ _ _ st₂ fun b hb o e => by
      have hb' : b = I0 ∨ b = ax := by simpa using hb
      refine old3 b o ?_ e
      rcases hb' with q | q
      · rw [q]; exact e1
      · rw [q]; exact Nat.ne_of_lt (Nat.lt_of_lt_of_le hltax i2)
    refine wpAny_bind (wpAny_holding (wpAny_pyIter_list hW₃ ?_))
    generalize hH4 : h₃.push { cls := .type "list_iterator", data := .fields #[.ref Wd, .int 0 0] } = h₄
    have up : ∀ b o, h₃.get? b = some o → h₄.get? b = some o := fun b o e => hH4 ▸ Heap.get?_push_of_some _ e
    have hI4 : h₄.IsListIter h₃.objs.size Wd 0 := ⟨_, hH4 ▸ Heap.get?_push_size _ rfl, rfl, rfl⟩
    have f1 : h₃.objs.size ≠ C := Ne.symm (Nat.ne_of_lt hn₃.lt)
    have f2 : h₃.objs.size ≠ D := Ne.symm (Nat.ne_of_lt (Heap.lt_size hD₃))
    have ltH3 : ∀ {b o}, H.get? b = some o → b < h₃.objs.size := fun e => Heap.lt_size (oldH3 _ _ e)
    obtain ⟨oW, eW, _⟩ := id hW
    have f4 : Wd ≠ h₃.objs.size := Nat.ne_of_lt (ltH3 eW)
    obtain ⟨oI0, eI0, rI0⟩ := id st₃.1
    have f5 : I0 ≠ h₃.objs.size := Nat.ne_of_lt (Heap.lt_size eI0)
    have loop : ∀ s₃ : Shared, (∃ tk, s₃ = { s with heap := h₄, toks := tk }) → codeAny (model prog w) (A.mark none) (.compLoop e 1 (.ref h₃.objs.size) (.ref D) (compEnvC scope cl C env))
        (fun r s' => match r with
          | .ok _ => wpAny (model prog w) A (again (.compLoop e 0 (.ref I0) (.ref D) (compEnvC scope cl C env)))
              (fun fin s' => match fin with
                | .done f => R (.ok f) s'
                | .again c' => c' = (.compLoop e 0 (.ref I0) (.ref D) (compEnvC scope cl C env)) ∧ ∃ m, m < vs.length - i ∧
                  OuJ s H I0 C D ax vs m s')
              (notedBy (model prog w) A (compEnvC scope cl C env) fun e s' => R (.error e) s') s'
          | .error e => cameBackBy (model prog w) A (compEnvC scope cl C env) (notedBy (model prog w) A (compEnvC scope cl C env) fun e s' => R (.error e) s') e s') s₃ := by
      rintro s₃ ⟨tk₃, rfl⟩
      refine inner_loop (A := A.mark none) hh hin hkind hy hd hI4 (hW₃.at fun o e => up _ o e) (hn₃.at' fun o e => up _ o e) (up _ _ hD₃) f1 f2 e3 f4 (Nat.ne_of_lt (Nat.lt_of_lt_of_le (lt eW) i2)) (Nat.ne_of_lt (Nat.lt_of_lt_of_le (lt eW) i3)) (by omega) fun h₇ tk₇ m₇ old₇ hn₇ hD₇ => ?_
      refine wpAny_pure ⟨rfl, vs.length - (i + 1), by omega, h₇, tk₇, i + 1, m₇, ys ++ dvs, ks ++ kd, rfl, hlt, rfl, ?_, hn₇, hD₇, fun b o e => ?_, hks.app hkd, by rw [List.length_append]; omega⟩
      · refine W.frame _ _ _ st₃ fun b hb o e => ?_
        have hb' : b = I0 ∨ b = ax := by simpa using hb
        refine old₇ b o ?_ ?_ ?_ (up _ _ e)
        · exact Nat.ne_of_lt (Heap.lt_size e)
        · rcases hb' with q | q
          · rw [q]; exact e1
          · rw [q]; exact Nat.ne_of_lt (Nat.lt_of_lt_of_le hltax i2)
        · rcases hb' with q | q
          · rw [q]; exact e2
          · rw [q]; exact Nat.ne_of_lt (Nat.lt_of_lt_of_le hltax i3)
      · exact old₇ b o (Nat.ne_of_lt (ltH3 e)) (neC e) (neD e) (up _ _ (oldH3 _ _ e))
    refine wpAny_bind (wpAny_runOwn (hto.start (loop _ ⟨_, rfl⟩) ?_))
    exact wpAny_pyIter_listiter hI4 (loop _ ⟨_, rfl⟩)
  · obtain rfl : i = vs.length := by omega
    refine W.done _ _ _ (by rw [hsize]; exact st) fun h₂ tk₂ hk₂ => ?_
    exact wpAny_pure (hR h₂ tk₂ m' ys ks (fun b o e => hk₂ b o (by simpa using neI e) (old' b o e)) (hn.at' fun o e => hk₂ _ o (by simpa using Ne.symm e1) e) (hk₂ _ _ (by simpa using Ne.symm e2) hD') hks hyl)
end
end Mine

end
section
open Mine
namespace Mine
open PySem.Calls
section
variable {prog : Program} {w : World} {A : Around} {E : Value → Shared → Prop} {s : Shared} {h₀ : Heap} {L : Addr} {m : Str → Option Value} {env : Env}
inductive Src2 (h₀ : Heap) (L : Addr) (m : Str → Option Value) (s : Shared) (Q : Value → Shared → Prop) (v : Value) (s₁ : Shared) : Prop
  | mk (h : Heap) (tk : Nat) (ax : Addr) (vs : List Value) (nw : List (Addr × Obj)) (ls : List (List Nat)) (kss : List (List Deed)) : v = .ref ax → s₁ = { s with heap := h, toks := tk } → Fr h₀ L h m → News h₀ L h nw → (ax, LCg.lst vs) ∈ nw → PsAre nw vs ls kss → vs.length ≤ 1000 →
    (∀ (D : Addr) (h' : Heap) (tk' : Nat) (ys : List Value) (ks : List Deed), DeedsAre ys ks → ys.length ≤ 4 * vs.length → Fr h₀ L h' m → News h₀ L h' ((D, LCg.lst ys) :: nw) → (∀ p ∈ nw, p.1 < D) → Q (.ref D) { s with heap := h', toks := tk' }) → Src2 h₀ L m s Q v s₁
theorem Src2.intro {Q : Value → Shared → Prop} {h : Heap} {tk : Nat} {ax : Addr} {vs : List Value} {nw : List (Addr × Obj)} {ls : List (List Nat)} {kss : List (List Deed)} (F : Fr h₀ L h m) (N : News h₀ L h nw) (hm : (ax, LCg.lst vs) ∈ nw) (hP : PsAre nw vs ls kss) (hl : vs.length ≤ 1000)
    (k : ∀ (D : Addr) (h' : Heap) (tk' : Nat) (ys : List Value) (ks : List Deed), DeedsAre ys ks → ys.length ≤ 4 * vs.length → Fr h₀ L h' m → News h₀ L h' ((D, LCg.lst ys) :: nw) → (∀ p ∈ nw, p.1 < D) → Q (.ref D) { s with heap := h', toks := tk' }) :
    Src2 h₀ L m s Q (.ref ax) { s with heap := h, toks := tk } := ⟨h, tk, ax, vs, nw, ls, kss, rfl, rfl, F, N, hm, hP, hl, k⟩
theorem ListComp_2 {x x₂ y : Str} {px px₂ tp p2 py pe : Pos} {tk} {iter : PySem.Expr} {scope : Scope} {pos : Pos} {cl : List (Str × Addr)} {Q : Value → Shared → Prop} (_F₀ : Fr h₀ L s.heap m) (hh : A.handled = none) (hclos : closureFor scope env = pure cl) (hcell : ∀ z ∈ scope.names, z.2 ≠ .cell)
    (hkind : scope.kind = .function) (hnames : ∀ z ∈ scope.names, z.2 = .local → scope.names.lookup z.1 = some .local) (hx : scope.names.lookup x = some .local) (hx₂ : scope.names.lookup x₂ = some .local) (hy : scope.names.lookup y = some .local) (hxx : x ≠ x₂) (hd : (y == ("__debug__" : Str)) = false) (hd₂ : (x₂ == ("__debug__" : Str)) = false)
    (h : wpAny (model prog w) A (eval iter env) (Src2 h₀ L m s Q) E s) (hs : ∀ x, foldedSetIterable iter env x = pure x := by intro _; rfl) :
    wpAny (model prog w) A (eval (.ListComp (.Name y pe) [⟨.Tuple [.Name x px, .Name x₂ px₂] tk tp, iter, [], 0⟩, ⟨.Name y py, .Name x₂ p2, [], 0⟩] scope pos) env) Q E s := by
  rw [eval_ListComp]
  refine wpAny_comprehension_free (use := none) rfl hs hclos hkind hnames (wpAny_mono h (fun xv s₁ h₁ => ?_) fun _ _ e => e)
  obtain ⟨hp, tk₁, ax, vs, nw, ls, kss, rfl, rfl, F, N, hm, hP, hl, k⟩ := h₁
  have hlist : hp.IsList ax vs.toArray := ⟨_, (N _ hm).1, rfl, _, rfl⟩
  have hPH : ∀ (i : Nat) (v : Value), vs[i]? = some v → PcI hp v := by
    intro i v hv
    obtain ⟨D, Wd, dvs, ks, l, tl, nn, e, _, _, a, b, c, d, _⟩ := hP.get hv
    exact ⟨D, Wd, _, dvs, ks, e, ⟨_, (N _ a).1, rfl, _, rfl⟩, ⟨_, (N _ b).1, rfl, _, rfl⟩, c, d⟩
  refine wpAny_pyIter_list hlist ?_
  dsimp only
  generalize hH1 : hp.push { cls := .type "list_iterator", data := .fields #[.ref ax, .int 0 0] } = H1
  have up1 : ∀ b o, hp.get? b = some o → H1.get? b = some o := fun b o e => hH1 ▸ Heap.get?_push_of_some _ e
  have sz1 : H1.objs.size = hp.objs.size + 1 := by rw [← hH1, Heap.size_push]
  have hI1 : H1.IsListIter hp.objs.size ax 0 := ⟨_, hH1 ▸ Heap.get?_push_size _ rfl, rfl, rfl⟩
  refine wpAny_newObj_type (wpAny_newFunctionEnv hcell (by intro y hy; simp at hy) (fun h₁ hns₁ hsb₁ => ?_) hkind)
  dsimp only at hns₁ hsb₁ ⊢
  generalize hH2 : H1.push { cls := .type "list", dict := none, data := .seq ([] : List Value).toArray } = H2 at hns₁ hsb₁ ⊢
  have sz2 : H2.objs.size = hp.objs.size + 2 := by rw [← hH2, Heap.size_push, sz1]
  have up2 : ∀ b o, H1.get? b = some o → H2.get? b = some o := fun b o e => hH2 ▸ Heap.get?_push_of_some _ e
  have up3 : ∀ b o, H2.get? b = some o → h₁.get? b = some o := fun b o e => hsb₁.extBut b o (Nat.ne_of_lt (Heap.lt_size e)) (Heap.get?_push_of_some _ e)
  have z1 : @LT.lt Nat _ hp.objs.size H1.objs.size := by rw [sz1]; exact Nat.lt_succ_self _
  have z2 : @LT.lt Nat _ H1.objs.size H2.objs.size := by rw [sz1, sz2]; exact Nat.lt_succ_self _
  have z3 : @LT.lt Nat _ hp.objs.size H2.objs.size := Nat.lt_trans z1 z2
  have hD2 : H2.get? H1.objs.size = some (LCg.lst []) := hH2 ▸ Heap.get?_push_size _ rfl
  have old : ∀ b o, hp.get? b = some o → h₁.get? b = some o := fun b o e => up3 _ _ (up2 _ _ (up1 _ _ e))
  have hLlt : L < hp.objs.size := F.ns.lt
  have ltN : ∀ p ∈ nw, p.1 < hp.objs.size := fun p hp' => Heap.lt_size (N p hp').1
  have fresh₀ : ∀ a, hp.objs.size ≤ a → h₀.get? a = none := fun a ha => by
    cases e : h₀.get? a with
    | none => rfl
    | some o' => exact absurd (Heap.lt_size (F.keep a o' e)) (Nat.not_lt.mpr ha)
  have loop : ∀ s₃ : Shared, (∃ tk, s₃ = { s with heap := h₁, toks := tk }) → codeAny (model prog w) A (.compLoop (.ListComp (.Name y pe) [⟨.Tuple [.Name x px, .Name x₂ px₂] tk tp, iter, [], 0⟩, ⟨.Name y py, .Name x₂ p2, [], 0⟩] scope pos) 0 (.ref hp.objs.size) (.ref H1.objs.size) (compEnvC scope cl H2.objs.size env))
      (compPost (model prog w) A E none Q (.ref H1.objs.size) H2.objs.size) s₃ := by
    rintro s₃ ⟨tk₃, rfl⟩
    refine outer_loop (H := hp) hh ⟨fun _ _ _ => rfl, fun _ _ _ => rfl, fun _ _ _ _ => rfl, start2_inner⟩ ⟨fun _ _ _ => rfl, fun _ _ _ => rfl, fun _ _ _ _ => rfl⟩ hkind hx hx₂ hy hxx hd hd₂ hPH hlist old (Nat.le_refl _) (Nat.le_of_lt z3) (Nat.le_of_lt z1) (Nat.ne_of_lt z3) (Nat.ne_of_lt z1) (Nat.ne_of_gt z2) (hI1.at fun o e => up3 _ _ (up2 _ _ e)) hns₁ (up3 _ _ hD2) hl fun h' tk' m' ys ks old' hn' hD' hks hyl => ?_
    refine ⟨m', hn', fun h'' hs'' => ?_⟩
    have up4 : ∀ b o, hp.get? b = some o → h''.get? b = some o := fun b o e => hs''.extBut b o (Nat.ne_of_lt (Nat.lt_trans (Heap.lt_size e) z3)) (old' b o e)
    refine k _ h'' tk' ys ks hks hyl (F.keeps up4) (fun p hp' => ?_) (fun p hp' => Nat.lt_trans (ltN p hp') z1)
    rcases List.mem_cons.mp hp' with rfl | hp'
    · refine ⟨hs''.extBut _ _ (Nat.ne_of_lt z2) hD', ?_, fresh₀ _ (Nat.le_of_lt z1)⟩
      exact Nat.ne_of_gt (Nat.lt_trans hLlt z1)
    · exact ⟨up4 _ _ (N p hp').1, (N p hp').2⟩
  exact codeAny_compStart_list (loop _ ⟨_, rfl⟩) (wpAny_pyIter_listiter (hI1.at fun o e => up3 _ _ (up2 _ _ e)) (loop _ ⟨_, rfl⟩))
end
end Mine

end
section
open Mine
namespace Mine
theorem rdn_at {w : World} {led : List (Addr × Obj)} {g : Obj → List (Addr × Obj)} {sio sd : Addr} {hs ts} {r : List Nat} {pos n : Nat} {t1 t2 t3 tk : Tok}
    {p : Program} {loose : List Str} {mean : ExcName → Option Value} {mg mb : Str → Option Value} {dp un : Nat} {gd : Option (List Code)} {cn : Str} {cs : Scope} {a : Addr} {ccd : Value} {cl : List (Str × Addr)} {outer : List Env} {A₀ : Around} {base h₀ : Heap} {L : Addr} {m : Str → Option Value} {s : Shared} {Q E : Value → Shared → Prop}
    (B : Below A₀ base outer h₀) (F : Fr h₀ L s.heap m) (X : (Mine.KK w.params).In h₀) (N : News h₀ L s.heap led) (T' : Top p loose mean mg mb h₀) (hk : cs.kind = .function)
    (hm : (sio, instObj 608 sd) ∈ led) (U : UpdF sd (sioD hs ts (T r) pos t1 t2 t3) led g) (hne : @Ne Nat sio sd)
    (hp : pos ≤ r.length ∧ r.length < 10000 ∧ n < 300) (hd : dp + 5 * 1 < recursionLimit) (hu : un + 40 * 1 < cLine)
    (ret : ∀ h' tk' t t', Fr h₀ L h' m → News h₀ L h' (g (sioD hs ts (T r) ((pos + ((r.drop pos).take n).length : Nat) : Int) t1 t2 t')) → Q (.str (T ((r.drop pos).take n)) t) { s with heap := h', toks := tk' }) :
    wpAny (model PySem.Challenge.pw_in0151_01 w) (ktrTop dp un gd cn cs L a ccd cl outer) (call (.ref 554) [.ref sio, .int (n : Nat) tk]) Q E s := by
  refine Con.use (Con.lift1 (fun tail h => rd_spec tail sio sd hs ts r pos n t1 t2 t3 tk h hne) hm U) B F X N T' hk hp hd hu ?_ (fun _ _ _ _ _ _ _ h _ _ _ _ => h.elim)
  rintro v h' tk' n' ⟨o', ⟨x, t, p', t', e1, e2, rfl, rfl⟩, rfl⟩ F' N'
  subst e1 e2
  exact ret h' tk' t t' F' N'
noncomputable def lamOf (K : Frag) (a : Addr) : Option (Arguments × Expr × Scope) := match K.lookup a with
  | some ⟨_, _, .func fd, _⟩ => (match fd.body with | .stmts (_ :: .Assign _ (.Lambda p b s _) _ :: _) => some (p, b, s) | _ => none)
  | _ => none
end Mine

end
section
open Mine
theorem Mine.pre_Lam : PySem.Challenge.rw_in0151_01 = PySem.Challenge.rw_in0151_01 ∧ Mine.KK = Mine.KK := by
  k_with_none
  k_fill
  k_with "om" => (first | with_reducible assumption | exact Nat.le_of_ble_eq_true rfl | with_reducible exact Nat.ne_of_lt (by assumption) | with_reducible exact Nat.ne_of_gt (by assumption) | with_reducible exact Nat.le_of_lt (by assumption) | with_reducible exact Nat.le_refl _ | with_reducible exact Nat.le_add_right _ _ | with_reducible exact Nat.lt_add_one _ | with_reducible exact Nat.succ_le_of_lt (by assumption) | with_reducible exact Nat.lt_of_succ_le (by assumption) | with_reducible exact Int.ofNat_lt.mpr (by assumption) | with_reducible exact Int.natCast_nonneg _ | with_reducible exact Mine.o_n (by assumption) | with_reducible exact Mine.o_l (by assumption) | with_reducible exact Mine.o_i (by assumption) (by assumption) | with_reducible exact Mine.o_k (by assumption) (by assumption) | with_reducible exact Mine.o_m (by assumption) (by assumption) | with_reducible exact Mine.o_w (by assumption) | with_reducible exact Mine.o_v (by assumption) (by assumption) (by assumption) | with_reducible exact Mine.o_s (by assumption) | with_reducible exact Mine.o_t (by assumption) | with_reducible exact Mine.o_17 (by assumption) | with_reducible exact Mine.o_y (by assumption) (by assumption) | with_reducible exact Mine.o_z (by assumption) (by assumption) | with_reducible exact Mine.o_y2 (by assumption) (by assumption) | exact Mine.o_a (a := 10000) (by with_reducible assumption) rfl | exact Mine.o_a (a := 9000) (by with_reducible assumption) rfl | exact Mine.o_a (a := 256) (by with_reducible assumption) rfl | exact Mine.o_a (a := 300) (by with_reducible assumption) rfl | exact Mine.o_a (by with_reducible assumption) rfl | exact Mine.o_b (a := 10000) (by with_reducible assumption) rfl | exact Mine.o_b (a := 9000) (by with_reducible assumption) rfl | exact Mine.o_b (a := 256) (by with_reducible assumption) rfl | exact Mine.o_b (by with_reducible assumption) rfl | exact Mine.o_c (by with_reducible assumption) rfl | exact Mine.o_d (by with_reducible assumption) rfl | exact Mine.o_e (by with_reducible assumption) rfl | exact Mine.o_f (by with_reducible assumption) rfl | exact Mine.o_g (by with_reducible assumption) rfl | exact Mine.o_h (by with_reducible assumption) rfl | exact Mine.o_1 (by with_reducible assumption) rfl | exact Mine.o_2 (by with_reducible assumption) rfl | exact Mine.o_3 (by with_reducible assumption) rfl | exact Mine.o_4 (by with_reducible assumption) rfl | with_reducible exact Mine.o_5 (by assumption) | exact Mine.o_6 (by with_reducible assumption) rfl | exact Mine.o_7 (by with_reducible assumption) rfl | exact Mine.o_12 (by with_reducible assumption) (by with_reducible assumption) rfl | exact Mine.o_13 (by with_reducible assumption) (by with_reducible assumption) rfl | exact Mine.o_14 (by with_reducible assumption) (by with_reducible assumption) rfl | exact Mine.o_15 (by with_reducible assumption) (by with_reducible assumption) rfl | with_reducible exact Mine.o_18 (by assumption) (by assumption) | with_reducible exact Mine.o_11 (by assumption) (by assumption) | with_reducible exact Mine.o_x (by assumption) (by assumption) | with_reducible exact Nat.ne_of_lt (Nat.lt_trans (by assumption) (by assumption)) | with_reducible exact Nat.ne_of_gt (Nat.lt_trans (by assumption) (by assumption)) | with_reducible exact Mine.o_r (by assumption) (by assumption) | with_reducible exact Mine.o_o (by assumption) (by assumption) | with_reducible exact Mine.o_p (by assumption) (by assumption) | with_reducible exact Mine.o_q (by assumption) (by assumption) | with_reducible exact Mine.o_u (by assumption) (by assumption) | with_reducible exact Mine.o_j (by assumption) (by assumption) | with_reducible exact Mine.o_20 (by assumption) | with_reducible exact Mine.o_21 (by assumption) | with_reducible exact Mine.o_22 (by assumption) | with_reducible exact Mine.o_23 (by assumption) | with_reducible exact Mine.o_24 (by assumption) | with_reducible exact Mine.o_28 (by assumption) | with_reducible exact Mine.o_29 (by assumption) | with_reducible exact Mine.o_31 (by assumption) | with_reducible exact Mine.o_25 (by assumption) (by assumption) (by assumption) | with_reducible exact Mine.o_26 (by assumption) (by assumption) (by assumption) | with_reducible exact Mine.o_27 (by assumption) (by assumption) | with_reducible exact Mine.o_30 (by assumption) (by assumption) | exact Mine.o_19 (by with_reducible assumption) (by with_reducible assumption) rfl | fail "om")
  k_with "my enter" => (refine' code_def ?k1_z ?k2_z ?k3_z ?k4_z ?k5_z ?kA_z ?kF_z ?kK_z ?k6_z ?k7_z ?k8_z ?k9_z ?kB_z ?_ ?c2_z ?c3_z ?c4_z ?c5_z; (case kA_z => exact rfl); (case kF_z => exact rfl); (case kK_z => first | exact rfl | assumption); (case k1_z => k_asm); (case k2_z => k_asm); (case k3_z => k_asm); (case k4_z => k_asm); (case k5_z => k_asm); (case k6_z => k_is); (case k7_z => k_is); (case k8_z => ktr_room); (case k9_z => first | exact BindsTo.of_eq rfl | exact binds_K (by k_in) rfl (by k_is) rfl rfl rfl); (case c5_z => decide); (case kB_z => exact locs rfl); (case c2_z => exact rfl); (case c3_z => exact rfl); (case c4_z => exact rfl); k_whole; intro G LL h1 FG F1 N1 B1 X1 T1; (try dsimp only); (try k_lift B1); (try k_fold))
  k_with "call builtin:str.find" => (refine Mine.find4 (by first | rfl | omega) ?_)
  k_with "truthy str" => ((with_reducible show wpAny _ _ (PySem.truthy (Value.str (Str.mk (List.toArray _)) _)) _ _ _); (refine Mine.truthy_T (by first | assumption | omega) ?_); intro _)
  k_with "truthy str" => ((with_reducible show wpAny _ _ (PySem.truthy (Value.str (Str.mk (List.toArray [_])) _)) _ _ _); (refine Mine.truthy_one ?_); intro _)
  k_with "compareOp In str str" => ((with_reducible show wpAny _ _ (compareOp CmpOp.In (Value.str (Str.mk (List.toArray [_])) _) _) _ _ _); first | refine Mine.in_ws ?_ | refine Mine.in_cm ?_ | refine Mine.in_es ?_ | refine Mine.in_dt ?_ | refine Mine.in_wc ?_ | refine Mine.in_none ?_ | refine Mine.in_qs ?_)
  k_with "inplaceOp Add str str" => ((with_reducible show wpAny _ _ (inplaceOp _ (Value.str (Str.mk (List.toArray _)) _) (Value.str (Str.mk (List.toArray _)) _)) _ _ _); (refine Mine.iadd_T (by first | omega | (simp only [List.length_append, List.length_cons, List.length_nil] at *; omega)) ?_); intro _ _)
  k_with "compareOp Eq str str" => ((with_reducible show wpAny _ _ (compareOp CmpOp.Eq (Value.str (Str.mk (List.toArray [_])) _) _) _ _ _); ((with_reducible first | refine Mine.eq_nl ?_ ?_ | refine Mine.eq_sp ?_ ?_ | refine Mine.eq_lc ?_ ?_ | refine Mine.eq_hs ?_ ?_ | refine Mine.eq_dq ?_ ?_ | refine Mine.eq_bs ?_ ?_ | refine Mine.eq_dd ?_ ?_) <;> (intro hspz; first | (exfalso; revert hspz; decide) | (subst hspz) | skip)))
  k_with "compareOp NotEq str str" => ((with_reducible show wpAny _ _ (compareOp CmpOp.NotEq (Value.str (Str.mk (List.toArray [_])) _) _) _ _ _); ((with_reducible refine Mine.ne_dd ?_ ?_) <;> (intro hspz; first | (exfalso; revert hspz; decide) | (subst hspz) | skip)))
  k_with "exec If" => refine wpAny_If ?_
  k_with "call type:ValueError" => (k_dflt (refine Mine.raise_VE ?_); intro h'z ez hmxz)
  k_with "leaving ref" => (k_dflt (refine' leave_raiseS ?k1_z (Heap.MadeExc.of ?k2_z) ?k3_z ?k4_z ?_; (case k1_z => assumption); (case k2_z => assumption); (case k3_z => assumption); (case k4_z => assumption)); intro h'z t'z R1z R2z U1z)
  k_with "subscriptTail Name Name str int" => (k_dflt (refine Mine.item_T (by omega) (by omega) ?_; intro cz s'z hsufz tkz kz))
  k_with "subscriptTail Name Name str int" => (k_dflt (refine Mine.item_H (by assumption) (by omega) ?_; intro tkz kz))
  k_with "call ref" => (k_here; (with_reducible show wpAny _ _ (call (Value.ref 554) [Value.ref _, Value.int _ _]) _ _ _); k_dflt (refine' Mine.rd1_at ?k1_z ?k2_z ?k3_z ?k4_z ?k5_z ?kK_z ?km_z ?kU_z ?kn_z ?kp_z ?kd_z ?ku_z ?_ ?_; (case k1_z => k_asm); (case k2_z => k_asm); (case k3_z => k_asm); (case k4_z => k_asm); (case k5_z => k_asm); (case kK_z => first | exact rfl | assumption); (case km_z => k_mem); (case kU_z => k_updF); (case kn_z => omega); (case kp_z => constructor <;> omega); (case kd_z => ktr_room); (case ku_z => ktr_units); all_goals (intro cz s'z hsufz h'z tk'z tz t'z F'z N'z; (try dsimp only at N'z); (try k_sweep))))
  k_with "call ref" => (k_here; (try simp only [List.nil_append, List.cons_append, List.append_nil]); (with_reducible show wpAny _ _ (call (Value.ref 562) [Value.ref _]) _ _ _); k_dflt (refine' Mine.rl_at ?k1_z ?k2_z ?k3_z ?k4_z ?k5_z ?kK_z ?km_z ?kU_z ?kn_z ?kp_z ?kd_z ?ku_z ?_; (case k1_z => k_asm); (case k2_z => k_asm); (case k3_z => k_asm); (case k4_z => k_asm); (case k5_z => k_asm); (case kK_z => first | exact rfl | assumption); (case km_z => k_mem); (case kU_z => k_updF); (case kn_z => omega); (case kp_z => constructor <;> omega); (case kd_z => ktr_room); (case ku_z => ktr_units); (intro xz h'z tk'z tz t'z F'z N'z; (try dsimp only at N'z); (try k_sweep))))
  k_with "exec While Constant cons nil" => refine Mine.Halt.out ?_
  k_with "KswEnd" => refine Mine.Halt.out ?_
  k_with "truthy ref" => (k_here; k_dflt (refine' Mine.dq_truthy_N ?N_z ?m_z ?f_z ?_; (case N_z => k_asm); (case m_z => k_mem); (case f_z => first | decide | omega | (simp only [List.length_cons, List.length_nil]; omega)); k_whole); intro _; (try simp only [List.isEmpty_cons, List.isEmpty_nil, Bool.not_false, Bool.not_true]))
  k_with "getMethod ref" => (k_here; (with_reducible show wpAny _ _ (getMethod (Value.ref _) (PySem.Str.ofString "appendleft") _) _ _ _); k_dflt (refine' Mine.dq_method ?N_z ?m_z Mine.slot_dq_appendleft Mine.type_dq_appendleft ?_; (case N_z => k_asm); (case m_z => k_mem)))
  k_with "getMethod ref" => (k_here; (with_reducible show wpAny _ _ (getMethod (Value.ref _) (PySem.Str.ofString "popleft") _) _ _ _); k_dflt (refine' Mine.dq_method ?N_z ?m_z Mine.slot_dq_popleft Mine.type_dq_popleft ?_; (case N_z => k_asm); (case m_z => k_mem)))
  k_with "call builtin:collections.deque.appendleft" => (k_here; k_dflt (refine' Mine.dq_appendleft ?k1_z ?k2_z ?k3_z ?z_z ?_; (case k1_z => k_asm); (case k2_z => k_asm); (case k3_z => k_upd); (case z_z => first | decide | omega)); intro h'z F'z N'z; (try k_sweep))
  k_with "call builtin:collections.deque.popleft" => (k_here; k_dflt (refine' Mine.dq_popleft ?k1_z ?k2_z ?k3_z ?z_z ?_; (case k1_z => k_asm); (case k2_z => k_asm); (case k3_z => k_upd); (case z_z => first | decide | omega)); intro h'z F'z N'z; (try k_sweep))
  k_with "compareOp In str str" => ((with_reducible show wpAny _ _ (compareOp CmpOp.In (Value.str (Mine.ES.str _) _) _) _ _ _); (rename Mine.ES => ezz; cases ezz <;> dsimp only [Mine.ES.str] at *))
  k_with "compareOp In str str" => ((with_reducible show wpAny _ _ (compareOp CmpOp.In (Value.str (Mine.ES.str _) _) _) _ _ _); (rename Mine.ES => ezz; cases ezz <;> dsimp only [Mine.ES.str] at *); all_goals (try (exfalso; (have hqz := (by assumption : Mine.ES.sp = Mine.ES.sp → _ ≤ _) rfl); omega)))
  k_with "call ref" => (k_here; (try simp only [List.nil_append, List.cons_append, List.append_nil]); (with_reducible show wpAny _ _ (call (Value.ref 711) [Value.ref _]) _ _ _); k_dflt (refine' Mine.Con.use (Mine.rt_spec _ _ _ _ _ _ _ _ _ _ _ _ _ _ _ _ _ _ _ _ _ _ _ _ _ ?a1_z ?a2_z ?a3_z ?a4_z ?a5_z ?a6_z ?a7_z) ?k1_z ?k2_z ?k3_z ?k4_z ?k5_z ?kK_z ?kp_z ?kd_z ?ku_z ?_ ?_; (case k1_z => k_asm); (case k2_z => k_asm); (case k3_z => k_asm); (case k4_z => k_asm); (case k5_z => k_asm); (case kK_z => first | exact rfl | assumption); (case a1_z => k_all); (case a2_z => k_all); (case a3_z => k_all); (case a4_z => omega); (case a5_z => omega); (case a6_z => omega); (case a7_z => omega); (case kp_z => assumption); (case kd_z => ktr_room); (case ku_z => ktr_units)); k_dflt (all_goals first
    | (rintro vz h'z tk'z n'z ⟨cz, pushz, dn'z, tvz, hRz, hpz, e1z, e2z⟩ F'z N'z; (subst e1z); (subst e2z); rcases cz with ⟨a0z, a1z, a2z, a3z, a4z, a5z, a6z, a7z, a8z, a9z, a10z⟩; dsimp only at hRz hpz N'z ⊢; (by_cases hvz : a4z = false ∧ a2z = []) <;> (first | rw [if_pos hvz] | rw [if_neg hvz]) <;> (try k_sweep))
    | (rintro ez tz g'z h'z tk'z esz n'z ⟨kz, cz, tmz, hRz, hpz, e1z, e2z⟩ F'z R1z R2z U1z; (subst e1z); (subst e2z); rcases cz with ⟨a0z, a1z, a2z, a3z, a4z, a5z, a6z, a7z, a8z, a9z, a10z⟩; dsimp only at hRz hpz R1z R2z ⊢)))
  k_with "leaving ref" => (k_dflt (refine' leave_onS ?k1_z ?k2_z ?k3_z ?k4_z ?_; (case k1_z => assumption); (case k3_z => assumption); (case k2_z => assumption); (case k4_z => assumption)); intro h'z R1z R2z U1z)
  k_with "call builtin:len" => ((with_reducible show wpAny _ _ (call (Value.builtin "len") [Value.str (Str.mk (List.toArray _)) _]) _ _ _); (refine Mine.len_T (by first | omega | (simp only [List.length_take, List.length_drop]; omega)) ?_); intro t'z kz; (try simp only [List.length_take, List.length_drop]))
  k_with "call builtin:len" => ((with_reducible show wpAny _ _ (call (Value.builtin "len") [Value.bytes (Mine.Byt _) _]) _ _ _); (refine Mine.len_B (by first | omega | (simp only [List.length_take, List.length_drop]; omega)) ?_); intro t'z kz; (try simp only [List.length_take, List.length_drop]))
  k_with "eval ListComp" => (k_here; k_dflt (refine Mine.comp_str (by k_asm) (by with_unfolding_all rfl) (by decide) (by rfl) (by decide) (by rfl) ?_))
  k_with "StrSrc" => (k_dflt (refine ⟨_, _, _, rfl, by rfl, by k_asm, by k_asm, ?hz_z, ?_⟩; (case hz_z => first | omega | (simp only [List.length_take, List.length_drop]; omega)); (rintro _ ⟨g'z, e'z⟩; subst e'z); (refine' Mine.ord_rest (fun c' t' I' oI' C' oC' D' m' ys' h' tk' E' hk' hC' hx' F' N' off' ne' hMark' => ?_) (fun ys' hI' => ?_)); (all_goals (try (simp only [LCg.Off3, and_true] at off'))); (all_goals (try unfold LCg.FinE))))
  k_with "call type:bytes" => ((with_reducible show wpAny _ _ (call (Value.type "bytes") [Value.ref _]) _ _ _); k_dflt (refine' Mine.bytes_at ?kF_z ?kN_z ?km_z ?ki_z ?hr_z ?hz_z ?hh_z ?_; (case kF_z => k_asm); (case kN_z => k_asm); (case km_z => k_mem); (case ki_z => assumption); (case hr_z => exact Mine.take_256 (by assumption)); (case hz_z => first | omega | (simp only [List.length_take, List.length_drop]; omega)); (case hh_z => rfl)); intro h'z t'z k'z F'z N'z)
  k_with "binaryOp Mod str ref" => (k_dflt (refine' Mine.mod_law ?kN_z ?kb_z ?kk_z ?kc_z ?kn_z ?_; (case kN_z => k_asm); (case kb_z => k_mem); (case kk_z => decide +kernel); (case kc_z => omega); (case kn_z => omega)); intro t'z k'z)
  k_with "call ref" => (k_here; (with_reducible show wpAny _ _ (call (Value.ref 554) [Value.ref _, Value.int _ _]) _ _ _); k_dflt (refine' Mine.rdn_at ?k1_z ?k2_z ?k3_z ?k4_z ?k5_z ?kK_z ?km_z ?kU_z ?kn_z ?kp_z ?kd_z ?ku_z ?_; (case k1_z => k_asm); (case k2_z => k_asm); (case k3_z => k_asm); (case k4_z => k_asm); (case k5_z => k_asm); (case kK_z => first | exact rfl | assumption); (case km_z => k_mem); (case kU_z => k_updF); (case kn_z => omega); (case kp_z => refine ⟨?_, ?_, ?_⟩ <;> omega); (case kd_z => ktr_room); (case ku_z => ktr_units); (intro h'z tk'z tz t'z F'z N'z; (try dsimp only at N'z); (try k_sweep))))
  k_with "my enterL" => (refine' kla_code ?k1_z ?k2_z ?k3_z ?k4_z ?k5_z ?kA_z ?kF_z ?kK_z ?k6_z ?k7_z ?k8_z ?k9_z ?kB_z ?_ ?c2_z ?c3_z ?c4_z ?c5_z; (case kA_z => exact rfl); (case kF_z => exact rfl); (case kK_z => first | exact rfl | assumption); (case k1_z => k_asm); (case k2_z => k_asm); (case k3_z => k_asm); (case k4_z => k_asm); (case k5_z => k_asm); (case k6_z => k_mem); (case k7_z => exact codeRec_news (by k_asm) (by k_mem) (by assumption) (by assumption)); (case k8_z => ktr_room); (case k9_z => exact rfl); (case c5_z => decide); (case kB_z => exact locs rfl); (case c2_z => exact rfl); (case c3_z => exact rfl); (case c4_z => exact rfl); k_whole; intro G LL h1 FG F1 N1 B1 X1 T1; (try dsimp only); (try k_lift B1); (try k_fold))
  k_with "eval Name" => (k_here; (with_reducible show wpAny _ _ (eval (Expr.Name (Str.ofString "lexer") _) _) _ _ _); k_dflt (refine' nameX_F ?N_z ?c_z ?m_z ?d_z ?_ ?a_z ?b_z; (case a_z => rfl); (case b_z => rfl); (case N_z => k_asm); (case c_z => rfl); (case m_z => k_mem); (case d_z => k_asm); k_whole))
  exact ⟨rfl, rfl⟩

namespace Mine
theorem lam_spec {w : World} (news : List (Addr × Obj)) {P : Arguments} {b : Expr} {sc : Scope} (hl : lamOf (Mine.KK w.params) 759 = some (P, b, sc)) (f c' cc x ld sio sd pb fs : Addr) (qual : Str) (pm ct rd state : Value) (oc o2 : Obj) (vs : Array Value) (tq : Tok)
  (hs hs2 : Nat → Int) (ts ts2 tc : Nat → Tok) (r : List Nat) (pos n : Nat) (line : Int) (token : Str) (t1 t2 t3 tk tl tt : Tok)
  (hoc : oc.data = .fields vs) (hvs : vs[1]? = some (.str qual tq)) (ho2 : o2.data = .cell (some (.ref x))) (hne : ∀ q ∈ news, q.1 ≠ sd)
  (h256 : ∀ c ∈ r, c < 256)
  (hlt : @LT.lt Nat _ cc ld ∧ @LT.lt Nat _ ld x ∧ @LT.lt Nat _ x sd ∧ @LT.lt Nat _ sd sio ∧ @LT.lt Nat _ sio c' ∧ @LT.lt Nat _ c' f) :
  Con 3 w f ((f, kla_obj "<lambda>" qual P b sc [("lexer", cc)] pm c' ct) :: (c', oc) :: (cc, o2) :: (x, instObj 743 ld) :: (ld, lexD hs ts sio pb fs rd tc state line tl token tt) :: (sio, instObj 608 sd) :: (sd, sioD hs2 ts2 (T r) pos t1 t2 t3) :: news)
    (pos ≤ r.length ∧ r.length < 10000 ∧ n < 300) [.int (n : Nat) tk]
    (fun v n' => ∃ t t', v = .bytes (Byt ((r.drop pos).take n)) t ∧ n' = ((f, kla_obj "<lambda>" qual P b sc [("lexer", cc)] pm c' ct) :: (c', oc) :: (cc, o2) :: (x, instObj 743 ld) :: (ld, lexD hs ts sio pb fs rd tc state line tl token tt) :: (sio, instObj 608 sd) :: (sd, sioD hs2 ts2 (T r) ((pos + ((r.drop pos).take n).length : Nat) : Int) t1 t2 t') :: news)) (fun _ _ => False) := by
  have key := Option.some.inj ((rfl : lamOf (Mine.KK w.params) 759 = some _).symm.trans hl)
  cases key
  dsimp only [Con]; intros; rename_i hpre _ _ hret _
  refine wpAny_call ?_
  k_dflt (walk_at "my enterL")
  obtain ⟨hpos, hlen, hn⟩ := hpre
  obtain ⟨hl1, hl2, hl3, hl4, hl5, hl6⟩ := hlt
  k_steps
  exact hret _ _ _ _ ⟨_, _, rfl, rfl⟩ (by assumption) (News.sub (by assumption) (by kcf_all))
end Mine

end
section
open Mine
namespace Mine
theorem lam_at {w : World} {led : List (Addr × Obj)} {g : Obj → List (Addr × Obj)} {P : Arguments} {b : Expr} {sc : Scope} (hl : lamOf (Mine.KK w.params) 759 = some (P, b, sc)) {f c' cc x ld sio sd pb fs : Addr} {qual : Str} {pm ct rd state : Value} {oc o2 : Obj} {vs : Array Value} {tq : Tok}
    {hs hs2 : Nat → Int} {ts ts2 tc : Nat → Tok} {r : List Nat} {pos n : Nat} {line : Int} {token : Str} {t1 t2 t3 tk tl tt : Tok}
    {p : Program} {loose : List Str} {mean : ExcName → Option Value} {mg mb : Str → Option Value} {dp un : Nat} {gd : Option (List Code)} {cn : Str} {cs : Scope} {a : Addr} {ccd : Value} {cl : List (Str × Addr)} {outer : List Env} {A₀ : Around} {base h₀ : Heap} {L : Addr} {m : Str → Option Value} {s : Shared} {Q E : Value → Shared → Prop}
    (B : Below A₀ base outer h₀) (F : Fr h₀ L s.heap m) (X : (Mine.KK w.params).In h₀) (N : News h₀ L s.heap led) (T' : Top p loose mean mg mb h₀) (hk : cs.kind = .function)
    (m1 : (f, kla_obj "<lambda>" qual P b sc [("lexer", cc)] pm c' ct) ∈ led) (m2 : (c', oc) ∈ led) (m3 : (cc, o2) ∈ led) (m4 : (x, instObj 743 ld) ∈ led) (m5 : (ld, lexD hs ts sio pb fs rd tc state line tl token tt) ∈ led) (m6 : (sio, instObj 608 sd) ∈ led)
    (U : UpdF sd (sioD hs2 ts2 (T r) pos t1 t2 t3) led g) (hoc : oc.data = .fields vs) (hvs : vs[1]? = some (.str qual tq)) (ho2 : o2.data = .cell (some (.ref x))) (h256 : ∀ c ∈ r, c < 256)
    (hlt : @LT.lt Nat _ cc ld ∧ @LT.lt Nat _ ld x ∧ @LT.lt Nat _ x sd ∧ @LT.lt Nat _ sd sio ∧ @LT.lt Nat _ sio c' ∧ @LT.lt Nat _ c' f)
    (hp : pos ≤ r.length ∧ r.length < 10000 ∧ n < 300) (hd : dp + 5 * 3 < recursionLimit) (hu : un + 40 * 3 < cLine)
    (ret : ∀ h' tk' t t', Fr h₀ L h' m → News h₀ L h' (g (sioD hs2 ts2 (T r) ((pos + ((r.drop pos).take n).length : Nat) : Int) t1 t2 t')) → Q (.bytes (Byt ((r.drop pos).take n)) t) { s with heap := h', toks := tk' }) :
    wpAny (model PySem.Challenge.pw_in0151_01 w) (ktrTop dp un gd cn cs L a ccd cl outer) (call (.ref f) [.int (n : Nat) tk]) Q E s := by
  obtain ⟨pr, po, h1, h2, h3, h4⟩ := U.split
  refine lam_spec (pr ++ po) hl f c' cc x ld sio sd pb fs qual pm ct rd state oc o2 vs tq hs hs2 ts ts2 tc r pos n line token t1 t2 t3 tk tl tt hoc hvs ho2 (fun q hq => ?_) h256 hlt
    p loose mean mg mb dp un gd cn cs a ccd cl outer A₀ base h₀ L m s Q E B F X (News.sub N fun q hq => ?_) T' hk hp hd hu ?_ (fun _ _ _ _ _ _ _ h _ _ _ _ => h.elim)
  · rcases List.mem_append.mp hq with h | h
    · exact h3 q h
    · exact h4 q h
  · simp only [List.mem_cons, List.mem_append] at hq
    rcases hq with e | e | e | e | e | e | e | e | e
    · rw [e]; exact m1
    · rw [e]; exact m2
    · rw [e]; exact m3
    · rw [e]; exact m4
    · rw [e]; exact m5
    · rw [e]; exact m6
    · rw [e, h1]; exact List.mem_append_right _ (.head _)
    · rw [h1]; exact List.mem_append_left _ e
    · rw [h1]; exact List.mem_append_right _ (.tail _ e)
  · rintro v h' tk' n' ⟨t, t', rfl, rfl⟩ F' N'
    refine ret h' tk' t t' F' (News.sub N' fun q hq => ?_)
    rw [h2] at hq
    simp only [List.mem_append, List.mem_cons] at hq ⊢
    rcases hq with h | h | h
    · simp [h]
    · simp [h]
    · simp [h]
theorem lam1_at {w : World} {led : List (Addr × Obj)} {g : Obj → List (Addr × Obj)} {P : Arguments} {b : Expr} {sc : Scope} (hl : lamOf (Mine.KK w.params) 759 = some (P, b, sc)) {f c' cc x ld sio sd pb fs : Addr} {qual : Str} {pm ct rd state : Value} {oc o2 : Obj} {vs : Array Value} {tq : Tok}
    {hs hs2 : Nat → Int} {ts ts2 tc : Nat → Tok} {r : List Nat} {pos : Nat} {line : Int} {token : Str} {t1 t2 t3 tk tl tt : Tok}
    {p : Program} {loose : List Str} {mean : ExcName → Option Value} {mg mb : Str → Option Value} {dp un : Nat} {gd : Option (List Code)} {cn : Str} {cs : Scope} {a : Addr} {ccd : Value} {cl : List (Str × Addr)} {outer : List Env} {A₀ : Around} {base h₀ : Heap} {L : Addr} {m : Str → Option Value} {s : Shared} {Q E : Value → Shared → Prop}
    (B : Below A₀ base outer h₀) (F : Fr h₀ L s.heap m) (X : (Mine.KK w.params).In h₀) (N : News h₀ L s.heap led) (T' : Top p loose mean mg mb h₀) (hk : cs.kind = .function)
    (m1 : (f, kla_obj "<lambda>" qual P b sc [("lexer", cc)] pm c' ct) ∈ led) (m2 : (c', oc) ∈ led) (m3 : (cc, o2) ∈ led) (m4 : (x, instObj 743 ld) ∈ led) (m5 : (ld, lexD hs ts sio pb fs rd tc state line tl token tt) ∈ led) (m6 : (sio, instObj 608 sd) ∈ led)
    (U : UpdF sd (sioD hs2 ts2 (T r) pos t1 t2 t3) led g) (hoc : oc.data = .fields vs) (hvs : vs[1]? = some (.str qual tq)) (ho2 : o2.data = .cell (some (.ref x))) (h256 : ∀ c ∈ r, c < 256)
    (hlt : @LT.lt Nat _ cc ld ∧ @LT.lt Nat _ ld x ∧ @LT.lt Nat _ x sd ∧ @LT.lt Nat _ sd sio ∧ @LT.lt Nat _ sio c' ∧ @LT.lt Nat _ c' f)
    (hp : pos ≤ r.length ∧ r.length < 10000) (hd : dp + 5 * 3 < recursionLimit) (hu : un + 40 * 3 < cLine)
    (ret0 : r.drop pos = [] → ∀ h' tk' t t', Fr h₀ L h' m → News h₀ L h' (g (sioD hs2 ts2 (T r) pos t1 t2 t')) → Q (.bytes (Byt []) t) { s with heap := h', toks := tk' })
    (ret1 : ∀ (c : Nat) (s' : List Nat), (r.drop pos = c :: s' ∧ pos + 1 ≤ r.length ∧ c < 256) → ∀ h' tk' t t', Fr h₀ L h' m → News h₀ L h' (g (sioD hs2 ts2 (T r) (pos + 1 : Nat) t1 t2 t')) → Q (.bytes (Byt [c]) t) { s with heap := h', toks := tk' }) :
    wpAny (model PySem.Challenge.pw_in0151_01 w) (ktrTop dp un gd cn cs L a ccd cl outer) (call (.ref f) [.int (1 : Nat) tk]) Q E s := by
  refine lam_at (n := 1) hl B F X N T' hk m1 m2 m3 m4 m5 m6 U hoc hvs ho2 h256 hlt ⟨hp.1, hp.2, by omega⟩ hd hu ?_
  intro h' tk' t t' F' N'
  cases he : r.drop pos with
  | nil =>
    rw [he] at N'
    exact ret0 he h' tk' t t' F' N'
  | cons c s' =>
    rw [he] at N'
    have hlen : pos + 1 ≤ r.length := by
      have := congrArg List.length he
      simp at this
      omega
    have hc : c ∈ r := List.mem_of_mem_drop (i := pos) (by rw [he]; exact .head _)
    exact ret1 c s' ⟨he, hlen, h256 c hc⟩ h' tk' t t' F' N'
end Mine

end
section
open Mine
theorem Mine.pre_Rd : PySem.Challenge.rw_in0151_01 = PySem.Challenge.rw_in0151_01 ∧ Mine.KK = Mine.KK := by
  k_with "call builtin:len" => ((with_reducible show wpAny _ _ (call (Value.builtin "len") [Value.str (Str.mk (List.toArray _)) _]) _ _ _); (refine Mine.len_T (by first | omega | (simp only [List.length_take, List.length_drop]; omega)) ?_); intro t'z kz; (try simp only [List.length_take, List.length_drop]))
  k_with "call builtin:len" => ((with_reducible show wpAny _ _ (call (Value.builtin "len") [Value.bytes (Mine.Byt _) _]) _ _ _); (refine Mine.len_B (by first | omega | (simp only [List.length_take, List.length_drop]; omega)) ?_); intro t'z kz; (try simp only [List.length_take, List.length_drop]))
  k_with "eval ListComp" => (k_here; k_dflt (refine Mine.comp_str (by k_asm) (by with_unfolding_all rfl) (by decide) (by rfl) (by decide) (by rfl) ?_))
  k_with "StrSrc" => (k_dflt (refine ⟨_, _, _, rfl, by rfl, by k_asm, by k_asm, ?hz_z, ?_⟩; (case hz_z => first | omega | (simp only [List.length_take, List.length_drop]; omega)); (rintro _ ⟨g'z, e'z⟩; subst e'z); (refine' Mine.ord_rest (fun c' t' I' oI' C' oC' D' m' ys' h' tk' E' hk' hC' hx' F' N' off' ne' hMark' => ?_) (fun ys' hI' => ?_)); (all_goals (try (simp only [LCg.Off3, and_true] at off'))); (all_goals (try unfold LCg.FinE))))
  k_with "call type:bytes" => ((with_reducible show wpAny _ _ (call (Value.type "bytes") [Value.ref _]) _ _ _); k_dflt (refine' Mine.bytes_at ?kF_z ?kN_z ?km_z ?ki_z ?hr_z ?hz_z ?hh_z ?_; (case kF_z => k_asm); (case kN_z => k_asm); (case km_z => k_mem); (case ki_z => assumption); (case hr_z => exact Mine.take_256 (by assumption)); (case hz_z => first | omega | (simp only [List.length_take, List.length_drop]; omega)); (case hh_z => rfl)); intro h'z t'z k'z F'z N'z)
  k_with "binaryOp Mod str ref" => (k_dflt (refine' Mine.mod_law ?kN_z ?kb_z ?kk_z ?kc_z ?kn_z ?_; (case kN_z => k_asm); (case kb_z => k_mem); (case kk_z => decide +kernel); (case kc_z => omega); (case kn_z => omega)); intro t'z k'z)
  k_with "call ref" => (k_here; (with_reducible show wpAny _ _ (call (Value.ref _) [Value.int _ _] _) _ _ _); k_dflt (refine' Mine.lam_at ?kl_z ?k1_z ?k2_z ?k3_z ?k4_z ?k5_z ?kK_z ?m1_z ?m2_z ?m3_z ?m4_z ?m5_z ?m6_z ?kU_z ?ko_z ?kv_z ?k0_z ?kh_z ?kn_z ?kp_z ?kd_z ?ku_z ?_; (case k1_z => k_asm); (case k2_z => k_asm); (case k3_z => k_asm); (case k4_z => k_asm); (case k5_z => k_asm); (case kl_z => assumption); (case m1_z => k_mem); (case kK_z => first | exact rfl | assumption); (case m2_z => k_mem); (case m3_z => k_mem); (case ko_z => assumption); (case kv_z => assumption); (case k0_z => assumption); (case m4_z => k_mem); (case m5_z => k_mem); (case m6_z => k_mem); (case kU_z => k_updF); (case kh_z => assumption); (case kn_z => refine ⟨?_, ?_, ?_, ?_, ?_, ?_⟩ <;> omega); (case kp_z => refine ⟨?_, ?_, ?_⟩ <;> omega); (case kd_z => ktr_room); (case ku_z => ktr_units); (intro h'z tk'z tz t'z F'z N'z; (try dsimp only at N'z); (try k_sweep))))
  k_with "call ref" => (k_here; (with_reducible show wpAny _ _ (call (Value.ref _) [Value.int (1 : Int) _] _) _ _ _); k_dflt (refine' Mine.lam1_at ?kl_z ?k1_z ?k2_z ?k3_z ?k4_z ?k5_z ?kK_z ?m1_z ?m2_z ?m3_z ?m4_z ?m5_z ?m6_z ?kU_z ?ko_z ?kv_z ?k0_z ?kh_z ?kn_z ?kp_z ?kd_z ?ku_z ?_ ?_; (case k1_z => k_asm); (case k2_z => k_asm); (case k3_z => k_asm); (case k4_z => k_asm); (case k5_z => k_asm); (case kl_z => assumption); (case m1_z => k_mem); (case kK_z => first | exact rfl | assumption); (case m2_z => k_mem); (case m3_z => k_mem); (case ko_z => assumption); (case kv_z => assumption); (case k0_z => assumption); (case m4_z => k_mem); (case m5_z => k_mem); (case m6_z => k_mem); (case kU_z => k_updF); (case kh_z => assumption); (case kn_z => refine ⟨?_, ?_, ?_, ?_, ?_, ?_⟩ <;> omega); (case kp_z => refine ⟨?_, ?_⟩ <;> omega); (case kd_z => ktr_room); (case ku_z => ktr_units); (all_goals (first | (intro c'z s'z hsufz; obtain ⟨hsufz, hslz, hc6z⟩ : _ ∧ _ ∧ _ := hsufz; intro h'z tk'z tz t'z F'z N'z) | intro hsufz h'z tk'z tz t'z F'z N'z)); (all_goals (try dsimp only at N'z)); (all_goals (try k_sweep))))
  k_with "callWith ref" => (k_here; k_dflt (first | (refine' callWith_F ?k1_z ?_; (case k1_z => exact FnAt.of (by k_asm) (by k_mem)); k_whole) | (refine' callWith_F0 ?k1_z ?_; (case k1_z => exact FnAt.of (by k_asm) (by k_mem)); k_whole; try dsimp only [List.nil_append, List.cons_append])))
  k_with "FnAt" => (k_dflt (exact FnAt.of (by k_asm) (by k_mem)))
  k_with "truthy bytes" => (k_dflt (refine Mine.truthy_B (by first | decide | omega | (simp; done) | (simp only [List.length_take, List.length_drop]; omega)) ?_); intro k'z; (try simp only [List.isEmpty_cons, List.isEmpty_nil, Bool.not_false, Bool.not_true]))
  k_with "subscriptTail Name Constant bytes int" => (k_dflt (refine Mine.item_B (by assumption) (by decide) ?_ (by with_unfolding_all rfl) (by intro _; with_unfolding_all rfl)); intro t'z k'z)
  exact ⟨rfl, rfl⟩

namespace Mine
theorem u1_spec {w : World} (news : List (Addr × Obj)) {P : Arguments} {b : Expr} {sc : Scope} (hl : lamOf (Mine.KK w.params) 759 = some (P, b, sc)) (f c' cc x ld sio sd pb fs : Addr) (qual : Str) (pm ct state : Value) (oc o2 : Obj) (vs : Array Value) (tq : Tok)
  (hs hs2 : Nat → Int) (ts ts2 tc : Nat → Tok) (r : List Nat) (pos : Nat) (line : Int) (token : Str) (t1 t2 t3 tl tt : Tok)
  (hoc : oc.data = .fields vs) (hvs : vs[1]? = some (.str qual tq)) (ho2 : o2.data = .cell (some (.ref x))) (hne : ∀ q ∈ news, q.1 ≠ sd)
  (h256 : ∀ c ∈ r, c < 256)
  (hlt : @LT.lt Nat _ cc ld ∧ @LT.lt Nat _ ld x ∧ @LT.lt Nat _ x sd ∧ @LT.lt Nat _ sd sio ∧ @LT.lt Nat _ sio c' ∧ @LT.lt Nat _ c' f) :
  Con 5 w 46 ((f, kla_obj "<lambda>" qual P b sc [("lexer", cc)] pm c' ct) :: (c', oc) :: (cc, o2) :: (x, instObj 743 ld) :: (ld, lexD hs ts sio pb fs (.ref f) tc state line tl token tt) :: (sio, instObj 608 sd) :: (sd, sioD hs2 ts2 (T r) pos t1 t2 t3) :: news)
    (pos ≤ r.length ∧ r.length < 9000) [.ref x]
    (fun v n' => ∃ c s' t t', r.drop pos = c :: s' ∧ v = .int (c : Nat) t ∧ n' = ((f, kla_obj "<lambda>" qual P b sc [("lexer", cc)] pm c' ct) :: (c', oc) :: (cc, o2) :: (x, instObj 743 ld) :: (ld, lexD hs ts sio pb fs (.ref f) tc state line tl token tt) :: (sio, instObj 608 sd) :: (sd, sioD hs2 ts2 (T r) ((pos + 1 : Nat) : Int) t1 t2 t') :: news))
    (fun es n' => ∃ t t', r.drop pos = [] ∧ es = [.str (Str.ofString "not enough data in stream to read uint1") t] ∧ n' = ((f, kla_obj "<lambda>" qual P b sc [("lexer", cc)] pm c' ct) :: (c', oc) :: (cc, o2) :: (x, instObj 743 ld) :: (ld, lexD hs ts sio pb fs (.ref f) tc state line tl token tt) :: (sio, instObj 608 sd) :: (sd, sioD hs2 ts2 (T r) (pos : Int) t1 t2 t') :: news)) := by
  dsimp only [Con]; intros; rename_i hpre _ _ hret hraise
  refine wpAny_call ?_
  k_dflt (walk_at "my enter")
  obtain ⟨hpos, hlen⟩ := hpre
  obtain ⟨hl1, hl2, hl3, hl4, hl5, hl6⟩ := hlt
  k_steps
  all_goals (try dsimp only)
  k_steps
  · refine' hraise _ _ _ _ _ _ _ ⟨_, _, by assumption, rfl, rfl⟩ (by assumption) (by assumption) (by assumption) (by assumption)
  · exact hret _ _ _ _ ⟨_, _, _, _, by assumption, rfl, rfl⟩ (by assumption) (News.sub (by assumption) (by kcf_all))
theorem ry_256' {r : List Nat} {pos c : Nat} (h256 : ∀ c ∈ r, c < 256) : ∀ x ∈ (r.drop pos).take c, x < 256 := fun x hx => h256 x (List.mem_of_mem_drop (List.mem_of_mem_take hx))
theorem suf_len {r : List Nat} {pos c : Nat} {s' : List Nat} (h : r.drop pos = c :: s') : pos + 1 ≤ r.length := by
  have := congrArg List.length h
  simp at this
  omega
theorem suf_256 {r : List Nat} {pos c : Nat} {s' : List Nat} (h256 : ∀ c ∈ r, c < 256) (h : r.drop pos = c :: s') : c < 256 :=
  h256 c (List.mem_of_mem_drop (i := pos) (by rw [h]; exact .head _))
end Mine

end
section
open Mine
theorem Mine.pre_Ry : PySem.Challenge.rw_in0151_01 = PySem.Challenge.rw_in0151_01 ∧ Mine.KK = Mine.KK := by
  k_with "call builtin:len" => ((with_reducible show wpAny _ _ (call (Value.builtin "len") [Value.str (Str.mk (List.toArray _)) _]) _ _ _); (refine Mine.len_T (by first | omega | (simp only [List.length_take, List.length_drop]; omega)) ?_); intro t'z kz; (try simp only [List.length_take, List.length_drop]))
  k_with "call builtin:len" => ((with_reducible show wpAny _ _ (call (Value.builtin "len") [Value.bytes (Mine.Byt _) _]) _ _ _); (refine Mine.len_B (by first | omega | (simp only [List.length_take, List.length_drop]; omega)) ?_); intro t'z kz; (try simp only [List.length_take, List.length_drop]))
  k_with "eval ListComp" => (k_here; k_dflt (refine Mine.comp_str (by k_asm) (by with_unfolding_all rfl) (by decide) (by rfl) (by decide) (by rfl) ?_))
  k_with "StrSrc" => (k_dflt (refine ⟨_, _, _, rfl, by rfl, by k_asm, by k_asm, ?hz_z, ?_⟩; (case hz_z => first | omega | (simp only [List.length_take, List.length_drop]; omega)); (rintro _ ⟨g'z, e'z⟩; subst e'z); (refine' Mine.ord_rest (fun c' t' I' oI' C' oC' D' m' ys' h' tk' E' hk' hC' hx' F' N' off' ne' hMark' => ?_) (fun ys' hI' => ?_)); (all_goals (try (simp only [LCg.Off3, and_true] at off'))); (all_goals (try unfold LCg.FinE))))
  k_with "call type:bytes" => ((with_reducible show wpAny _ _ (call (Value.type "bytes") [Value.ref _]) _ _ _); k_dflt (refine' Mine.bytes_at ?kF_z ?kN_z ?km_z ?ki_z ?hr_z ?hz_z ?hh_z ?_; (case kF_z => k_asm); (case kN_z => k_asm); (case km_z => k_mem); (case ki_z => assumption); (case hr_z => exact Mine.take_256 (by assumption)); (case hz_z => first | omega | (simp only [List.length_take, List.length_drop]; omega)); (case hh_z => rfl)); intro h'z t'z k'z F'z N'z)
  k_with "binaryOp Mod str ref" => (k_dflt (refine' Mine.mod_law ?kN_z ?kb_z ?kk_z ?kc_z ?kn_z ?_; (case kN_z => k_asm); (case kb_z => k_mem); (case kk_z => decide +kernel); (case kc_z => omega); (case kn_z => omega)); intro t'z k'z)
  k_with "call ref" => (k_here; (with_reducible show wpAny _ _ (call (Value.ref _) [Value.int _ _] _) _ _ _); k_dflt (refine' Mine.lam_at ?kl_z ?k1_z ?k2_z ?k3_z ?k4_z ?k5_z ?kK_z ?m1_z ?m2_z ?m3_z ?m4_z ?m5_z ?m6_z ?kU_z ?ko_z ?kv_z ?k0_z ?kh_z ?kn_z ?kp_z ?kd_z ?ku_z ?_; (case k1_z => k_asm); (case k2_z => k_asm); (case k3_z => k_asm); (case k4_z => k_asm); (case k5_z => k_asm); (case kl_z => assumption); (case m1_z => k_mem); (case kK_z => first | exact rfl | assumption); (case m2_z => k_mem); (case m3_z => k_mem); (case ko_z => assumption); (case kv_z => assumption); (case k0_z => assumption); (case m4_z => k_mem); (case m5_z => k_mem); (case m6_z => k_mem); (case kU_z => k_updF); (case kh_z => assumption); (case kn_z => refine ⟨?_, ?_, ?_, ?_, ?_, ?_⟩ <;> omega); (case kp_z => refine ⟨?_, ?_, ?_⟩ <;> omega); (case kd_z => ktr_room); (case ku_z => ktr_units); (intro h'z tk'z tz t'z F'z N'z; (try dsimp only at N'z); (try k_sweep))))
  k_with "call ref" => (k_here; (with_reducible show wpAny _ _ (call (Value.ref _) [Value.int (1 : Int) _] _) _ _ _); k_dflt (refine' Mine.lam1_at ?kl_z ?k1_z ?k2_z ?k3_z ?k4_z ?k5_z ?kK_z ?m1_z ?m2_z ?m3_z ?m4_z ?m5_z ?m6_z ?kU_z ?ko_z ?kv_z ?k0_z ?kh_z ?kn_z ?kp_z ?kd_z ?ku_z ?_ ?_; (case k1_z => k_asm); (case k2_z => k_asm); (case k3_z => k_asm); (case k4_z => k_asm); (case k5_z => k_asm); (case kl_z => assumption); (case m1_z => k_mem); (case kK_z => first | exact rfl | assumption); (case m2_z => k_mem); (case m3_z => k_mem); (case ko_z => assumption); (case kv_z => assumption); (case k0_z => assumption); (case m4_z => k_mem); (case m5_z => k_mem); (case m6_z => k_mem); (case kU_z => k_updF); (case kh_z => assumption); (case kn_z => refine ⟨?_, ?_, ?_, ?_, ?_, ?_⟩ <;> omega); (case kp_z => refine ⟨?_, ?_⟩ <;> omega); (case kd_z => ktr_room); (case ku_z => ktr_units); (all_goals (first | (intro c'z s'z hsufz; obtain ⟨hsufz, hslz, hc6z⟩ : _ ∧ _ ∧ _ := hsufz; intro h'z tk'z tz t'z F'z N'z) | intro hsufz h'z tk'z tz t'z F'z N'z)); (all_goals (try dsimp only at N'z)); (all_goals (try k_sweep))))
  k_with "callWith ref" => (k_here; k_dflt (first | (refine' callWith_F ?k1_z ?_; (case k1_z => exact FnAt.of (by k_asm) (by k_mem)); k_whole) | (refine' callWith_F0 ?k1_z ?_; (case k1_z => exact FnAt.of (by k_asm) (by k_mem)); k_whole; try dsimp only [List.nil_append, List.cons_append])))
  k_with "FnAt" => (k_dflt (exact FnAt.of (by k_asm) (by k_mem)))
  k_with "truthy bytes" => (k_dflt (refine Mine.truthy_B (by first | decide | omega | (simp; done) | (simp only [List.length_take, List.length_drop]; omega)) ?_); intro k'z; (try simp only [List.isEmpty_cons, List.isEmpty_nil, Bool.not_false, Bool.not_true]))
  k_with "subscriptTail Name Constant bytes int" => (k_dflt (refine Mine.item_B (by assumption) (by decide) ?_ (by with_unfolding_all rfl) (by intro _; with_unfolding_all rfl)); intro t'z k'z)
  k_with "call ref" => (k_here; (with_reducible show wpAny _ _ (call (Value.ref 46) [Value.ref _]) _ _ _); k_dflt (refine' Mine.Con.use (Mine.u1_spec _ ?sl_z _ _ _ _ _ _ _ _ _ _ _ _ _ _ _ _ _ _ _ _ _ _ _ _ _ _ _ _ _ _ _ ?so_z ?sv_z ?s2_z ?sn_z ?sh_z ?st_z) ?k1_z ?k2_z ?k3_z ?k4_z ?k5_z ?kK_z ?kp_z ?kd_z ?ku_z ?_ ?_; (case k1_z => k_asm); (case k2_z => k_asm); (case k3_z => k_asm); (case k4_z => k_asm); (case k5_z => k_asm); (case kK_z => first | exact rfl | assumption); (case sl_z => assumption); (case so_z => assumption); (case sv_z => assumption); (case s2_z => assumption); (case sn_z => assumption); (case sh_z => assumption); (case st_z => refine ⟨?_, ?_, ?_, ?_, ?_, ?_⟩ <;> omega); (case kp_z => constructor <;> omega); (case kd_z => ktr_room); (case ku_z => ktr_units)); k_dflt (all_goals first
    | (rintro vz h'z tk'z n'z ⟨c'z, s'z, t'z, t2'z, hsufz, e1z, e2z⟩ F'z N'z; (subst e1z); (subst e2z); (have hslz := Mine.suf_len hsufz); (have hc6z := Mine.suf_256 (by assumption) hsufz); (try k_sweep))
    | (rintro ez tz g'z h'z tk'z esz n'z ⟨t'z, t2'z, hsufz, e1z, e2z⟩ F'z R1z R2z U1z; (subst e1z); (subst e2z))))
  k_with "leaving ref" => (k_dflt (refine' leave_onS ?k1_z ?k2_z ?k3_z ?k4_z ?_; (case k1_z => assumption); (case k3_z => assumption); (case k2_z => assumption); (case k4_z => assumption)); intro h'z R1z R2z U1z)
  k_with "binaryOp Mod str ref" => ((with_reducible show wpAny _ _ (binaryOp Operator.Mod (Value.str (Str.ofString "expected %d bytes in a bytes1, but only %d remain") _) _) _ _ _); k_dflt (refine' Mine.mod_byt1 ?kN_z ?kb_z ?kc_z ?kn_z ?_; (case kN_z => k_asm); (case kb_z => k_mem); (case kc_z => omega); (case kn_z => first | omega | (simp only [List.length_take, List.length_drop]; omega))); intro t'z k'z)
  k_with "binaryOp Mod str ref" => ((with_reducible show wpAny _ _ (binaryOp Operator.Mod (Value.str (Str.ofString "expected %d bytes in a string1, but only %d remain") _) _) _ _ _); k_dflt (refine' Mine.mod_str1 ?kN_z ?kb_z ?kc_z ?kn_z ?_; (case kN_z => k_asm); (case kb_z => k_mem); (case kc_z => omega); (case kn_z => first | omega | (simp only [List.length_take, List.length_drop]; omega))); intro t'z k'z)
  k_with "call builtin:bytes.decode" => (k_dflt (refine Mine.decode_at (Mine.ry_256' (by assumption)) (by first | omega | (simp only [List.length_take, List.length_drop]; omega)) ?_); intro t'z k'z)
  exact ⟨rfl, rfl⟩

namespace Mine
theorem ry_tl {r : List Nat} {pos c : Nat} {s' : List Nat} (h : r.drop pos = c :: s') : s' = r.drop (pos + 1) := by
  have e := List.drop_drop (i := 1) (j := pos) (l := r)
  rw [h] at e
  simpa using e
theorem ry_len {r : List Nat} {pos c : Nat} {s' : List Nat} (h : r.drop pos = c :: s') : s'.length = r.length - (pos + 1) := by rw [ry_tl h, List.length_drop]
theorem ry_ok {r : List Nat} {pos c : Nat} {s' : List Nat} (h : r.drop pos = c :: s') (e : ((min c (r.length - (pos + 1)) : Nat) : Int) = (c : Int)) :
    itemF .byt (r.drop pos) = (.bytes ((r.drop (pos + 1)).take c), r.drop (pos + 1 + ((r.drop (pos + 1)).take c).length)) ∧ pos + 1 + ((r.drop (pos + 1)).take c).length ≤ r.length := by
  have hl := ry_len h
  have h1 := suf_len h
  have e2 : min c (r.length - (pos + 1)) = c := by omega
  have e3 : ((r.drop (pos + 1)).take c).length = c := by rw [List.length_take, List.length_drop]; exact e2
  rw [e3, h]
  dsimp only [itemF]
  rw [if_neg (by omega), ry_tl h, List.drop_drop]
  exact ⟨rfl, by omega⟩
theorem ry_no {r : List Nat} {pos c : Nat} {s' : List Nat} (h : r.drop pos = c :: s') (e : ((min c (r.length - (pos + 1)) : Nat) : Int) ≠ (c : Int)) :
    itemF .byt (r.drop pos) = (.refused (exT (Str.ofString "bytes") c (min c (r.length - (pos + 1)))), r.drop (pos + 1 + ((r.drop (pos + 1)).take c).length)) ∧ pos + 1 + ((r.drop (pos + 1)).take c).length ≤ r.length := by
  have hl := ry_len h
  have h1 := suf_len h
  have e2 : min c (r.length - (pos + 1)) = r.length - (pos + 1) := by omega
  have e3 : ((r.drop (pos + 1)).take c).length = r.length - (pos + 1) := by rw [List.length_take, List.length_drop]; exact e2
  rw [e3, h]
  dsimp only [itemF]
  rw [if_pos (by omega), hl, e2, List.drop_of_length_le (by omega)]
  exact ⟨rfl, by omega⟩
theorem ry_okS {r : List Nat} {pos c : Nat} {s' : List Nat} (h : r.drop pos = c :: s') (e : ((min c (r.length - (pos + 1)) : Nat) : Int) = (c : Int)) :
    itemF .str (r.drop pos) = (.str (T ((r.drop (pos + 1)).take c)), r.drop (pos + 1 + ((r.drop (pos + 1)).take c).length)) ∧ pos + 1 + ((r.drop (pos + 1)).take c).length ≤ r.length := by
  have hl := ry_len h
  have h1 := suf_len h
  have e2 : min c (r.length - (pos + 1)) = c := by omega
  have e3 : ((r.drop (pos + 1)).take c).length = c := by rw [List.length_take, List.length_drop]; exact e2
  rw [e3, h]
  dsimp only [itemF]
  rw [if_neg (by omega), ry_tl h, List.drop_drop]
  exact ⟨rfl, by omega⟩
theorem ry_noS {r : List Nat} {pos c : Nat} {s' : List Nat} (h : r.drop pos = c :: s') (e : ((min c (r.length - (pos + 1)) : Nat) : Int) ≠ (c : Int)) :
    itemF .str (r.drop pos) = (.refused (exT (Str.ofString "string") c (min c (r.length - (pos + 1)))), r.drop (pos + 1 + ((r.drop (pos + 1)).take c).length)) ∧ pos + 1 + ((r.drop (pos + 1)).take c).length ≤ r.length := by
  have hl := ry_len h
  have h1 := suf_len h
  have e2 : min c (r.length - (pos + 1)) = r.length - (pos + 1) := by omega
  have e3 : ((r.drop (pos + 1)).take c).length = r.length - (pos + 1) := by rw [List.length_take, List.length_drop]; exact e2
  rw [e3, h]
  dsimp only [itemF]
  rw [if_pos (by omega), hl, e2, List.drop_of_length_le (by omega)]
  exact ⟨rfl, by omega⟩
theorem ry_nil {r : List Nat} {pos : Nat} {k : Deed} (hk : k ≠ .word) (h : r.drop pos = []) : itemF k (r.drop pos) = (.refused noData, r.drop pos) := by
  rw [h]
  cases k <;> first | rfl | exact absurd rfl hk
theorem ry_256 {r : List Nat} {pos c : Nat} (h256 : ∀ c ∈ r, c < 256) : ∀ x ∈ (r.drop pos).take c, x < 256 := fun x hx => h256 x (List.mem_of_mem_drop (List.mem_of_mem_take hx))
theorem raisedS_sub {base G : Heap} {l : List Env} {e t : Addr} {cls : Value} {vs : List Value} {news n' : List (Addr × Obj)} {h : Heap} (R : RaisedS base G l e cls t vs news h) (hs : ∀ p ∈ n', p ∈ news) : RaisedS base G l e cls t vs n' h := by
  obtain ⟨⟨B, h1, h2, h3, h4⟩, h5⟩ := R
  exact ⟨⟨B, h1, h2, fun q hq => h3 q (hs q hq), h4⟩, h5⟩
theorem raisedK_sub {base : Heap} {l : List Env} {e t : Addr} {cls : Value} {vs : List Value} {news n' : List (Addr × Obj)} {h : Heap} (R : RaisedK base l e cls t vs news h) (hs : ∀ p ∈ n', p ∈ news) : RaisedK base l e cls t vs n' h := by
  obtain ⟨⟨B, h1, h3, h4⟩, h5⟩ := R
  exact ⟨⟨B, h1, fun q hq => h3 q (hs q hq), h4⟩, h5⟩
theorem by_spec {w : World} (news : List (Addr × Obj)) {P : Arguments} {b : Expr} {sc : Scope} (hl : lamOf (Mine.KK w.params) 759 = some (P, b, sc)) (f c' cc x ld sio sd pb fs : Addr) (qual : Str) (pm ct state : Value) (oc o2 : Obj) (vs : Array Value) (tq : Tok)
  (hs hs2 : Nat → Int) (ts ts2 tc : Nat → Tok) (r : List Nat) (pos : Nat) (line : Int) (token : Str) (t1 t2 t3 tl tt : Tok)
  (hoc : oc.data = .fields vs) (hvs : vs[1]? = some (.str qual tq)) (ho2 : o2.data = .cell (some (.ref x))) (hne : ∀ q ∈ news, q.1 ≠ sd)
  (h256 : ∀ c ∈ r, c < 256)
  (hlt : @LT.lt Nat _ cc ld ∧ @LT.lt Nat _ ld x ∧ @LT.lt Nat _ x sd ∧ @LT.lt Nat _ sd sio ∧ @LT.lt Nat _ sio c' ∧ @LT.lt Nat _ c' f) :
  Con 6 w 60 ((f, kla_obj "<lambda>" qual P b sc [("lexer", cc)] pm c' ct) :: (c', oc) :: (cc, o2) :: (x, instObj 743 ld) :: (ld, lexD hs ts sio pb fs (.ref f) tc state line tl token tt) :: (sio, instObj 608 sd) :: (sd, sioD hs2 ts2 (T r) pos t1 t2 t3) :: news)
    (pos ≤ r.length ∧ r.length < 9000) [.ref x]
    (fun v n' => ∃ td pos' t', itemF .byt (r.drop pos) = (td, r.drop pos') ∧ pos' ≤ r.length ∧ ToldIn [] v td ∧ n' = ((f, kla_obj "<lambda>" qual P b sc [("lexer", cc)] pm c' ct) :: (c', oc) :: (cc, o2) :: (x, instObj 743 ld) :: (ld, lexD hs ts sio pb fs (.ref f) tc state line tl token tt) :: (sio, instObj 608 sd) :: (sd, sioD hs2 ts2 (T r) (pos' : Nat) t1 t2 t') :: news))
    (fun es n' => ∃ msg pos' t t', itemF .byt (r.drop pos) = (.refused msg, r.drop pos') ∧ pos' ≤ r.length ∧ es = [.str msg t] ∧ n' = ((f, kla_obj "<lambda>" qual P b sc [("lexer", cc)] pm c' ct) :: (c', oc) :: (cc, o2) :: (x, instObj 743 ld) :: (ld, lexD hs ts sio pb fs (.ref f) tc state line tl token tt) :: (sio, instObj 608 sd) :: (sd, sioD hs2 ts2 (T r) (pos' : Nat) t1 t2 t') :: news)) := by
  dsimp only [Con]; intros; rename_i hpre _ _ hret hraise
  refine wpAny_call ?_
  k_dflt (walk_at "my enter")
  obtain ⟨hpos, hlen⟩ := hpre
  obtain ⟨hl1, hl2, hl3, hl4, hl5, hl6⟩ := hlt
  k_steps
  · have e8 := ry_ok (by assumption) (by assumption)
    exact hret _ _ _ _ ⟨_, _, _, e8.1, e8.2, .bytes _ _ (ry_256 h256), rfl⟩ (by assumption) (News.sub (by assumption) (by kcf_all))
  · have e8 := ry_no (by assumption) (by assumption)
    refine' hraise _ _ _ _ _ _ _ ⟨_, _, _, _, e8.1, e8.2, rfl, rfl⟩ (by assumption) (raisedS_sub (by assumption) (by kcf_all)) (raisedK_sub (by assumption) (by kcf_all)) (by assumption)
  · refine' hraise _ _ _ _ _ _ _ ⟨_, _, _, _, ry_nil (fun h => nomatch h) (by assumption), by assumption, rfl, rfl⟩ (by assumption) (by assumption) (by assumption) (by assumption)
end Mine

end
section
open Mine
theorem Mine.pre_Rs : PySem.Challenge.rw_in0151_01 = PySem.Challenge.rw_in0151_01 ∧ Mine.KK = Mine.KK := by
  k_with "call builtin:len" => ((with_reducible show wpAny _ _ (call (Value.builtin "len") [Value.str (Str.mk (List.toArray _)) _]) _ _ _); (refine Mine.len_T (by first | omega | (simp only [List.length_take, List.length_drop]; omega)) ?_); intro t'z kz; (try simp only [List.length_take, List.length_drop]))
  k_with "call builtin:len" => ((with_reducible show wpAny _ _ (call (Value.builtin "len") [Value.bytes (Mine.Byt _) _]) _ _ _); (refine Mine.len_B (by first | omega | (simp only [List.length_take, List.length_drop]; omega)) ?_); intro t'z kz; (try simp only [List.length_take, List.length_drop]))
  k_with "eval ListComp" => (k_here; k_dflt (refine Mine.comp_str (by k_asm) (by with_unfolding_all rfl) (by decide) (by rfl) (by decide) (by rfl) ?_))
  k_with "StrSrc" => (k_dflt (refine ⟨_, _, _, rfl, by rfl, by k_asm, by k_asm, ?hz_z, ?_⟩; (case hz_z => first | omega | (simp only [List.length_take, List.length_drop]; omega)); (rintro _ ⟨g'z, e'z⟩; subst e'z); (refine' Mine.ord_rest (fun c' t' I' oI' C' oC' D' m' ys' h' tk' E' hk' hC' hx' F' N' off' ne' hMark' => ?_) (fun ys' hI' => ?_)); (all_goals (try (simp only [LCg.Off3, and_true] at off'))); (all_goals (try unfold LCg.FinE))))
  k_with "call type:bytes" => ((with_reducible show wpAny _ _ (call (Value.type "bytes") [Value.ref _]) _ _ _); k_dflt (refine' Mine.bytes_at ?kF_z ?kN_z ?km_z ?ki_z ?hr_z ?hz_z ?hh_z ?_; (case kF_z => k_asm); (case kN_z => k_asm); (case km_z => k_mem); (case ki_z => assumption); (case hr_z => exact Mine.take_256 (by assumption)); (case hz_z => first | omega | (simp only [List.length_take, List.length_drop]; omega)); (case hh_z => rfl)); intro h'z t'z k'z F'z N'z)
  k_with "binaryOp Mod str ref" => (k_dflt (refine' Mine.mod_law ?kN_z ?kb_z ?kk_z ?kc_z ?kn_z ?_; (case kN_z => k_asm); (case kb_z => k_mem); (case kk_z => decide +kernel); (case kc_z => omega); (case kn_z => omega)); intro t'z k'z)
  k_with "call ref" => (k_here; (with_reducible show wpAny _ _ (call (Value.ref _) [Value.int _ _] _) _ _ _); k_dflt (refine' Mine.lam_at ?kl_z ?k1_z ?k2_z ?k3_z ?k4_z ?k5_z ?kK_z ?m1_z ?m2_z ?m3_z ?m4_z ?m5_z ?m6_z ?kU_z ?ko_z ?kv_z ?k0_z ?kh_z ?kn_z ?kp_z ?kd_z ?ku_z ?_; (case k1_z => k_asm); (case k2_z => k_asm); (case k3_z => k_asm); (case k4_z => k_asm); (case k5_z => k_asm); (case kl_z => assumption); (case m1_z => k_mem); (case kK_z => first | exact rfl | assumption); (case m2_z => k_mem); (case m3_z => k_mem); (case ko_z => assumption); (case kv_z => assumption); (case k0_z => assumption); (case m4_z => k_mem); (case m5_z => k_mem); (case m6_z => k_mem); (case kU_z => k_updF); (case kh_z => assumption); (case kn_z => refine ⟨?_, ?_, ?_, ?_, ?_, ?_⟩ <;> omega); (case kp_z => refine ⟨?_, ?_, ?_⟩ <;> omega); (case kd_z => ktr_room); (case ku_z => ktr_units); (intro h'z tk'z tz t'z F'z N'z; (try dsimp only at N'z); (try k_sweep))))
  k_with "call ref" => (k_here; (with_reducible show wpAny _ _ (call (Value.ref _) [Value.int (1 : Int) _] _) _ _ _); k_dflt (refine' Mine.lam1_at ?kl_z ?k1_z ?k2_z ?k3_z ?k4_z ?k5_z ?kK_z ?m1_z ?m2_z ?m3_z ?m4_z ?m5_z ?m6_z ?kU_z ?ko_z ?kv_z ?k0_z ?kh_z ?kn_z ?kp_z ?kd_z ?ku_z ?_ ?_; (case k1_z => k_asm); (case k2_z => k_asm); (case k3_z => k_asm); (case k4_z => k_asm); (case k5_z => k_asm); (case kl_z => assumption); (case m1_z => k_mem); (case kK_z => first | exact rfl | assumption); (case m2_z => k_mem); (case m3_z => k_mem); (case ko_z => assumption); (case kv_z => assumption); (case k0_z => assumption); (case m4_z => k_mem); (case m5_z => k_mem); (case m6_z => k_mem); (case kU_z => k_updF); (case kh_z => assumption); (case kn_z => refine ⟨?_, ?_, ?_, ?_, ?_, ?_⟩ <;> omega); (case kp_z => refine ⟨?_, ?_⟩ <;> omega); (case kd_z => ktr_room); (case ku_z => ktr_units); (all_goals (first | (intro c'z s'z hsufz; obtain ⟨hsufz, hslz, hc6z⟩ : _ ∧ _ ∧ _ := hsufz; intro h'z tk'z tz t'z F'z N'z) | intro hsufz h'z tk'z tz t'z F'z N'z)); (all_goals (try dsimp only at N'z)); (all_goals (try k_sweep))))
  k_with "callWith ref" => (k_here; k_dflt (first | (refine' callWith_F ?k1_z ?_; (case k1_z => exact FnAt.of (by k_asm) (by k_mem)); k_whole) | (refine' callWith_F0 ?k1_z ?_; (case k1_z => exact FnAt.of (by k_asm) (by k_mem)); k_whole; try dsimp only [List.nil_append, List.cons_append])))
  k_with "FnAt" => (k_dflt (exact FnAt.of (by k_asm) (by k_mem)))
  k_with "truthy bytes" => (k_dflt (refine Mine.truthy_B (by first | decide | omega | (simp; done) | (simp only [List.length_take, List.length_drop]; omega)) ?_); intro k'z; (try simp only [List.isEmpty_cons, List.isEmpty_nil, Bool.not_false, Bool.not_true]))
  k_with "subscriptTail Name Constant bytes int" => (k_dflt (refine Mine.item_B (by assumption) (by decide) ?_ (by with_unfolding_all rfl) (by intro _; with_unfolding_all rfl)); intro t'z k'z)
  k_with "call ref" => (k_here; (with_reducible show wpAny _ _ (call (Value.ref 46) [Value.ref _]) _ _ _); k_dflt (refine' Mine.Con.use (Mine.u1_spec _ ?sl_z _ _ _ _ _ _ _ _ _ _ _ _ _ _ _ _ _ _ _ _ _ _ _ _ _ _ _ _ _ _ _ ?so_z ?sv_z ?s2_z ?sn_z ?sh_z ?st_z) ?k1_z ?k2_z ?k3_z ?k4_z ?k5_z ?kK_z ?kp_z ?kd_z ?ku_z ?_ ?_; (case k1_z => k_asm); (case k2_z => k_asm); (case k3_z => k_asm); (case k4_z => k_asm); (case k5_z => k_asm); (case kK_z => first | exact rfl | assumption); (case sl_z => assumption); (case so_z => assumption); (case sv_z => assumption); (case s2_z => assumption); (case sn_z => assumption); (case sh_z => assumption); (case st_z => refine ⟨?_, ?_, ?_, ?_, ?_, ?_⟩ <;> omega); (case kp_z => constructor <;> omega); (case kd_z => ktr_room); (case ku_z => ktr_units)); k_dflt (all_goals first
    | (rintro vz h'z tk'z n'z ⟨c'z, s'z, t'z, t2'z, hsufz, e1z, e2z⟩ F'z N'z; (subst e1z); (subst e2z); (have hslz := Mine.suf_len hsufz); (have hc6z := Mine.suf_256 (by assumption) hsufz); (try k_sweep))
    | (rintro ez tz g'z h'z tk'z esz n'z ⟨t'z, t2'z, hsufz, e1z, e2z⟩ F'z R1z R2z U1z; (subst e1z); (subst e2z))))
  k_with "leaving ref" => (k_dflt (refine' leave_onS ?k1_z ?k2_z ?k3_z ?k4_z ?_; (case k1_z => assumption); (case k3_z => assumption); (case k2_z => assumption); (case k4_z => assumption)); intro h'z R1z R2z U1z)
  k_with "binaryOp Mod str ref" => ((with_reducible show wpAny _ _ (binaryOp Operator.Mod (Value.str (Str.ofString "expected %d bytes in a bytes1, but only %d remain") _) _) _ _ _); k_dflt (refine' Mine.mod_byt1 ?kN_z ?kb_z ?kc_z ?kn_z ?_; (case kN_z => k_asm); (case kb_z => k_mem); (case kc_z => omega); (case kn_z => first | omega | (simp only [List.length_take, List.length_drop]; omega))); intro t'z k'z)
  k_with "binaryOp Mod str ref" => ((with_reducible show wpAny _ _ (binaryOp Operator.Mod (Value.str (Str.ofString "expected %d bytes in a string1, but only %d remain") _) _) _ _ _); k_dflt (refine' Mine.mod_str1 ?kN_z ?kb_z ?kc_z ?kn_z ?_; (case kN_z => k_asm); (case kb_z => k_mem); (case kc_z => omega); (case kn_z => first | omega | (simp only [List.length_take, List.length_drop]; omega))); intro t'z k'z)
  k_with "call builtin:bytes.decode" => (k_dflt (refine Mine.decode_at (Mine.ry_256' (by assumption)) (by first | omega | (simp only [List.length_take, List.length_drop]; omega)) ?_); intro t'z k'z)
  exact ⟨rfl, rfl⟩

namespace Mine
theorem st_spec {w : World} (news : List (Addr × Obj)) {P : Arguments} {b : Expr} {sc : Scope} (hl : lamOf (Mine.KK w.params) 759 = some (P, b, sc)) (f c' cc x ld sio sd pb fs : Addr) (qual : Str) (pm ct state : Value) (oc o2 : Obj) (vs : Array Value) (tq : Tok)
  (hs hs2 : Nat → Int) (ts ts2 tc : Nat → Tok) (r : List Nat) (pos : Nat) (line : Int) (token : Str) (t1 t2 t3 tl tt : Tok)
  (hoc : oc.data = .fields vs) (hvs : vs[1]? = some (.str qual tq)) (ho2 : o2.data = .cell (some (.ref x))) (hne : ∀ q ∈ news, q.1 ≠ sd)
  (h256 : ∀ c ∈ r, c < 256)
  (hlt : @LT.lt Nat _ cc ld ∧ @LT.lt Nat _ ld x ∧ @LT.lt Nat _ x sd ∧ @LT.lt Nat _ sd sio ∧ @LT.lt Nat _ sio c' ∧ @LT.lt Nat _ c' f) :
  Con 6 w 53 ((f, kla_obj "<lambda>" qual P b sc [("lexer", cc)] pm c' ct) :: (c', oc) :: (cc, o2) :: (x, instObj 743 ld) :: (ld, lexD hs ts sio pb fs (.ref f) tc state line tl token tt) :: (sio, instObj 608 sd) :: (sd, sioD hs2 ts2 (T r) pos t1 t2 t3) :: news)
    (pos ≤ r.length ∧ r.length < 9000) [.ref x]
    (fun v n' => ∃ td pos' t', itemF .str (r.drop pos) = (td, r.drop pos') ∧ pos' ≤ r.length ∧ ToldIn [] v td ∧ n' = ((f, kla_obj "<lambda>" qual P b sc [("lexer", cc)] pm c' ct) :: (c', oc) :: (cc, o2) :: (x, instObj 743 ld) :: (ld, lexD hs ts sio pb fs (.ref f) tc state line tl token tt) :: (sio, instObj 608 sd) :: (sd, sioD hs2 ts2 (T r) (pos' : Nat) t1 t2 t') :: news))
    (fun es n' => ∃ msg pos' t t', itemF .str (r.drop pos) = (.refused msg, r.drop pos') ∧ pos' ≤ r.length ∧ es = [.str msg t] ∧ n' = ((f, kla_obj "<lambda>" qual P b sc [("lexer", cc)] pm c' ct) :: (c', oc) :: (cc, o2) :: (x, instObj 743 ld) :: (ld, lexD hs ts sio pb fs (.ref f) tc state line tl token tt) :: (sio, instObj 608 sd) :: (sd, sioD hs2 ts2 (T r) (pos' : Nat) t1 t2 t') :: news)) := by
  dsimp only [Con]; intros; rename_i hpre _ _ hret hraise
  refine wpAny_call ?_
  k_dflt (walk_at "my enter")
  obtain ⟨hpos, hlen⟩ := hpre
  obtain ⟨hl1, hl2, hl3, hl4, hl5, hl6⟩ := hlt
  k_steps
  · have e8 := ry_okS (by assumption) (by assumption)
    exact hret _ _ _ _ ⟨_, _, _, e8.1, e8.2, .str _ _, rfl⟩ (by assumption) (News.sub (by assumption) (by kcf_all))
  · have e8 := ry_noS (by assumption) (by assumption)
    refine' hraise _ _ _ _ _ _ _ ⟨_, _, _, _, e8.1, e8.2, rfl, rfl⟩ (by assumption) (raisedS_sub (by assumption) (by kcf_all)) (raisedK_sub (by assumption) (by kcf_all)) (by assumption)
  · refine' hraise _ _ _ _ _ _ _ ⟨_, _, _, _, ry_nil (fun h => nomatch h) (by assumption), by assumption, rfl, rfl⟩ (by assumption) (by assumption) (by assumption) (by assumption)
end Mine

end
section
open Mine
namespace Mine
structure LP where
  x : Addr
  ld : Addr
  sio : Addr
  sd : Addr
  pb : Addr
  fs : Addr
  rd : Value
  hs : Nat → Int
  ts : Nat → Tok
  hs2 : Nat → Int
  ts2 : Nat → Tok
  tc : Nat → Tok
  r : List Nat
  t1 : Tok
  t2 : Tok
structure LV where
  st : Value
  line : Int
  tl : Tok
  tok : Str
  tt : Tok
noncomputable def lexes (P : LP) (c : LV) : List DictEntry := match (lexD P.hs P.ts P.sio P.pb P.fs P.rd P.tc c.st c.line c.tl c.tok c.tt).data with
  | .dict es _ => es.toList
  | _ => []
noncomputable def siosE (P : LP) (pos : Int) (t3 : Tok) : List DictEntry := match (sioD P.hs2 P.ts2 (T P.r) pos P.t1 P.t2 t3).data with
  | .dict es _ => es.toList
  | _ => []
noncomputable def lexP (P : LP) (c : LV) : Obj := dictOf (lexes P c) 20
noncomputable def sioP (P : LP) (pos : Int) (t3 : Tok) : Obj := dictOf (siosE P pos t3) 3
noncomputable def rtN (P : LP) (c : LV) (pos : Int) (t3 : Tok) (dn : Int) (l : List Value) (news : Led) : Led :=
  (P.x, instObj 743 P.ld) :: (P.ld, lexP P c) :: (P.sio, instObj 608 P.sd) :: (P.sd, sioP P pos t3) :: (P.pb, dqO dn l) :: news
structure RtD (P : LP) (news : Led) : Prop where
  n1 : @LT.lt Nat _ P.ld P.x
  n2 : @LT.lt Nat _ P.x P.sd
  n3 : @LT.lt Nat _ P.sd P.sio
  n4 : @LT.lt Nat _ P.sio P.pb
  e1 : ∀ q ∈ news, q.1 ≠ P.sd
  e2 : ∀ q ∈ news, q.1 ≠ P.ld
  e3 : ∀ q ∈ news, q.1 ≠ P.pb
section
variable {P : LP} {c : LV}
theorem la_instream : getL (Str.ofString "instream") (lexes P c) = some (some (.ref P.sio)) := by kernel_rfl
theorem lo_instream : ∀ Q, ownOk (Mine.KK Q) 743 (Str.ofString "instream") = true := by intro Q; kernel_rfl
theorem la_posix : getL (Str.ofString "posix") (lexes P c) = some (some (.bool true)) := by kernel_rfl
theorem lo_posix : ∀ Q, ownOk (Mine.KK Q) 743 (Str.ofString "posix") = true := by intro Q; kernel_rfl
theorem la_commenters : getL (Str.ofString "commenters") (lexes P c) = some (some (.str (Str.ofString "#") (P.tc 4))) := by kernel_rfl
theorem lo_commenters : ∀ Q, ownOk (Mine.KK Q) 743 (Str.ofString "commenters") = true := by intro Q; kernel_rfl
theorem la_wordchars : getL (Str.ofString "wordchars") (lexes P c) = some (some (.str wcs (P.tc 5))) := by kernel_rfl
theorem lo_wordchars : ∀ Q, ownOk (Mine.KK Q) 743 (Str.ofString "wordchars") = true := by intro Q; kernel_rfl
theorem la_whitespace : getL (Str.ofString "whitespace") (lexes P c) = some (some (.str (Str.ofString " \t\r\n") (P.tc 6))) := by kernel_rfl
theorem lo_whitespace : ∀ Q, ownOk (Mine.KK Q) 743 (Str.ofString "whitespace") = true := by intro Q; kernel_rfl
theorem la_whitespace_split : getL (Str.ofString "whitespace_split") (lexes P c) = some (some (.bool false)) := by kernel_rfl
theorem lo_whitespace_split : ∀ Q, ownOk (Mine.KK Q) 743 (Str.ofString "whitespace_split") = true := by intro Q; kernel_rfl
theorem la_quotes : getL (Str.ofString "quotes") (lexes P c) = some (some (.str (Str.ofString "'\"") (P.tc 8))) := by kernel_rfl
theorem lo_quotes : ∀ Q, ownOk (Mine.KK Q) 743 (Str.ofString "quotes") = true := by intro Q; kernel_rfl
theorem la_escape : getL (Str.ofString "escape") (lexes P c) = some (some (.str (Str.ofString "\\") (P.tc 9))) := by kernel_rfl
theorem lo_escape : ∀ Q, ownOk (Mine.KK Q) 743 (Str.ofString "escape") = true := by intro Q; kernel_rfl
theorem la_escapedquotes : getL (Str.ofString "escapedquotes") (lexes P c) = some (some (.str (Str.ofString "\"") (P.tc 10))) := by kernel_rfl
theorem lo_escapedquotes : ∀ Q, ownOk (Mine.KK Q) 743 (Str.ofString "escapedquotes") = true := by intro Q; kernel_rfl
theorem la_state : getL (Str.ofString "state") (lexes P c) = some (some (c.st)) := by kernel_rfl
theorem lo_state : ∀ Q, ownOk (Mine.KK Q) 743 (Str.ofString "state") = true := by intro Q; kernel_rfl
theorem la_pushback : getL (Str.ofString "pushback") (lexes P c) = some (some (.ref P.pb)) := by kernel_rfl
theorem lo_pushback : ∀ Q, ownOk (Mine.KK Q) 743 (Str.ofString "pushback") = true := by intro Q; kernel_rfl
theorem la_lineno : getL (Str.ofString "lineno") (lexes P c) = some (some (.int c.line c.tl)) := by kernel_rfl
theorem lo_lineno : ∀ Q, ownOk (Mine.KK Q) 743 (Str.ofString "lineno") = true := by intro Q; kernel_rfl
theorem la_debug : getL (Str.ofString "debug") (lexes P c) = some (some (.int 0 (P.tc 14))) := by kernel_rfl
theorem lo_debug : ∀ Q, ownOk (Mine.KK Q) 743 (Str.ofString "debug") = true := by intro Q; kernel_rfl
theorem la_token : getL (Str.ofString "token") (lexes P c) = some (some (.str c.tok c.tt)) := by kernel_rfl
theorem lo_token : ∀ Q, ownOk (Mine.KK Q) 743 (Str.ofString "token") = true := by intro Q; kernel_rfl
theorem lm_read : ∀ Q, methIn (Mine.KK Q) 608 (Str.ofString "read") 554 = true := by intro Q; kernel_rfl
theorem lm_readline : ∀ Q, methIn (Mine.KK Q) 608 (Str.ofString "readline") 562 = true := by intro Q; kernel_rfl
theorem ls_read {pos : Int} {t3 : Tok} : getL (Str.ofString "read") (siosE P pos t3) = some none := by kernel_rfl
theorem ls_readline {pos : Int} {t3 : Tok} : getL (Str.ofString "readline") (siosE P pos t3) = some none := by kernel_rfl
theorem lt_state : ∀ Q, setIn (Mine.KK Q) 743 (Str.ofString "state") = true := by intro Q; kernel_rfl
theorem lt_lineno : ∀ Q, setIn (Mine.KK Q) 743 (Str.ofString "lineno") = true := by intro Q; kernel_rfl
theorem lt_token : ∀ Q, setIn (Mine.KK Q) 743 (Str.ofString "token") = true := by intro Q; kernel_rfl
theorem put_state (v : Value) (h : Int) (k : Value) : (putL (Str.ofString "state") h k v (lexes P c), putN (Str.ofString "state") (lexes P c) 20) = (lexes P { c with st := v }, 20) := by kernel_rfl
theorem put_lineno (i : Int) (u : Tok) (h : Int) (k : Value) : (putL (Str.ofString "lineno") h k (.int i u) (lexes P c), putN (Str.ofString "lineno") (lexes P c) 20) = (lexes P { c with line := i, tl := u }, 20) := by kernel_rfl
theorem put_token (x : Str) (u : Tok) (h : Int) (k : Value) : (putL (Str.ofString "token") h k (.str x u) (lexes P c), putN (Str.ofString "token") (lexes P c) 20) = (lexes P { c with tok := x, tt := u }, 20) := by kernel_rfl
end
section
variable {x : Fx} {f : Fn} {m : Loc} {P : LP} {c : LV} {pos : Int} {t3 : Tok} {dn : Int} {l : List Value} {news : Led}
theorem Ep.lx {y name : Str} {yp ap : Pos} {v : Value} (hy : look m y = some (.ref P.x)) (hA : getL name (lexes P c) = some (some v)) (hO : ∀ Q, ownOk (Mine.KK Q) 743 name = true) (hv : handedIn v = true := by rfl)
    (hx : (x.env f).kindOf y = some .local := by rfl) (hd : (y == ("__debug__" : Str)) = false := by decide) : Ep x f m (rtN P c pos t3 dn l news) (.Attribute (.Name y yp) name ap) (· = v) :=
  Ep.at rfl (Ep.name hy hx hd) (Tr.own (.head _) (.tail _ (.head _)) hO hA hv ⟨rfl, rfl, rfl⟩)
theorem Tr.lx {name : Str} {v : Value} {b : Bool} (hA : getL name (lexes P c) = some (some v)) (hO : ∀ Q, ownOk (Mine.KK Q) 743 name = true) (hv : handedIn v = true := by rfl) :
    Tr x f m (rtN P c pos t3 dn l news) (getAttr (.ref P.x) name b) (fun w m' n' => w = v ∧ m' = m ∧ n' = rtN P c pos t3 dn l news) NoX := Tr.own (.head _) (.tail _ (.head _)) hO hA hv ⟨rfl, rfl, rfl⟩
theorem Tr.sx {c' : LV} {name : Str} {v : Value} {R : Unit → Loc → Led → Prop} {X : List Value → Led → Prop} (D : RtD P news) (hA : ∃ w, getL name (lexes P c) = some w ∧ w.isSome = true) (hO : ∀ Q, setIn (Mine.KK Q) 743 name = true)
    (e : ∀ h k, (putL name h k v (lexes P c), putN name (lexes P c) 20) = (lexes P c', 20)) (h : R () m (rtN P c' pos t3 dn l news)) : Tr x f m (rtN P c pos t3 dn l news) (setAttr (.ref P.x) name v) R X := Tr.mk fun s Q E ok st q _ _ => by
  obtain ⟨⟨mm, F, km⟩, N⟩ := st
  obtain ⟨h1, h2, h3, h4⟩ := setIn_of (hO x.w.params)
  obtain ⟨w, hw, _⟩ := hA
  have hne : P.x ≠ P.ld := fun z => by have := D.n1; rw [z] at this; exact Nat.lt_irrefl _ this
  refine set_dict F ok.X N (InstAt.of_news N (.head _) (.tail _ (.head _))) rfl h1 h2 h4 h3 (by rw [hw]; rfl) (e _ _) (.tail hne (.head ?_)) (by show 20 ≤ 1000; decide) fun h' F' N' => q () m _ h' _ h ⟨⟨mm, F', km⟩, N'⟩
  have a1 := D.n1
  have a2 := D.n2
  have a3 := D.n3
  have a4 := D.n4
  intro p hp
  rcases List.mem_cons.mp hp with rfl | hp
  · show @Ne Nat P.sio P.ld; omega
  rcases List.mem_cons.mp hp with rfl | hp
  · show @Ne Nat P.sd P.ld; omega
  rcases List.mem_cons.mp hp with rfl | hp
  · show @Ne Nat P.pb P.ld; omega
  exact D.e2 p hp
end
end Mine

end
section
open Mine
namespace Mine
theorem la_pch {P : LP} {c : LV} : getL (Str.ofString "_punctuation_chars") (lexes P c) = some (some (.str (Str.ofString "") (P.tc 18))) := by kernel_rfl
theorem lo_pch : ∀ Q, ownOk (Mine.KK Q) 743 (Str.ofString "_punctuation_chars") = true := by intro Q; kernel_rfl
section
variable {x : Fx} {f : Fn} {m : Loc} {P : LP} {c : LV} {t3 : Tok} {dn : Int} {l : List Value} {news : Led}
theorem Tr.pch {pos : Int} {b : Bool} {R : Value → Loc → Led → Prop} {X : List Value → Led → Prop} (h5 : 1 ≤ x.c) (h6 : 5 ≤ x.u) (h : R (.str (Str.ofString "") (P.tc 18)) m (rtN P c pos t3 dn l news)) : Tr x f m (rtN P c pos t3 dn l news) (getAttr (.ref P.x) (Str.ofString "punctuation_chars") b) R X := Tr.mk fun s Q E ok st q _ _ => by
  obtain ⟨⟨mm, F, km⟩, N⟩ := st
  have h1 := ok.hd
  have h2 := ok.hu
  refine get_prop F ok.X (InstAt.of_news N (.head _) (.tail _ (.head _))) (p := 675) (fget := 674) (rest := [.none, .none, .none, .str (Str.ofString "punctuation_chars") 1062, .bool false]) ?a ?b ?c ?d ?e ?f ?_
  case a => kernel_rfl
  case b => kernel_rfl
  case c => kernel_rfl
  case d => kernel_rfl
  case e => kernel_rfl
  case f => kernel_rfl
  refine code_of (c := 0) (u := 0) (binds := [(Str.ofString "self", .ref P.x)]) (R := fun v n' => v = .str (Str.ofString "") (P.tc 18) ∧ n' = rtN P c pos t3 dn l news) (RE := NoX) (by k_is) (by k_is) (fun s X => BindsTo.of_eq rfl) (locs rfl) ?_ rfl rfl rfl (by decide) (env := x.env f) (outer := x.outer) rfl rfl ok.k rfl ok.B F ok.X N ok.T (by show x.dp + 1 + 0 < _; omega) (by show x.un + 1 + 3 + 0 < _; omega) ?_ (fun _ _ _ _ _ _ _ z => z.elim)
  · intro y hw _ _ _
    exact Ex.ret ((Ep.lx (v := .str (Str.ofString "") (P.tc 18)) rfl la_pch lo_pch).go fun v hv => ⟨hv, rfl⟩)
  · rintro v h' tk' n' ⟨rfl, rfl⟩ F' N'
    exact handed_on rfl (q _ m _ h' tk' h ⟨⟨mm, F', km⟩, N'⟩)
theorem Ep.pch {pos : Int} {y : Str} {yp ap : Pos} (h5 : 1 ≤ x.c) (h6 : 5 ≤ x.u) (hy : look m y = some (.ref P.x)) (hx : (x.env f).kindOf y = some .local := by rfl) (hd : (y == ("__debug__" : Str)) = false := by decide) :
    Ep x f m (rtN P c pos t3 dn l news) (.Attribute (.Name y yp) (Str.ofString "punctuation_chars") ap) (· = .str (Str.ofString "") (P.tc 18)) := Ep.at rfl (Ep.name hy hx hd) (Tr.pch h5 h6 ⟨rfl, rfl, rfl⟩)
theorem sio_mem {pos : Int} : ∀ q ∈ (P.sio, instObj 608 P.sd) :: (P.sd, sioP P pos t3) :: (P.x, instObj 743 P.ld) :: (P.ld, lexP P c) :: (P.pb, dqO dn l) :: news, q ∈ rtN P c pos t3 dn l news := by
  intro q hq
  unfold rtN
  simp only [List.mem_cons] at hq ⊢
  rcases hq with h | h | h | h | h | h
  · exact .inr (.inr (.inl h))
  · exact .inr (.inr (.inr (.inl h)))
  · exact .inl h
  · exact .inr (.inl h)
  · exact .inr (.inr (.inr (.inr (.inl h))))
  · exact .inr (.inr (.inr (.inr (.inr h))))
theorem sio_back {pos : Int} : ∀ q ∈ rtN P c pos t3 dn l news, q ∈ (P.sio, instObj 608 P.sd) :: (P.sd, sioP P pos t3) :: (P.x, instObj 743 P.ld) :: (P.ld, lexP P c) :: (P.pb, dqO dn l) :: news := by
  intro q hq
  unfold rtN at hq
  simp only [List.mem_cons] at hq ⊢
  rcases hq with h | h | h | h | h | h
  · exact .inr (.inr (.inl h))
  · exact .inr (.inr (.inr (.inl h)))
  · exact .inl h
  · exact .inr (.inl h)
  · exact .inr (.inr (.inr (.inr (.inl h))))
  · exact .inr (.inr (.inr (.inr (.inr h))))
theorem sio_ne (D : RtD P news) : ∀ q ∈ (P.x, instObj 743 P.ld) :: (P.ld, lexP P c) :: (P.pb, dqO dn l) :: news, q.1 ≠ P.sd := by
  have a1 := D.n1
  have a2 := D.n2
  have a3 := D.n3
  have a4 := D.n4
  intro p hp
  rcases List.mem_cons.mp hp with rfl | hp
  · show @Ne Nat P.x P.sd; omega
  rcases List.mem_cons.mp hp with rfl | hp
  · show @Ne Nat P.ld P.sd; omega
  rcases List.mem_cons.mp hp with rfl | hp
  · show @Ne Nat P.pb P.sd; omega
  exact D.e1 p hp
theorem Ev.rd1 {pos : Nat} {y : Str} {yp ap ap2 cp ip : Pos} {k : Nat} {R : Value → Loc → Led → Prop} {X : List Value → Led → Prop} (D : RtD P news) (h5 : 5 ≤ x.c) (h6 : 40 ≤ x.u) (hpos : pos ≤ P.r.length) (hlen : P.r.length < 10000) (hy : look m y = some (.ref P.x))
    (h0 : P.r.drop pos = [] → ∀ t t', R (.str (Str.ofString "") t) m (rtN P c pos t' dn l news)) (h1 : ∀ d s, P.r.drop pos = d :: s → pos + 1 ≤ P.r.length → ∀ t t', R (.str (T [d]) t) m (rtN P c (pos + 1 : Nat) t' dn l news))
    (hx : (x.env f).kindOf y = some .local := by rfl) (hd : (y == ("__debug__" : Str)) = false := by decide) {pl : Sem Bool}
    (he : eval (.Call (.Attribute (.Attribute (.Name y yp) (Str.ofString "instream") ap) (Str.ofString "read") ap2) [.Constant (.int 1) k ip] [] cp) (x.env f) = (do
      let ov ← eval (.Attribute (.Name y yp) (Str.ofString "instream") ap) (x.env f)
      standAt ap2.atName
      let (fv, first) ← holding [ov] (getMethod ov (Str.ofString "read") pl)
      callWith cp fv first (backTo cp (starEach [.Constant (.int 1) k ip] (x.env f))) []) := by rfl) :
    Ev x f m (rtN P c pos t3 dn l news) (.Call (.Attribute (.Attribute (.Name y yp) (Str.ofString "instream") ap) (Str.ofString "read") ap2) [.Constant (.int 1) k ip] [] cp) R X := by
  refine Ev.meth (V := fun vs => ∃ v vs', vs = v :: vs' ∧ IsI 1 v ∧ vs' = []) (Ep.lx hy la_instream lo_instream rfl hx hd) (.tail _ (.tail _ (.head _))) (.tail _ (.tail _ (.tail _ (.head _)))) lm_read ls_read (Ea.cons Ep.int Ea.nil rfl) ?_ he rfl rfl
  rintro _ ⟨v, vs', rfl, ⟨t, rfl⟩, rfl⟩
  have hne' : @Ne Nat P.sio P.sd := by have := D.n3; omega
  refine Tr.con (lv := 1) (rd_spec ((P.x, instObj 743 P.ld) :: (P.ld, lexP P c) :: (P.pb, dqO dn l) :: news) P.sio P.sd P.hs2 P.ts2 P.r pos 1 P.t1 P.t2 t3 t (sio_ne D) hne') ⟨hpos, hlen, by omega⟩ sio_mem h5 h6 ?_ (fun _ _ z => z.elim)
  rintro v n' ⟨o', ⟨z, t, p', t', e1, e2, rfl, rfl⟩, rfl⟩
  cases hs : P.r.drop pos with
  | nil =>
    rw [hs] at e1 e2
    subst e1 e2
    exact ⟨_, sio_back, h0 hs t t'⟩
  | cons d s =>
    rw [hs] at e1 e2
    subst e1 e2
    exact ⟨_, sio_back, h1 d s hs (by have := congrArg List.length hs; simp at this; omega) t t'⟩
theorem Ev.rl {pos : Nat} {y : Str} {yp ap ap2 cp : Pos} {R : Value → Loc → Led → Prop} {X : List Value → Led → Prop} (D : RtD P news) (h5 : 5 ≤ x.c) (h6 : 40 ≤ x.u) (hpos : pos ≤ P.r.length) (hlen : P.r.length < 10000) (hy : look m y = some (.ref P.x))
    (h : ∀ v t', R v m (rtN P c (P.r.length - (aft (P.r.drop pos)).length : Nat) t' dn l news))
    (hx : (x.env f).kindOf y = some .local := by rfl) (hd : (y == ("__debug__" : Str)) = false := by decide) {pl : Sem Bool}
    (he : eval (.Call (.Attribute (.Attribute (.Name y yp) (Str.ofString "instream") ap) (Str.ofString "readline") ap2) [] [] cp) (x.env f) = (do
      let ov ← eval (.Attribute (.Name y yp) (Str.ofString "instream") ap) (x.env f)
      standAt ap2.atName
      let (fv, first) ← holding [ov] (getMethod ov (Str.ofString "readline") pl)
      callWith cp fv first (backTo cp (starEach [] (x.env f))) []) := by rfl) :
    Ev x f m (rtN P c pos t3 dn l news) (.Call (.Attribute (.Attribute (.Name y yp) (Str.ofString "instream") ap) (Str.ofString "readline") ap2) [] [] cp) R X := by
  refine Ev.meth0 (Ep.lx hy la_instream lo_instream rfl hx hd) (.tail _ (.tail _ (.head _))) (.tail _ (.tail _ (.tail _ (.head _)))) lm_readline ls_readline ?_ he
  have hne' : @Ne Nat P.sio P.sd := by have := D.n3; omega
  refine Tr.con (lv := 1) (rl_spec ((P.x, instObj 743 P.ld) :: (P.ld, lexP P c) :: (P.pb, dqO dn l) :: news) P.sio P.sd P.hs2 P.ts2 P.r pos P.t1 P.t2 t3 (sio_ne D) hne') ⟨hpos, hlen⟩ sio_mem h5 h6 ?_ (fun _ _ z => z.elim)
  rintro v n' ⟨o', ⟨z, t, p', t', rfl, rfl, rfl⟩, rfl⟩
  exact ⟨_, sio_back, h _ t'⟩
theorem Ev.apl {pos : Int} {y z : Str} {yp zp ap ap2 cp : Pos} {v : Value} {R : Value → Loc → Led → Prop} {X : List Value → Led → Prop} (D : RtD P news) (hl : l.length < 1000) (hy : look m y = some (.ref P.x)) (hz : look m z = some v)
    (h : R .none m (rtN P c pos t3 (dn + 1) (v :: l) news))
    (hx : (x.env f).kindOf y = some .local := by rfl) (hd : (y == ("__debug__" : Str)) = false := by decide) (hx2 : (x.env f).kindOf z = some .local := by rfl) (hd2 : (z == ("__debug__" : Str)) = false := by decide) {pl : Sem Bool}
    (he : eval (.Call (.Attribute (.Attribute (.Name y yp) (Str.ofString "pushback") ap) (Str.ofString "appendleft") ap2) [.Name z zp] [] cp) (x.env f) = (do
      let ov ← eval (.Attribute (.Name y yp) (Str.ofString "pushback") ap) (x.env f)
      standAt ap2.atName
      let (fv, first) ← holding [ov] (getMethod ov (Str.ofString "appendleft") pl)
      callWith cp fv first (backTo cp (starEach [.Name z zp] (x.env f))) []) := by rfl) :
    Ev x f m (rtN P c pos t3 dn l news) (.Call (.Attribute (.Attribute (.Name y yp) (Str.ofString "pushback") ap) (Str.ofString "appendleft") ap2) [.Name z zp] [] cp) R X := by
  refine Ev.methB (id := "collections.deque.appendleft") (first := [.ref P.pb]) (V := fun vs => ∃ a r, vs = a :: r ∧ a = v ∧ r = []) (Ep.lx hy la_pushback lo_pushback rfl hx hd) ?_ (Ea.cons (Ep.name hz hx2 hd2) Ea.nil rfl) ?_ he rfl rfl
  · refine Tr.mk fun s Q E ok st q _ _ => ?_
    exact dq_method st.2 (.tail _ (.tail _ (.tail _ (.tail _ (.head _))))) slot_dq_appendleft type_dq_appendleft (q _ _ _ s.heap s.toks ⟨rfl, rfl, rfl⟩ st)
  · rintro _ ⟨_, _, rfl, rfl, rfl⟩
    refine Tr.mk fun s Q E ok st q _ _ => ?_
    obtain ⟨⟨mm, F, km⟩, N⟩ := st
    have a1 := D.n1
    have a2 := D.n2
    have a3 := D.n3
    have a4 := D.n4
    exact dq_appendleft F N (.tail (by show @Ne Nat P.x P.pb; omega) (.tail (by show @Ne Nat P.ld P.pb; omega) (.tail (by show @Ne Nat P.sio P.pb; omega) (.tail (by show @Ne Nat P.sd P.pb; omega) (.head D.e3))))) hl (fun h' F' N' => q _ m _ h' _ h ⟨⟨mm, F', km⟩, N'⟩)
theorem Cop.emp {l : List Nat} {t : Tok} : Cop .Eq (· = .str (T l) t) (IsS (Str.ofString "")) l.isEmpty := Cop.eqC (by
  rw [show (Str.ofString "").cps.toList = [] by decide +kernel]
  cases l <;> rfl)
theorem Tp.in2 {n : Led} {e : Expr} {a b : Str} {ka kb kt : Nat} {pa pb pt pos : Pos} {z : Str} {t : Tok} {c : Bool} (he : Ep x f m n e (· = .str z t)) (hc : ([a, b].any (fun y => y == z)) = c)
    (hs : starEach [.Constant (.str a) ka pa, .Constant (.str b) kb pb] (x.env f) = (false, eval (.Constant (.str a) ka pa) (x.env f)) :: starEach [.Constant (.str b) kb pb] (x.env f) := by rfl)
    (hs2 : starEach [.Constant (.str b) kb pb] (x.env f) = (false, eval (.Constant (.str b) kb pb) (x.env f)) :: starEach [] (x.env f) := by rfl)
    (hm : behindInMarks .In (.Tuple [.Constant (.str a) ka pa, .Constant (.str b) kb pb] kt pt) = false := by with_unfolding_all rfl) :
    Tp x f m n (.Compare e [.In] [.Tuple [.Constant (.str a) ka pa, .Constant (.str b) kb pb] kt pt] pos) c := Tr.mk fun s Q E ok st q ee po => wpAny_isTrue_Compare1 (he.run s _ E ok st (by
      rintro v m₀ n₀ h1 t1 ⟨rfl, rfl, rfl⟩ st1
      obtain ⟨⟨mm, F, km⟩, N⟩ := st1
      refine Tuple_ (args_cons (Calls.Constant_str (args_cons (Calls.Constant_str (args_nil ?_)) hs2)) hs)
      refine kup_newTuple F N (fun D h' F' N' hlt => ?_) (by show 2 ≤ sizeLine; decide)
      refine in_tuple_strs (N'.isTup (.head _)) (ys := [a, b]) (.cons _ _ (.cons _ _ .nil)) ?_
      refine wpAny_truthy_bool ?_
      exact q _ _ _ h' _ ⟨hc, rfl, rfl⟩ ⟨⟨mm, F', km⟩, fun q hq => N' q (.tail _ hq)⟩) (fun _ _ _ _ _ z => z.elim) po) hm
theorem Tr.iadd {n : Led} {a b : List Nat} {t u : Tok} (hz : a.length + b.length ≤ 1000000) : Tr x f m n (inplaceOp .Add (.str (T a) t) (.str (T b) u)) (fun v m' n' => IsS (T (a ++ b)) v ∧ m' = m ∧ n' = n) NoX :=
  Tr.fin (V := IsS (T (a ++ b))) (fun s Q E q => iadd_T hz fun tk k => q _ k ⟨tk, rfl⟩) fun v h => ⟨h, rfl, rfl⟩
theorem Tr.iaddI {n : Led} {a b : Int} {t u : Tok} : Tr x f m n (inplaceOp .Add (.int a t) (.int b u)) (fun v m' n' => IsI (a + b) v ∧ m' = m ∧ n' = n) NoX :=
  Tr.fin (V := IsI (a + b)) (fun s Q E q => iadd_int (q _ _ ⟨_, rfl⟩)) fun v h => ⟨h, rfl, rfl⟩
end
end Mine

end
section
open Mine
namespace Mine
noncomputable def rtB : List Stmt := wb (nth (fb o711.1) 2)
noncomputable def rtF : Fn := fnO o711.1 711
noncomputable def rtS : List Stmt := rtB.drop 3
noncomputable def lvOf (c : LC) : LV := ⟨c.st.val c.tst, c.line, c.tl, T c.tok, c.tt⟩
noncomputable def rtPs (P : LP) (c : LC) : Loc := [(Str.ofString "self", .ref P.x), (Str.ofString "quoted", .bool c.q), (Str.ofString "escapedstate", .str c.es.str c.tes)]
section
variable {x : Fx} {P : LP} {news : Led} {c : LC} {dn : Int} {R : Flow → Loc → Led → Prop} {X : List Value → Led → Prop}
theorem rt_pre (D : RtD P news) (h5 : 5 ≤ x.c) (h6 : 40 ≤ x.u) (hpos : c.pos ≤ P.r.length) (hlen : P.r.length < 10000)
    (h0 : P.r.drop c.pos = [] → ∀ t t', Ex x rtF ((Str.ofString "nextchar", .str (Str.ofString "") t) :: rtPs P c) (rtN P (lvOf c) c.pos t' dn [] news) rtS R X)
    (h1 : ∀ d s, P.r.drop c.pos = d :: s → c.pos + 1 ≤ P.r.length → ∀ t t' tl, Ex x rtF ((Str.ofString "nextchar", .str (T [d]) t) :: rtPs P c) (rtN P { lvOf c with line := bump d c.line, tl := tl } (c.pos + 1 : Nat) t' dn [] news) rtS R X) :
    Ex x rtF (rtPs P c) (rtN P (lvOf c) c.pos c.t3 dn [] news) rtB R X := by
  have hs : look (rtPs P c) (Str.ofString "self") = some (.ref P.x) := rfl
  refine Ex.ifF (Tp.L (TL.andF (Tp.val (Ep.pch (by omega) (by omega) hs) Tv.emp))) ?_
  refine Ex.asg (R₁ := fun v m₁ n₁ => m₁ = rtPs P c ∧ ((P.r.drop c.pos = [] ∧ ∃ t t', v = .str (Str.ofString "") t ∧ n₁ = rtN P (lvOf c) c.pos t' dn [] news) ∨ (∃ d s, P.r.drop c.pos = d :: s ∧ c.pos + 1 ≤ P.r.length ∧ ∃ t t', v = .str (T [d]) t ∧ n₁ = rtN P (lvOf c) (c.pos + 1 : Nat) t' dn [] news)))
    (Ev.rd1 D h5 h6 hpos hlen hs (fun h t t' => ⟨rfl, .inl ⟨h, t, t', rfl, rfl⟩⟩) (fun d s h1 h2 t t' => ⟨rfl, .inr ⟨d, s, h1, h2, t, t', rfl, rfl⟩⟩)) ?_
  rintro v m₁ n₁ ⟨rfl, ⟨h, t, t', rfl, rfl⟩ | ⟨d, s, e1, e2, t, t', rfl, rfl⟩⟩
  · refine Ex.ifF (Tp.cmp (Ep.name rfl) Ep.str (Cop.eqC (by decide +kernel))) ?_
    exact Ex.ifF (Tp.cmp (Ep.lx rfl la_debug lo_debug) Ep.int (Cop.geI rfl)) (h0 h t t')
  · have hs : look ((Str.ofString "nextchar", .str (T [d]) t) :: rtPs P c) (Str.ofString "self") = some (.ref P.x) := rfl
    refine Ex.iff (Tp.cmp (Ep.name rfl) Ep.str Cop.nl) (fun hd => ?_) (fun hd => ?_)
    · refine Ex.auga (Ep.name hs) (Tr.lx la_lineno lo_lineno) Ep.int (by rintro v ⟨u, rfl⟩; exact Tr.iaddI) ?_
      rintro v ⟨u, rfl⟩
      refine Tr.sx D ⟨_, la_lineno, rfl⟩ lt_lineno (put_lineno _ _) ?_
      refine Ex.ifF (Tp.cmp (Ep.lx hs la_debug lo_debug) Ep.int (Cop.geI rfl)) ?_
      have := h1 d s e1 e2 t t' u
      rw [show bump d c.line = c.line + 1 from if_pos (of_decide_eq_true hd)] at this
      exact this
    · refine Ex.ifF (Tp.cmp (Ep.lx hs la_debug lo_debug) Ep.int (Cop.geI rfl)) ?_
      have := h1 d s e1 e2 t t' c.tl
      rw [show bump d c.line = c.line from if_neg (of_decide_eq_false hd)] at this
      exact this
end
end Mine

end
section
open Mine
namespace Mine
theorem s_a : Str.ofString "a" = T [97] := by decide +kernel
theorem s_sp : Str.ofString " " = T [32] := by decide +kernel
theorem s_em : Str.ofString "" = T [] := by decide +kernel
structure RtI (r : List Nat) (c : LC) : Prop where
  h1 : c.pos ≤ r.length
  h2 : c.tok.length + 2 * (r.length - c.pos) < 60000
  h3 : c.st = .ws → c.tok = [] ∧ c.q = false
  h4 : c.st = .wd → c.tok ≠ [] ∨ c.q = true
  h5 : c.st = .esc → c.es = .sp → r.length ≤ c.pos
  h6 : c.st = .fin → r.length ≤ c.pos
noncomputable def RtGo (r : List Nat) (c c' : LC) : Prop := (∀ O, Run (r.drop c'.pos) c'.st c'.tok c'.line c'.q c'.es O → Run (r.drop c.pos) c.st c.tok c.line c.q c.es O) ∧ RtI r c' ∧ c.pos < c'.pos
noncomputable def RtE (r : List Nat) (c c' : LC) (push : List (Nat × Tok)) : Prop := Run (r.drop c.pos) c.st c.tok c.line c.q c.es (.done (r.drop c'.pos) c'.st c'.tok c'.line c'.q (push.map Prod.fst)) ∧ c'.pos ≤ r.length ∧ c'.tok.length < 60000
noncomputable def RtT (P : LP) (news : Led) (dn : Int) (c : LC) (fl : Flow) (m' : Loc) (n' : Led) : Prop :=
  match fl with
  | .ret _ => False
  | .brk => ∃ c' push dn', RtE P.r c c' push ∧ look m' (Str.ofString "self") = some (.ref P.x) ∧ look m' (Str.ofString "quoted") = some (.bool c'.q) ∧ n' = rtN P (lvOf c') c'.pos c'.t3 dn' (pushV push) news
  | _ => ∃ c', RtGo P.r c c' ∧ (look m' (Str.ofString "self") = some (.ref P.x) ∧ look m' (Str.ofString "quoted") = some (.bool c'.q) ∧ look m' (Str.ofString "escapedstate") = some (.str c'.es.str c'.tes)) ∧ n' = rtN P (lvOf c') c'.pos c'.t3 dn [] news
noncomputable def RtX (P : LP) (news : Led) (dn : Int) (c : LC) (es : List Value) (n' : Led) : Prop :=
  ∃ (k : Bool) (c' : LC) (tm : Tok), Run (P.r.drop c.pos) c.st c.tok c.line c.q c.es (.bad k c'.st c'.tok c'.line) ∧ c'.pos = P.r.length ∧ es = [.str (Str.ofString (if k then "No escaped character" else "No closing quotation")) tm] ∧ n' = rtN P (lvOf c') c'.pos c'.t3 dn [] news
theorem bump_W {d : Nat} {line : Int} (h : isW d = false) : bump d line = line := if_neg (by rintro rfl; cases h)
section
variable {x : Fx} {P : LP} {news : Led} {dn : Int} {m : Loc}
theorem tp_tq {l2 : List Value} {c : LV} {l : List Nat} {pos : Int} {t3 : Tok} {q : Bool} {y1 y2 : Str} {p1 p2 p3 p4 p5 p6 p7 : Pos} (hs : look m y1 = some (.ref P.x)) (hq : look m y2 = some (.bool q)) (hl : l.length < 1000000) (ht : c.tok = T l) (hx : (x.env rtF).kindOf y1 = some .local := by rfl) (hd : (y1 == ("__debug__" : Str)) = false := by decide) (hx2 : (x.env rtF).kindOf y2 = some .local := by rfl) (hd2 : (y2 == ("__debug__" : Str)) = false := by decide) :
    Tp x rtF m (rtN P c pos t3 dn l2 news) (.BoolOp .Or [.Attribute (.Name y1 p1) (Str.ofString "token") p2, .BoolOp .And [.Attribute (.Name y1 p3) (Str.ofString "posix") p4, .Name y2 p5] p6] p7) (!l.isEmpty || q) := by
  refine Tp.L (TL.orB (Tp.val (Ep.lx (v := .str (T l) c.tt) hs (by rw [← ht]; exact la_token) lo_token rfl hx hd) (Tv.txt hl)) (TL.or1 (Tp.L (TL.andT (Tp.val (Ep.lx hs la_posix lo_posix rfl hx hd) Tv.bool) (TL.and1 (Tp.val (Ep.name hq hx2 hd2) Tv.bool))))))
end
theorem tp_tqT {x : Fx} {P : LP} {news : Led} {dn : Int} {m : Loc} {l2 : List Value} {c : LV} {l : List Nat} {pos : Int} {t3 : Tok} {q : Bool} {y1 y2 : Str} {p1 p2 p3 p4 p5 p6 p7 : Pos} (hs : look m y1 = some (.ref P.x)) (hq : look m y2 = some (.bool q)) (hl : l.length < 1000000) (ht : c.tok = T l) (h4 : l ≠ [] ∨ q = true) (hx : (x.env rtF).kindOf y1 = some .local := by rfl) (hd : (y1 == ("__debug__" : Str)) = false := by decide) (hx2 : (x.env rtF).kindOf y2 = some .local := by rfl) (hd2 : (y2 == ("__debug__" : Str)) = false := by decide) :
    Tp x rtF m (rtN P c pos t3 dn l2 news) (.BoolOp .Or [.Attribute (.Name y1 p1) (Str.ofString "token") p2, .BoolOp .And [.Attribute (.Name y1 p3) (Str.ofString "posix") p4, .Name y2 p5] p6] p7) true := by
  have := tp_tq (l2 := l2) (p1 := p1) (p2 := p2) (p3 := p3) (p4 := p4) (p5 := p5) (p6 := p6) (p7 := p7) (x := x) (news := news) (dn := dn) (pos := pos) (t3 := t3) hs hq hl ht hx hd hx2 hd2
  have e : (!l.isEmpty || q) = true := by rcases h4 with h | rfl <;> simp [*]
  rwa [e] at this
theorem TL.and2F {x : Fx} {f : Fn} {m : Loc} {n : Led} {y z : Expr} {b : Bool} (h : Tp x f m n y b) (h2 : Tp x f m n z false) : TL x f m n .And [y, z] false := Bool.and_false b ▸ TL.andB h (TL.and1 h2)
theorem TL.and2T {x : Fx} {f : Fn} {m : Loc} {n : Led} {y z : Expr} {b : Bool} (h : Tp x f m n y b) (h2 : Tp x f m n z true) : TL x f m n .And [y, z] b := Bool.and_true b ▸ TL.andB h (TL.and1 h2)
section
variable {x : Fx} {P : LP} {news : Led} {c : LC} {dn : Int}
theorem rt_turn (D : RtD P news) (hI : RtI P.r c) (h5 : 5 ≤ x.c) (h6 : 40 ≤ x.u) (hlen : P.r.length < 10000) : Ex x rtF (rtPs P c) (rtN P (lvOf c) c.pos c.t3 dn [] news) rtB (RtT P news dn c) (RtX P news dn c) := by
  refine rt_pre D h5 h6 hI.h1 hlen (fun h0 t t' => ?_) (fun d s h0 hp t t' tl' => ?_)
  · obtain ⟨pos, st, tok, line, q, es, tst, tl, tt, t3, tes⟩ := c
    dsimp only at h0 hI ⊢
    cases st with
    | fin =>
      have hs : look ((Str.ofString "nextchar", .str (Str.ofString "") t) :: rtPs P ⟨pos, .fin, tok, line, q, es, tst, tl, tt, t3, tes⟩) (Str.ofString "self") = some (.ref P.x) := rfl
      refine Ex.ifT (Tp.cmp (Ep.lx (v := .none) hs la_state lo_state) Ep.none Cop.isNN) ?_
      refine Ex.seta (Ep.strT s_em) (Ep.name hs) ?_
      rintro v ⟨u, rfl⟩
      refine Tr.sx D ⟨_, la_token, rfl⟩ lt_token (put_token _ _) ?_
      refine Ex.brk ⟨⟨pos, .fin, [], line, q, es, tst, tl, u, t', tes⟩, [], dn, ⟨?_, hI.h1, ?_⟩, rfl, rfl, rfl⟩
      · dsimp only
        rw [h0]; exact Run.fin0
      · dsimp only [List.length_nil]; omega
    | ws =>
      have hs : look ((Str.ofString "nextchar", .str (Str.ofString "") t) :: rtPs P ⟨pos, .ws, tok, line, q, es, tst, tl, tt, t3, tes⟩) (Str.ofString "self") = some (.ref P.x) := rfl
      refine Ex.ifF (Tp.cmp (Ep.lx (v := .str (T [32]) tst) hs la_state lo_state) Ep.none Cop.isSN) ?_
      refine Ex.ifT (Tp.cmp (Ep.lx (v := .str (T [32]) tst) hs la_state lo_state) Ep.str (Cop.eqC (by decide +kernel))) ?_
      refine Ex.ifT (Tp.not (Tp.val (Ep.name rfl) Tv.emp)) ?_
      refine Ex.seta Ep.none (Ep.name hs) ?_
      rintro v rfl
      refine Tr.sx D ⟨_, la_state, rfl⟩ lt_state (put_state _) ?_
      refine Ex.brk ⟨⟨pos, .fin, tok, line, q, es, 0, tl, tt, t', tes⟩, [], dn, ⟨?_, hI.h1, ?_⟩, rfl, rfl, rfl⟩
      · show Run (P.r.drop pos) _ _ _ _ _ (.done (P.r.drop pos) _ _ _ _ _)
        rw [h0]; exact Run.ws0
      · have := hI.h2
        show tok.length < 60000
        dsimp only at this
        omega
    | sq =>
      have hs : look ((Str.ofString "nextchar", .str (Str.ofString "") t) :: rtPs P ⟨pos, .sq, tok, line, q, es, tst, tl, tt, t3, tes⟩) (Str.ofString "self") = some (.ref P.x) := rfl
      refine Ex.ifF (Tp.cmp (Ep.lx (v := .str (T [39]) tst) hs la_state lo_state) Ep.none Cop.isSN) ?_
      refine Ex.ifF (Tp.cmp (Ep.lx (v := .str (T [39]) tst) hs la_state lo_state) Ep.str (Cop.eqC (by decide +kernel))) ?_
      refine Ex.ifT (Tp.cmp (Ep.lx (v := .str (T [39]) tst) hs la_state lo_state) (Ep.lx hs la_quotes lo_quotes) Cop.inQ) ?_
      refine Ex.asp Ep.bool ?_
      rintro v rfl
      have hs : look ((Str.ofString "quoted", .bool true) :: (Str.ofString "nextchar", .str (Str.ofString "") t) :: rtPs P ⟨pos, .sq, tok, line, q, es, tst, tl, tt, t3, tes⟩) (Str.ofString "self") = some (.ref P.x) := rfl
      refine Ex.ifT (Tp.not (Tp.val (Ep.name rfl) Tv.emp)) ?_
      refine Ex.ifF (Tp.cmp (Ep.lx hs la_debug lo_debug) Ep.int (Cop.geI rfl)) ?_
      refine Ex.raiseVE (Ep.blt g_VE b_VE (by decide)) fun t2 => ?_
      refine ⟨false, ⟨pos, .sq, tok, line, q, es, tst, tl, tt, t', tes⟩, t2, ?_, ?_, rfl, rfl⟩
      · dsimp only
        rw [h0]; exact Run.sq0
      · dsimp only
        have := hI.h1
        have := List.drop_eq_nil_iff.mp h0
        dsimp only at *
        omega
    | dq =>
      have hs : look ((Str.ofString "nextchar", .str (Str.ofString "") t) :: rtPs P ⟨pos, .dq, tok, line, q, es, tst, tl, tt, t3, tes⟩) (Str.ofString "self") = some (.ref P.x) := rfl
      refine Ex.ifF (Tp.cmp (Ep.lx (v := .str (T [34]) tst) hs la_state lo_state) Ep.none Cop.isSN) ?_
      refine Ex.ifF (Tp.cmp (Ep.lx (v := .str (T [34]) tst) hs la_state lo_state) Ep.str (Cop.eqC (by decide +kernel))) ?_
      refine Ex.ifT (Tp.cmp (Ep.lx (v := .str (T [34]) tst) hs la_state lo_state) (Ep.lx hs la_quotes lo_quotes) Cop.inQ) ?_
      refine Ex.asp Ep.bool ?_
      rintro v rfl
      have hs : look ((Str.ofString "quoted", .bool true) :: (Str.ofString "nextchar", .str (Str.ofString "") t) :: rtPs P ⟨pos, .dq, tok, line, q, es, tst, tl, tt, t3, tes⟩) (Str.ofString "self") = some (.ref P.x) := rfl
      refine Ex.ifT (Tp.not (Tp.val (Ep.name rfl) Tv.emp)) ?_
      refine Ex.ifF (Tp.cmp (Ep.lx hs la_debug lo_debug) Ep.int (Cop.geI rfl)) ?_
      refine Ex.raiseVE (Ep.blt g_VE b_VE (by decide)) fun t2 => ?_
      refine ⟨false, ⟨pos, .dq, tok, line, q, es, tst, tl, tt, t', tes⟩, t2, ?_, ?_, rfl, rfl⟩
      · dsimp only
        rw [h0]; exact Run.dq0
      · dsimp only
        have := hI.h1
        have := List.drop_eq_nil_iff.mp h0
        dsimp only at *
        omega
    | esc =>
      have hs : look ((Str.ofString "nextchar", .str (Str.ofString "") t) :: rtPs P ⟨pos, .esc, tok, line, q, es, tst, tl, tt, t3, tes⟩) (Str.ofString "self") = some (.ref P.x) := rfl
      refine Ex.ifF (Tp.cmp (Ep.lx (v := .str (T [92]) tst) hs la_state lo_state) Ep.none Cop.isSN) ?_
      refine Ex.ifF (Tp.cmp (Ep.lx (v := .str (T [92]) tst) hs la_state lo_state) Ep.str (Cop.eqC (by decide +kernel))) ?_
      refine Ex.ifF (Tp.cmp (Ep.lx (v := .str (T [92]) tst) hs la_state lo_state) (Ep.lx hs la_quotes lo_quotes) Cop.inQ) ?_
      refine Ex.ifT (Tp.cmp (Ep.lx (v := .str (T [92]) tst) hs la_state lo_state) (Ep.lx hs la_escape lo_escape) Cop.inB) ?_
      refine Ex.ifT (Tp.not (Tp.val (Ep.name rfl) Tv.emp)) ?_
      refine Ex.ifF (Tp.cmp (Ep.lx hs la_debug lo_debug) Ep.int (Cop.geI rfl)) ?_
      refine Ex.raiseVE (Ep.blt g_VE b_VE (by decide)) fun t2 => ?_
      refine ⟨true, ⟨pos, .esc, tok, line, q, es, tst, tl, tt, t', tes⟩, t2, ?_, ?_, rfl, rfl⟩
      · dsimp only
        rw [h0]; exact Run.esc0
      · dsimp only
        have := hI.h1
        have := List.drop_eq_nil_iff.mp h0
        dsimp only at *
        omega
    | wd =>
      have hs : look ((Str.ofString "nextchar", .str (Str.ofString "") t) :: rtPs P ⟨pos, .wd, tok, line, q, es, tst, tl, tt, t3, tes⟩) (Str.ofString "self") = some (.ref P.x) := rfl
      refine Ex.ifF (Tp.cmp (Ep.lx (v := .str (T [97]) tst) hs la_state lo_state) Ep.none Cop.isSN) ?_
      refine Ex.ifF (Tp.cmp (Ep.lx (v := .str (T [97]) tst) hs la_state lo_state) Ep.str (Cop.eqC (by decide +kernel))) ?_
      refine Ex.ifF (Tp.cmp (Ep.lx (v := .str (T [97]) tst) hs la_state lo_state) (Ep.lx hs la_quotes lo_quotes) Cop.inQ) ?_
      refine Ex.ifF (Tp.cmp (Ep.lx (v := .str (T [97]) tst) hs la_state lo_state) (Ep.lx hs la_escape lo_escape) Cop.inB) ?_
      refine Ex.ifT (Tp.in2 (Ep.lx (v := .str (T [97]) tst) hs la_state lo_state) (by decide +kernel)) ?_
      refine Ex.ifT (Tp.not (Tp.val (Ep.name rfl) Tv.emp)) ?_
      refine Ex.seta (Ep.none) (Ep.name hs) ?_
      rintro v rfl
      refine Tr.sx D ⟨_, la_state, rfl⟩ lt_state (put_state _) ?_
      refine Ex.brk ⟨⟨pos, .fin, tok, line, q, es, 0, tl, tt, t', tes⟩, [], dn, ⟨?_, hI.h1, ?_⟩, rfl, rfl, rfl⟩
      · dsimp only
        rw [h0]; exact Run.wd0
      · have := hI.h2
        dsimp only at this ⊢
        omega
  · obtain ⟨pos, st, tok, line, q, es, tst, tl, tt, t3, tes⟩ := c
    dsimp only at h0 hI hp ⊢
    have hs3 := drop_succ h0
    cases st with
    | fin =>
      exact absurd (hI.h6 rfl) (by dsimp only; omega)
    | ws =>
      obtain ⟨rfl, rfl⟩ := hI.h3 rfl
      have h2 := hI.h2
      dsimp only [List.length_nil] at h2
      have hs : look ((Str.ofString "nextchar", .str (T [d]) t) :: rtPs P ⟨pos, .ws, [], line, false, es, tst, tl, tt, t3, tes⟩) (Str.ofString "self") = some (.ref P.x) := rfl
      refine Ex.ifF (Tp.cmp (Ep.lx (v := .str (T [32]) tst) hs la_state lo_state) Ep.none Cop.isSN) ?_
      refine Ex.ifT (Tp.cmp (Ep.lx (v := .str (T [32]) tst) hs la_state lo_state) Ep.str (Cop.eqC (by decide +kernel))) ?_
      refine Ex.ifF (Tp.not (Tp.val (Ep.name rfl) Tv.one)) ?_
      refine Ex.iff (Tp.cmp (Ep.name rfl) (Ep.lx hs la_whitespace lo_whitespace) Cop.inW) (fun hw => ?_) (fun hw => ?_)
      · refine Ex.ifF (Tp.cmp (Ep.lx hs la_debug lo_debug) Ep.int (Cop.geI rfl)) ?_
        refine Ex.ifF (tp_tq (l := []) (q := false) hs rfl (by decide) rfl) ?_
        refine Ex.cont ⟨⟨pos + 1, .ws, [], bump d line, false, es, tst, tl', tt, t', tes⟩, ⟨fun O h => ?_, ⟨hp, by dsimp only [List.length_nil]; omega, fun _ => ⟨rfl, rfl⟩, nofun, nofun, nofun⟩, Nat.lt_succ_self _⟩, ⟨rfl, rfl, rfl⟩, rfl⟩
        dsimp only at h ⊢
        rw [hs3] at h
        rw [h0]
        exact Run.wsW rfl hw h
      have hb : bump d line = line := bump_W hw
      rw [hb]
      refine Ex.iff (Tp.cmp (Ep.name rfl) (Ep.lx hs la_commenters lo_commenters) Cop.inH) (fun hc => ?_) (fun hc => ?_)
      · obtain rfl := eq_of_beq hc
        refine Ex.exp (Ev.rl D h5 h6 hp hlen hs fun v t2 => ?_)
        refine Ex.auga (Ep.name hs) (Tr.lx la_lineno lo_lineno) Ep.int (by rintro v ⟨u, rfl⟩; exact Tr.iaddI) ?_
        rintro v ⟨u, rfl⟩
        refine Tr.sx D ⟨_, la_lineno, rfl⟩ lt_lineno (put_lineno _ _) ?_
        have hal := aft_le (P.r.drop (pos + 1))
        have hda := drop_aft (r := P.r) (p := pos + 1)
        rw [List.length_drop] at hal
        refine Ex.nil ⟨⟨P.r.length - (aft (P.r.drop (pos + 1))).length, .ws, [], line + 1, false, es, tst, u, tt, t2, tes⟩, ⟨fun O h => ?_, ⟨Nat.sub_le _ _, by dsimp only [List.length_nil]; omega, fun _ => ⟨rfl, rfl⟩, nofun, nofun, nofun⟩, by dsimp only; omega⟩, ⟨rfl, rfl, rfl⟩, rfl⟩
        dsimp only at h ⊢
        rw [hda, hs3] at h
        rw [h0]
        exact Run.wsC h
      refine Ex.iff (Tp.L (TL.andT (Tp.val (Ep.lx hs la_posix lo_posix) Tv.bool) (TL.and1 (Tp.cmp (Ep.name rfl) (Ep.lx hs la_escape lo_escape) Cop.inB)))) (fun he => ?_) (fun he => ?_)
      · obtain rfl := eq_of_beq he
        refine Ex.asp (Ep.strT s_a) ?_
        rintro v ⟨u, rfl⟩
        refine Ex.seta (Ep.name rfl) (Ep.name rfl) ?_
        rintro v rfl
        refine Tr.sx D ⟨_, la_state, rfl⟩ lt_state (put_state _) ?_
        refine Ex.nil ⟨⟨pos + 1, .esc, [], line, false, .wd, t, tl', tt, t', u⟩, ⟨fun O h => ?_, ⟨hp, by dsimp only [List.length_nil]; omega, nofun, nofun, nofun, nofun⟩, Nat.lt_succ_self _⟩, ⟨rfl, rfl, rfl⟩, rfl⟩
        dsimp only at h ⊢
        rw [hs3] at h
        rw [h0]
        exact Run.wsE h
      refine Ex.iff (Tp.cmp (Ep.name rfl) (Ep.lx hs la_wordchars lo_wordchars) Cop.inC) (fun hC => ?_) (fun hC => ?_)
      · refine Ex.seta (Ep.name rfl) (Ep.name hs) ?_
        rintro v rfl
        refine Tr.sx D ⟨_, la_token, rfl⟩ lt_token (put_token _ _) ?_
        refine Ex.seta (Ep.strT s_a) (Ep.name hs) ?_
        rintro v ⟨u, rfl⟩
        refine Tr.sx D ⟨_, la_state, rfl⟩ lt_state (put_state _) ?_
        refine Ex.nil ⟨⟨pos + 1, .wd, [d], line, false, es, u, tl', t, t', tes⟩, ⟨fun O h => ?_, ⟨hp, by dsimp only [List.length_cons, List.length_nil]; omega, nofun, fun _ => .inl (by simp), nofun, nofun⟩, Nat.lt_succ_self _⟩, ⟨rfl, rfl, rfl⟩, rfl⟩
        dsimp only at h ⊢
        rw [hs3] at h
        rw [h0]
        exact Run.wsD hC h
      refine Ex.ifF (Tp.cmp (Ep.name rfl) (Ep.pch (by omega) (by omega) hs) Cop.inN) ?_
      refine Ex.iff (Tp.cmp (Ep.name rfl) (Ep.lx hs la_quotes lo_quotes) Cop.inQ) (fun hq => ?_) (fun hq => ?_)
      · refine Ex.ifF (Tp.not (Tp.val (Ep.lx hs la_posix lo_posix) Tv.bool)) ?_
        refine Ex.seta (Ep.name rfl) (Ep.name hs) ?_
        rintro v rfl
        refine Tr.sx D ⟨_, la_state, rfl⟩ lt_state (put_state _) ?_
        rcases isQ_cases hq with rfl | rfl
        · refine Ex.nil ⟨⟨pos + 1, .sq, [], line, false, es, t, tl', tt, t', tes⟩, ⟨fun O h => ?_, ⟨hp, by dsimp only [List.length_nil]; omega, nofun, nofun, nofun, nofun⟩, Nat.lt_succ_self _⟩, ⟨rfl, rfl, rfl⟩, rfl⟩
          dsimp only at h ⊢
          rw [hs3] at h
          rw [h0]
          exact Run.wsQ h
        · refine Ex.nil ⟨⟨pos + 1, .dq, [], line, false, es, t, tl', tt, t', tes⟩, ⟨fun O h => ?_, ⟨hp, by dsimp only [List.length_nil]; omega, nofun, nofun, nofun, nofun⟩, Nat.lt_succ_self _⟩, ⟨rfl, rfl, rfl⟩, rfl⟩
          dsimp only at h ⊢
          rw [hs3] at h
          rw [h0]
          exact Run.wsR h
      refine Ex.ifF (Tp.val (Ep.lx hs la_whitespace_split lo_whitespace_split) Tv.bool) ?_
      refine Ex.seta (Ep.name rfl) (Ep.name hs) ?_
      rintro v rfl
      refine Tr.sx D ⟨_, la_token, rfl⟩ lt_token (put_token _ _) ?_
      refine Ex.ifT (tp_tq (l := [d]) (q := false) hs rfl (by simp) rfl) ?_
      refine Ex.brk ⟨⟨pos + 1, .ws, [d], line, false, es, tst, tl', t, t', tes⟩, [], dn, ⟨?_, hp, ?_⟩, rfl, rfl, rfl⟩
      · dsimp only
        rw [h0, hs3]
        exact Run.wsP hw hc he hC hq
      · dsimp only [List.length_cons, List.length_nil]; omega
    | sq =>
      have h2 := hI.h2
      dsimp only at h2
      have hs : look ((Str.ofString "nextchar", .str (T [d]) t) :: rtPs P ⟨pos, .sq, tok, line, q, es, tst, tl, tt, t3, tes⟩) (Str.ofString "self") = some (.ref P.x) := rfl
      refine Ex.ifF (Tp.cmp (Ep.lx (v := .str (T [39]) tst) hs la_state lo_state) Ep.none Cop.isSN) ?_
      refine Ex.ifF (Tp.cmp (Ep.lx (v := .str (T [39]) tst) hs la_state lo_state) Ep.str (Cop.eqC (by decide +kernel))) ?_
      refine Ex.ifT (Tp.cmp (Ep.lx (v := .str (T [39]) tst) hs la_state lo_state) (Ep.lx hs la_quotes lo_quotes) Cop.inQ) ?_
      refine Ex.asp Ep.bool ?_
      rintro v rfl
      have hs : look ((Str.ofString "quoted", .bool true) :: (Str.ofString "nextchar", .str (T [d]) t) :: rtPs P ⟨pos, .sq, tok, line, q, es, tst, tl, tt, t3, tes⟩) (Str.ofString "self") = some (.ref P.x) := rfl
      refine Ex.ifF (Tp.not (Tp.val (Ep.name rfl) Tv.one)) ?_
      refine Ex.iff (Tp.cmp (Ep.name rfl) (Ep.lx (v := .str (T [39]) tst) hs la_state lo_state) Cop.eqdd) (fun hd => ?_) (fun hd => ?_)
      · obtain rfl := of_decide_eq_true hd
        refine Ex.ifF (Tp.not (Tp.val (Ep.lx hs la_posix lo_posix) Tv.bool)) ?_
        refine Ex.seta (Ep.strT s_a) (Ep.name hs) ?_
        rintro v ⟨u, rfl⟩
        refine Tr.sx D ⟨_, la_state, rfl⟩ lt_state (put_state _) ?_
        refine Ex.nil ⟨⟨pos + 1, .wd, tok, bump 39 line, true, es, u, tl', tt, t', tes⟩, ⟨fun O h => ?_, ⟨hp, by dsimp only; omega, nofun, fun _ => .inr rfl, nofun, nofun⟩, Nat.lt_succ_self _⟩, ⟨rfl, rfl, rfl⟩, rfl⟩
        dsimp only at h ⊢
        rw [hs3] at h
        rw [h0]
        exact Run.sqE h
      have hd' := of_decide_eq_false hd
      refine Ex.ifF (Tp.L (TL.andT (Tp.val (Ep.lx hs la_posix lo_posix) Tv.bool) (TL.and2F (Tp.cmp (Ep.name rfl) (Ep.lx hs la_escape lo_escape) Cop.inB) (Tp.cmp (Ep.lx (v := .str (T [39]) tst) hs la_state lo_state) (Ep.lx hs la_escapedquotes lo_escapedquotes) Cop.inD)))) ?_
      refine Ex.auga (Ep.name hs) (Tr.lx la_token lo_token) (Ep.name rfl) (by rintro v rfl; exact Tr.iadd (by simp only [List.length_cons, List.length_nil]; omega)) ?_
      rintro v ⟨u2, rfl⟩
      refine Tr.sx D ⟨_, la_token, rfl⟩ lt_token (put_token _ _) ?_
      refine Ex.nil ⟨⟨pos + 1, .sq, tok ++ [d], bump d line, true, es, tst, tl', u2, t', tes⟩, ⟨fun O h => ?_, ⟨hp, by simp only [List.length_append, List.length_cons, List.length_nil]; omega, nofun, nofun, nofun, nofun⟩, Nat.lt_succ_self _⟩, ⟨rfl, rfl, rfl⟩, rfl⟩
      dsimp only at h ⊢
      rw [hs3] at h
      rw [h0]
      exact Run.sqC rfl hd' h
    | dq =>
      have h2 := hI.h2
      dsimp only at h2
      have hs : look ((Str.ofString "nextchar", .str (T [d]) t) :: rtPs P ⟨pos, .dq, tok, line, q, es, tst, tl, tt, t3, tes⟩) (Str.ofString "self") = some (.ref P.x) := rfl
      refine Ex.ifF (Tp.cmp (Ep.lx (v := .str (T [34]) tst) hs la_state lo_state) Ep.none Cop.isSN) ?_
      refine Ex.ifF (Tp.cmp (Ep.lx (v := .str (T [34]) tst) hs la_state lo_state) Ep.str (Cop.eqC (by decide +kernel))) ?_
      refine Ex.ifT (Tp.cmp (Ep.lx (v := .str (T [34]) tst) hs la_state lo_state) (Ep.lx hs la_quotes lo_quotes) Cop.inQ) ?_
      refine Ex.asp Ep.bool ?_
      rintro v rfl
      have hs : look ((Str.ofString "quoted", .bool true) :: (Str.ofString "nextchar", .str (T [d]) t) :: rtPs P ⟨pos, .dq, tok, line, q, es, tst, tl, tt, t3, tes⟩) (Str.ofString "self") = some (.ref P.x) := rfl
      refine Ex.ifF (Tp.not (Tp.val (Ep.name rfl) Tv.one)) ?_
      refine Ex.iff (Tp.cmp (Ep.name rfl) (Ep.lx (v := .str (T [34]) tst) hs la_state lo_state) Cop.eqdd) (fun hd => ?_) (fun hd => ?_)
      · obtain rfl := of_decide_eq_true hd
        refine Ex.ifF (Tp.not (Tp.val (Ep.lx hs la_posix lo_posix) Tv.bool)) ?_
        refine Ex.seta (Ep.strT s_a) (Ep.name hs) ?_
        rintro v ⟨u, rfl⟩
        refine Tr.sx D ⟨_, la_state, rfl⟩ lt_state (put_state _) ?_
        refine Ex.nil ⟨⟨pos + 1, .wd, tok, bump 34 line, true, es, u, tl', tt, t', tes⟩, ⟨fun O h => ?_, ⟨hp, by dsimp only; omega, nofun, fun _ => .inr rfl, nofun, nofun⟩, Nat.lt_succ_self _⟩, ⟨rfl, rfl, rfl⟩, rfl⟩
        dsimp only at h ⊢
        rw [hs3] at h
        rw [h0]
        exact Run.dqE h
      have hd' := of_decide_eq_false hd
      refine Ex.iff (Tp.L (TL.andT (Tp.val (Ep.lx hs la_posix lo_posix) Tv.bool) (TL.and2T (Tp.cmp (Ep.name rfl) (Ep.lx hs la_escape lo_escape) Cop.inB) (Tp.cmp (Ep.lx (v := .str (T [34]) tst) hs la_state lo_state) (Ep.lx hs la_escapedquotes lo_escapedquotes) Cop.inD)))) (fun he => ?_) (fun he => ?_)
      · obtain rfl := eq_of_beq he
        refine Ex.asp (Ep.lx (v := .str (T [34]) tst) hs la_state lo_state) ?_
        rintro v rfl
        refine Ex.seta (Ep.name rfl) (Ep.name rfl) ?_
        rintro v rfl
        refine Tr.sx D ⟨_, la_state, rfl⟩ lt_state (put_state _) ?_
        refine Ex.nil ⟨⟨pos + 1, .esc, tok, bump 92 line, true, .dq, t, tl', tt, t', tst⟩, ⟨fun O h => ?_, ⟨hp, by dsimp only; omega, nofun, nofun, nofun, nofun⟩, Nat.lt_succ_self _⟩, ⟨rfl, rfl, rfl⟩, rfl⟩
        dsimp only at h ⊢
        rw [hs3] at h
        rw [h0]
        exact Run.dqX h
      refine Ex.auga (Ep.name hs) (Tr.lx la_token lo_token) (Ep.name rfl) (by rintro v rfl; exact Tr.iadd (by simp only [List.length_cons, List.length_nil]; omega)) ?_
      rintro v ⟨u2, rfl⟩
      refine Tr.sx D ⟨_, la_token, rfl⟩ lt_token (put_token _ _) ?_
      refine Ex.nil ⟨⟨pos + 1, .dq, tok ++ [d], bump d line, true, es, tst, tl', u2, t', tes⟩, ⟨fun O h => ?_, ⟨hp, by simp only [List.length_append, List.length_cons, List.length_nil]; omega, nofun, nofun, nofun, nofun⟩, Nat.lt_succ_self _⟩, ⟨rfl, rfl, rfl⟩, rfl⟩
      dsimp only at h ⊢
      rw [hs3] at h
      rw [h0]
      exact Run.dqC rfl hd' he h
    | esc =>
      have h2 := hI.h2
      dsimp only at h2
      cases es with
      | sp => exact absurd (hI.h5 rfl rfl) (by dsimp only; omega)
      | wd =>
        have hs : look ((Str.ofString "nextchar", .str (T [d]) t) :: rtPs P ⟨pos, .esc, tok, line, q, .wd, tst, tl, tt, t3, tes⟩) (Str.ofString "self") = some (.ref P.x) := rfl
        refine Ex.ifF (Tp.cmp (Ep.lx (v := .str (T [92]) tst) hs la_state lo_state) Ep.none Cop.isSN) ?_
        refine Ex.ifF (Tp.cmp (Ep.lx (v := .str (T [92]) tst) hs la_state lo_state) Ep.str (Cop.eqC (by decide +kernel))) ?_
        refine Ex.ifF (Tp.cmp (Ep.lx (v := .str (T [92]) tst) hs la_state lo_state) (Ep.lx hs la_quotes lo_quotes) Cop.inQ) ?_
        refine Ex.ifT (Tp.cmp (Ep.lx (v := .str (T [92]) tst) hs la_state lo_state) (Ep.lx hs la_escape lo_escape) Cop.inB) ?_
        refine Ex.ifF (Tp.not (Tp.val (Ep.name rfl) Tv.one)) ?_
        refine Ex.ifF (Tp.L (TL.andF (Tp.cmp (Ep.name (v := .str (T [97]) tes) rfl) (Ep.lx hs la_quotes lo_quotes) Cop.inQ))) ?_
        refine Ex.auga (Ep.name hs) (Tr.lx la_token lo_token) (Ep.name rfl) (by rintro v rfl; exact Tr.iadd (by simp only [List.length_append, List.length_cons, List.length_nil]; omega)) ?_
        rintro v ⟨u2, rfl⟩
        refine Tr.sx D ⟨_, la_token, rfl⟩ lt_token (put_token _ _) ?_
        refine Ex.seta (Ep.name rfl) (Ep.name hs) ?_
        rintro v rfl
        refine Tr.sx D ⟨_, la_state, rfl⟩ lt_state (put_state _) ?_
        refine Ex.nil ⟨⟨pos + 1, .wd, tok ++ [d], bump d line, q, .wd, tes, tl', u2, t', tes⟩, ⟨fun O h => ?_, ⟨hp, by simp only [List.length_append, List.length_cons, List.length_nil]; omega, nofun, fun _ => .inl (by simp), nofun, nofun⟩, Nat.lt_succ_self _⟩, ⟨rfl, rfl, rfl⟩, rfl⟩
        dsimp only at h ⊢
        rw [hs3] at h
        rw [h0]
        exact Run.escC rfl (fun z => nomatch z) h
      | dq =>
        have hs : look ((Str.ofString "nextchar", .str (T [d]) t) :: rtPs P ⟨pos, .esc, tok, line, q, .dq, tst, tl, tt, t3, tes⟩) (Str.ofString "self") = some (.ref P.x) := rfl
        refine Ex.ifF (Tp.cmp (Ep.lx (v := .str (T [92]) tst) hs la_state lo_state) Ep.none Cop.isSN) ?_
        refine Ex.ifF (Tp.cmp (Ep.lx (v := .str (T [92]) tst) hs la_state lo_state) Ep.str (Cop.eqC (by decide +kernel))) ?_
        refine Ex.ifF (Tp.cmp (Ep.lx (v := .str (T [92]) tst) hs la_state lo_state) (Ep.lx hs la_quotes lo_quotes) Cop.inQ) ?_
        refine Ex.ifT (Tp.cmp (Ep.lx (v := .str (T [92]) tst) hs la_state lo_state) (Ep.lx hs la_escape lo_escape) Cop.inB) ?_
        refine Ex.ifF (Tp.not (Tp.val (Ep.name rfl) Tv.one)) ?_
        refine Ex.iff (Tp.L (TL.andT (Tp.cmp (Ep.name (v := .str (T [34]) tes) rfl) (Ep.lx hs la_quotes lo_quotes) Cop.inQ) (TL.andB (Tp.cmp (Ep.name rfl) (Ep.lx (v := .str (T [92]) tst) hs la_state lo_state) Cop.nedd) (TL.and1 (Tp.cmp (Ep.name rfl) (Ep.name (v := .str (T [34]) tes) rfl) Cop.nedd))))) (fun hd => ?_) (fun hd => ?_)
        · simp only [Bool.and_eq_true, Bool.not_eq_true', decide_eq_false_iff_not] at hd
          refine Ex.auga (Ep.name hs) (Tr.lx la_token lo_token) (Ep.lx (v := .str (T [92]) tst) hs la_state lo_state) (by rintro v rfl; exact Tr.iadd (by simp only [List.length_cons, List.length_nil]; omega)) ?_
          rintro v ⟨u, rfl⟩
          refine Tr.sx D ⟨_, la_token, rfl⟩ lt_token (put_token _ _) ?_
          refine Ex.auga (Ep.name hs) (Tr.lx la_token lo_token) (Ep.name rfl) (by rintro v rfl; exact Tr.iadd (by simp only [List.length_append, List.length_cons, List.length_nil]; omega)) ?_
          rintro v ⟨u2, rfl⟩
          refine Tr.sx D ⟨_, la_token, rfl⟩ lt_token (put_token _ _) ?_
          refine Ex.seta (Ep.name rfl) (Ep.name hs) ?_
          rintro v rfl
          refine Tr.sx D ⟨_, la_state, rfl⟩ lt_state (put_state _) ?_
          refine Ex.nil ⟨⟨pos + 1, .dq, tok ++ [92] ++ [d], bump d line, q, .dq, tes, tl', u2, t', tes⟩, ⟨fun O h => ?_, ⟨hp, by simp only [List.length_append, List.length_cons, List.length_nil]; omega, nofun, nofun, nofun, nofun⟩, Nat.lt_succ_self _⟩, ⟨rfl, rfl, rfl⟩, rfl⟩
          dsimp only at h ⊢
          rw [hs3] at h
          rw [h0]
          exact Run.escB rfl hd.1 hd.2 h
        · have hd' : d = 92 ∨ d = 34 := by
            by_cases z : d = 92
            · exact .inl z
            · by_cases z2 : d = 34
              · exact .inr z2
              · simp [z, z2] at hd
          refine Ex.auga (Ep.name hs) (Tr.lx la_token lo_token) (Ep.name rfl) (by rintro v rfl; exact Tr.iadd (by simp only [List.length_append, List.length_cons, List.length_nil]; omega)) ?_
          rintro v ⟨u2, rfl⟩
          refine Tr.sx D ⟨_, la_token, rfl⟩ lt_token (put_token _ _) ?_
          refine Ex.seta (Ep.name rfl) (Ep.name hs) ?_
          rintro v rfl
          refine Tr.sx D ⟨_, la_state, rfl⟩ lt_state (put_state _) ?_
          refine Ex.nil ⟨⟨pos + 1, .dq, tok ++ [d], bump d line, q, .dq, tes, tl', u2, t', tes⟩, ⟨fun O h => ?_, ⟨hp, by simp only [List.length_append, List.length_cons, List.length_nil]; omega, nofun, nofun, nofun, nofun⟩, Nat.lt_succ_self _⟩, ⟨rfl, rfl, rfl⟩, rfl⟩
          dsimp only at h ⊢
          rw [hs3] at h
          rw [h0]
          exact Run.escC rfl (fun _ => hd') h
    | wd =>
      have h2 := hI.h2
      dsimp only at h2
      have h4 : tok ≠ [] ∨ q = true := hI.h4 rfl
      have hs : look ((Str.ofString "nextchar", .str (T [d]) t) :: rtPs P ⟨pos, .wd, tok, line, q, es, tst, tl, tt, t3, tes⟩) (Str.ofString "self") = some (.ref P.x) := rfl
      refine Ex.ifF (Tp.cmp (Ep.lx (v := .str (T [97]) tst) hs la_state lo_state) Ep.none Cop.isSN) ?_
      refine Ex.ifF (Tp.cmp (Ep.lx (v := .str (T [97]) tst) hs la_state lo_state) Ep.str (Cop.eqC (by decide +kernel))) ?_
      refine Ex.ifF (Tp.cmp (Ep.lx (v := .str (T [97]) tst) hs la_state lo_state) (Ep.lx hs la_quotes lo_quotes) Cop.inQ) ?_
      refine Ex.ifF (Tp.cmp (Ep.lx (v := .str (T [97]) tst) hs la_state lo_state) (Ep.lx hs la_escape lo_escape) Cop.inB) ?_
      refine Ex.ifT (Tp.in2 (Ep.lx (v := .str (T [97]) tst) hs la_state lo_state) (by decide +kernel)) ?_
      refine Ex.ifF (Tp.not (Tp.val (Ep.name rfl) Tv.one)) ?_
      refine Ex.iff (Tp.cmp (Ep.name rfl) (Ep.lx hs la_whitespace lo_whitespace) Cop.inW) (fun hw => ?_) (fun hw => ?_)
      · refine Ex.ifF (Tp.cmp (Ep.lx hs la_debug lo_debug) Ep.int (Cop.geI rfl)) ?_
        refine Ex.seta (Ep.strT s_sp) (Ep.name hs) ?_
        rintro v ⟨u, rfl⟩
        refine Tr.sx D ⟨_, la_state, rfl⟩ lt_state (put_state _) ?_
        refine Ex.ifT (tp_tqT (l := tok) (q := q) hs rfl (by omega) rfl h4) ?_
        refine Ex.brk ⟨⟨pos + 1, .ws, tok, bump d line, q, es, u, tl', tt, t', tes⟩, [], dn, ⟨?_, hp, ?_⟩, rfl, rfl, rfl⟩
        · dsimp only
          rw [h0, hs3]
          exact Run.wdW rfl hw
        · dsimp only; omega
      have hb : bump d line = line := bump_W hw
      rw [hb]
      refine Ex.iff (Tp.cmp (Ep.name rfl) (Ep.lx hs la_commenters lo_commenters) Cop.inH) (fun hc => ?_) (fun hc => ?_)
      · obtain rfl := eq_of_beq hc
        refine Ex.exp (Ev.rl D h5 h6 hp hlen hs fun v t2 => ?_)
        refine Ex.auga (Ep.name hs) (Tr.lx la_lineno lo_lineno) Ep.int (by rintro v ⟨u, rfl⟩; exact Tr.iaddI) ?_
        rintro v ⟨u, rfl⟩
        refine Tr.sx D ⟨_, la_lineno, rfl⟩ lt_lineno (put_lineno _ _) ?_
        refine Ex.ifT (Tp.val (Ep.lx hs la_posix lo_posix) Tv.bool) ?_
        refine Ex.seta (Ep.strT s_sp) (Ep.name hs) ?_
        rintro v ⟨u2, rfl⟩
        refine Tr.sx D ⟨_, la_state, rfl⟩ lt_state (put_state _) ?_
        refine Ex.ifT (tp_tqT (l := tok) (q := q) hs rfl (by omega) rfl h4) ?_
        have hda := drop_aft (r := P.r) (p := pos + 1)
        refine Ex.brk ⟨⟨P.r.length - (aft (P.r.drop (pos + 1))).length, .ws, tok, line + 1, q, es, u2, u, tt, t2, tes⟩, [], dn, ⟨?_, Nat.sub_le _ _, ?_⟩, rfl, rfl, rfl⟩
        · dsimp only
          rw [hda, h0, hs3]
          exact Run.wdC
        · dsimp only; omega
      refine Ex.ifF (Tp.cmp (Ep.lx (v := .str (T [97]) tst) hs la_state lo_state) Ep.str (Cop.eqC (by decide +kernel))) ?_
      refine Ex.iff (Tp.L (TL.andT (Tp.val (Ep.lx hs la_posix lo_posix) Tv.bool) (TL.and1 (Tp.cmp (Ep.name rfl) (Ep.lx hs la_quotes lo_quotes) Cop.inQ)))) (fun hq => ?_) (fun hq => ?_)
      · refine Ex.seta (Ep.name rfl) (Ep.name hs) ?_
        rintro v rfl
        refine Tr.sx D ⟨_, la_state, rfl⟩ lt_state (put_state _) ?_
        rcases isQ_cases hq with rfl | rfl
        · refine Ex.nil ⟨⟨pos + 1, .sq, tok, line, q, es, t, tl', tt, t', tes⟩, ⟨fun O h => ?_, ⟨hp, by dsimp only; omega, nofun, nofun, nofun, nofun⟩, Nat.lt_succ_self _⟩, ⟨rfl, rfl, rfl⟩, rfl⟩
          dsimp only at h ⊢
          rw [hs3] at h
          rw [h0]
          exact Run.wdQ h
        · refine Ex.nil ⟨⟨pos + 1, .dq, tok, line, q, es, t, tl', tt, t', tes⟩, ⟨fun O h => ?_, ⟨hp, by dsimp only; omega, nofun, nofun, nofun, nofun⟩, Nat.lt_succ_self _⟩, ⟨rfl, rfl, rfl⟩, rfl⟩
          dsimp only at h ⊢
          rw [hs3] at h
          rw [h0]
          exact Run.wdR h
      refine Ex.iff (Tp.L (TL.andT (Tp.val (Ep.lx hs la_posix lo_posix) Tv.bool) (TL.and1 (Tp.cmp (Ep.name rfl) (Ep.lx hs la_escape lo_escape) Cop.inB)))) (fun he => ?_) (fun he => ?_)
      · obtain rfl := eq_of_beq he
        refine Ex.asp (Ep.strT s_a) ?_
        rintro v ⟨u, rfl⟩
        refine Ex.seta (Ep.name rfl) (Ep.name rfl) ?_
        rintro v rfl
        refine Tr.sx D ⟨_, la_state, rfl⟩ lt_state (put_state _) ?_
        refine Ex.nil ⟨⟨pos + 1, .esc, tok, line, q, .wd, t, tl', tt, t', u⟩, ⟨fun O h => ?_, ⟨hp, by dsimp only; omega, nofun, nofun, nofun, nofun⟩, Nat.lt_succ_self _⟩, ⟨rfl, rfl, rfl⟩, rfl⟩
        dsimp only at h ⊢
        rw [hs3] at h
        rw [h0]
        exact Run.wdE h
      refine Ex.iff (Tp.L (TL.orB (Tp.cmp (Ep.name rfl) (Ep.lx hs la_wordchars lo_wordchars) Cop.inC) (TL.orB (Tp.cmp (Ep.name rfl) (Ep.lx hs la_quotes lo_quotes) Cop.inQ) (TL.or1 (Tp.L (TL.andF (Tp.val (Ep.lx hs la_whitespace_split lo_whitespace_split) Tv.bool))))))) (fun hC => ?_) (fun hC => ?_)
      · have hC' : isC d = true := by simpa [show isQ d = false from hq] using hC
        refine Ex.auga (Ep.name hs) (Tr.lx la_token lo_token) (Ep.name rfl) (by rintro v rfl; exact Tr.iadd (by simp only [List.length_cons, List.length_nil]; omega)) ?_
        rintro v ⟨u2, rfl⟩
        refine Tr.sx D ⟨_, la_token, rfl⟩ lt_token (put_token _ _) ?_
        refine Ex.nil ⟨⟨pos + 1, .wd, tok ++ [d], line, q, es, tst, tl', u2, t', tes⟩, ⟨fun O h => ?_, ⟨hp, by simp only [List.length_append, List.length_cons, List.length_nil]; omega, nofun, fun _ => .inl (by simp), nofun, nofun⟩, Nat.lt_succ_self _⟩, ⟨rfl, rfl, rfl⟩, rfl⟩
        dsimp only at h ⊢
        rw [hs3] at h
        rw [h0]
        exact Run.wdD hC' h
      have hC' : isC d = false := by cases z : isC d with | false => rfl | true => simp [z] at hC
      refine Ex.ifF (Tp.val (Ep.pch (by omega) (by omega) hs) Tv.emp) ?_
      refine Ex.exp (Ev.apl D (by decide) hs rfl ?_)
      refine Ex.ifF (Tp.cmp (Ep.lx hs la_debug lo_debug) Ep.int (Cop.geI rfl)) ?_
      refine Ex.seta (Ep.strT s_sp) (Ep.name hs) ?_
      rintro v ⟨u, rfl⟩
      refine Tr.sx D ⟨_, la_state, rfl⟩ lt_state (put_state _) ?_
      refine Ex.ifT (tp_tqT (l := tok) (l2 := [.str (T [d]) t]) (q := q) hs rfl (by omega) rfl h4) ?_
      refine Ex.brk ⟨⟨pos + 1, .ws, tok, line, q, es, u, tl', tt, t', tes⟩, [(d, t)], dn + 1, ⟨?_, hp, ?_⟩, rfl, rfl, rfl⟩
      · dsimp only
        rw [h0, hs3]
        exact Run.wdP hw hc he hC' hq
      · dsimp only; omega
end
end Mine

end
section
open Mine
namespace Mine
theorem rt_body {y : Fx} {P : LP} {news : Led} (D : RtD P news) {pos : Nat} {t3 tst tl tt : Tok} {st : St} {line : Int} {tok : List Nat} {dn : Int} (h5 : 9 ≤ y.c) (h6 : 70 ≤ y.u)
    (hp : pos ≤ P.r.length ∧ P.r.length < 10000 ∧ tok.length + 2 * (P.r.length - pos) < 60000 ∧ (st = .ws → tok = []) ∧ st ≠ .wd ∧ (st = .esc → P.r.length ≤ pos) ∧ (st = .fin → P.r.length ≤ pos)) :
    Ex y rtF [(Str.ofString "self", .ref P.x)] (rtN P ⟨st.val tst, line, tl, T tok, tt⟩ pos t3 dn [] news) (fb o711.1)
      (fun fl _ n' => ∃ (c : LC) (push : List (Nat × Tok)) (dn' : Int) (tv : Tok), Run (P.r.drop pos) st tok line false .sp (.done (P.r.drop c.pos) c.st c.tok c.line c.q (push.map Prod.fst)) ∧ c.pos ≤ P.r.length ∧ retv fl = (if c.q = false ∧ c.tok = [] then .none else .str (T c.tok) tv) ∧
        n' = rtN P ⟨c.st.val c.tst, c.line, c.tl, T [], c.tt⟩ c.pos c.t3 dn' (pushV push) news)
      (fun es n' => ∃ (k : Bool) (c : LC) (tm : Tok), Run (P.r.drop pos) st tok line false .sp (.bad k c.st c.tok c.line) ∧ c.pos = P.r.length ∧ es = [.str (Str.ofString (if k then "No escaped character" else "No closing quotation")) tm] ∧ n' = rtN P (lvOf c) c.pos c.t3 dn [] news) := by
  obtain ⟨hpos, hlen, htok, hws, hwd, hesc, hfin⟩ := hp
  refine Ex.asp Ep.bool ?_
  rintro v rfl
  refine Ex.asp (Ep.strT s_sp) ?_
  rintro v ⟨u, rfl⟩
  refine Ex.whl (rtPs P) (fun c => rtN P (lvOf c) c.pos c.t3 dn [] news) (fun c => RtI P.r c ∧ (∀ O, Run (P.r.drop c.pos) c.st c.tok c.line c.q c.es O → Run (P.r.drop pos) st tok line false .sp O)) (fun c => P.r.length - c.pos) ⟨pos, st, tok, line, false, .sp, tst, tl, tt, t3, u⟩
    (List.forall_mem_cons.mpr ⟨rfl, List.forall_mem_cons.mpr ⟨rfl, List.forall_mem_cons.mpr ⟨rfl, List.forall_mem_nil _⟩⟩⟩) (fun q hq => hq) ⟨⟨hpos, htok, fun h => ⟨hws h, rfl⟩, fun h => absurd h hwd, fun h _ => hesc h, hfin⟩, fun O h => h⟩ ?_
  rintro c ⟨hI, hO⟩
  refine (Tp.val Ep.bool Tv.bool).go ?_
  refine (if_pos rfl).mpr ?_
  refine Tr.mono (rt_turn D hI (by omega) (by omega) hlen) (fun fl m' n' h => ?_) (fun es n' h => ?_)
  · cases fl with
    | ret v => exact h.elim
    | next =>
      obtain ⟨c', ⟨h1, h2, h3⟩, ⟨k1, k2, k3⟩, rfl⟩ := h
      exact ⟨c', ⟨h2, fun O h => hO O (h1 O h)⟩, by have := h2.h1; dsimp only; omega, List.forall_mem_cons.mpr ⟨k1, List.forall_mem_cons.mpr ⟨k2, List.forall_mem_cons.mpr ⟨k3, List.forall_mem_nil _⟩⟩⟩, fun q hq => hq⟩
    | cont =>
      obtain ⟨c', ⟨h1, h2, h3⟩, ⟨k1, k2, k3⟩, rfl⟩ := h
      exact ⟨c', ⟨h2, fun O h => hO O (h1 O h)⟩, by have := h2.h1; dsimp only; omega, List.forall_mem_cons.mpr ⟨k1, List.forall_mem_cons.mpr ⟨k2, List.forall_mem_cons.mpr ⟨k3, List.forall_mem_nil _⟩⟩⟩, fun q hq => hq⟩
    | brk =>
      obtain ⟨c', push, dn', ⟨h1, h2, h3⟩, k1, k2, rfl⟩ := h
      have hR := hO _ h1
      refine Ex.asp (Ep.lx k1 la_token lo_token) ?_
      rintro v rfl
      refine Ex.seta (Ep.strT s_em) (Ep.name k1) ?_
      rintro v ⟨u2, rfl⟩
      refine Tr.sx D ⟨_, la_token, rfl⟩ lt_token (put_token _ _) ?_
      refine Ex.iff (Tp.L (TL.andT (Tp.val (Ep.lx k1 la_posix lo_posix) Tv.bool) (TL.andB (Tp.not (Tp.val (Ep.name (v := .bool c'.q) k2) Tv.bool)) (TL.and1 (Tp.cmp (Ep.name (v := .str (T c'.tok) c'.tt) rfl) Ep.str Cop.emp))))) (fun hz => ?_) (fun hz => ?_)
      · have hz' : c'.q = false ∧ c'.tok = [] := by simpa using hz
        refine Ex.asp Ep.none ?_
        rintro v rfl
        refine Ex.ifF (Tp.cmp (Ep.lx k1 la_debug lo_debug) Ep.int (Cop.gtI rfl)) ?_
        refine Ex.ret ((Ep.name (v := .none) rfl).go fun v hv => ⟨⟨c'.pos, c'.st, c'.tok, c'.line, c'.q, c'.es, c'.tst, c'.tl, u2, c'.t3, c'.tes⟩, push, dn', 0, hR, h2, ?_, rfl⟩)
        subst hv
        exact (if_pos hz').symm
      · have hz' : ¬ (c'.q = false ∧ c'.tok = []) := fun z => by simp [z] at hz
        refine Ex.ifF (Tp.cmp (Ep.lx k1 la_debug lo_debug) Ep.int (Cop.gtI rfl)) ?_
        refine Ex.ret ((Ep.name (v := .str (T c'.tok) c'.tt) rfl).go fun v hv => ⟨⟨c'.pos, c'.st, c'.tok, c'.line, c'.q, c'.es, c'.tst, c'.tl, u2, c'.t3, c'.tes⟩, push, dn', c'.tt, hR, h2, ?_, rfl⟩)
        subst hv
        exact (if_neg hz').symm
  · obtain ⟨k, c', tm, h1, h2, rfl, rfl⟩ := h
    exact ⟨k, c', tm, hO _ h1, h2, rfl, rfl⟩
theorem rt_spec {w : World} (news : List (Addr × Obj)) (x ld sio sd pb fs : Addr) (rd : Value) (hs ts hs2 ts2 tc) (r : List Nat) (pos : Nat) (t1 t2 t3 tst tl tt : Tok) (st : St) (line : Int) (tok : List Nat) (dn : Int)
  (hne : ∀ q ∈ news, q.1 ≠ sd) (hne2 : ∀ q ∈ news, q.1 ≠ ld) (hne3 : ∀ q ∈ news, q.1 ≠ pb) (n1 : @LT.lt Nat _ ld x) (n2 : @LT.lt Nat _ x sd) (n3 : @LT.lt Nat _ sd sio) (n4 : @LT.lt Nat _ sio pb) :
  Con 2 w 711 ((x, instObj 743 ld) :: (ld, lexD hs ts sio pb fs rd tc (st.val tst) line tl (T tok) tt) :: (sio, instObj 608 sd) :: (sd, sioD hs2 ts2 (T r) pos t1 t2 t3) :: (pb, dqO dn []) :: news)
    (pos ≤ r.length ∧ r.length < 10000 ∧ tok.length + 2 * (r.length - pos) < 60000 ∧ (st = .ws → tok = []) ∧ st ≠ .wd ∧ (st = .esc → r.length ≤ pos) ∧ (st = .fin → r.length ≤ pos)) [.ref x]
    (fun v n' => ∃ (c : LC) (push : List (Nat × Tok)) (dn' : Int) (tv : Tok), Run (r.drop pos) st tok line false .sp (.done (r.drop c.pos) c.st c.tok c.line c.q (push.map Prod.fst)) ∧ c.pos ≤ r.length ∧ v = (if c.q = false ∧ c.tok = [] then .none else .str (T c.tok) tv) ∧
      n' = (x, instObj 743 ld) :: (ld, lexD hs ts sio pb fs rd tc (c.st.val c.tst) c.line c.tl (T []) c.tt) :: (sio, instObj 608 sd) :: (sd, sioD hs2 ts2 (T r) c.pos t1 t2 c.t3) :: (pb, dqO dn' (pushV push)) :: news)
    (fun es n' => ∃ (k : Bool) (c : LC) (tm : Tok), Run (r.drop pos) st tok line false .sp (.bad k c.st c.tok c.line) ∧ c.pos = r.length ∧ es = [.str (Str.ofString (if k then "No escaped character" else "No closing quotation")) tm] ∧
      n' = (x, instObj 743 ld) :: (ld, lexD hs ts sio pb fs rd tc (c.st.val c.tst) c.line c.tl (T c.tok) c.tt) :: (sio, instObj 608 sd) :: (sd, sioD hs2 ts2 (T r) c.pos t1 t2 c.t3) :: (pb, dqO dn []) :: news) := by
  refine' Con.of (binds := [(Str.ofString "self", .ref x)]) ?a ?b ?c ?d ?e ?h ?i ?j ?k ?l
  case a => k_is
  case b => k_is
  case c => exact fun s X => BindsTo.of_eq rfl
  case d => exact locs rfl
  case e => decide
  case i => exact rfl
  case j => exact rfl
  case k => exact rfl
  case l => decide
  intro hp y hw hc hu hcl
  exact rt_body (P := ⟨x, ld, sio, sd, pb, fs, rd, hs, ts, hs2, ts2, tc, r, t1, t2⟩) ⟨n1, n2, n3, n4, hne, hne2, hne3⟩ (by omega) (by omega) hp
end Mine

end
section
open Mine
theorem Mine.pre_Gt : PySem.Challenge.rw_in0151_01 = PySem.Challenge.rw_in0151_01 ∧ Mine.KK = Mine.KK := by
  k_with_none
  k_fill
  k_with "om" => (first | with_reducible assumption | exact Nat.le_of_ble_eq_true rfl | with_reducible exact Nat.ne_of_lt (by assumption) | with_reducible exact Nat.ne_of_gt (by assumption) | with_reducible exact Nat.le_of_lt (by assumption) | with_reducible exact Nat.le_refl _ | with_reducible exact Nat.le_add_right _ _ | with_reducible exact Nat.lt_add_one _ | with_reducible exact Nat.succ_le_of_lt (by assumption) | with_reducible exact Nat.lt_of_succ_le (by assumption) | with_reducible exact Int.ofNat_lt.mpr (by assumption) | with_reducible exact Int.natCast_nonneg _ | with_reducible exact Mine.o_n (by assumption) | with_reducible exact Mine.o_l (by assumption) | with_reducible exact Mine.o_i (by assumption) (by assumption) | with_reducible exact Mine.o_k (by assumption) (by assumption) | with_reducible exact Mine.o_m (by assumption) (by assumption) | with_reducible exact Mine.o_w (by assumption) | with_reducible exact Mine.o_v (by assumption) (by assumption) (by assumption) | with_reducible exact Mine.o_s (by assumption) | with_reducible exact Mine.o_t (by assumption) | with_reducible exact Mine.o_17 (by assumption) | with_reducible exact Mine.o_y (by assumption) (by assumption) | with_reducible exact Mine.o_z (by assumption) (by assumption) | with_reducible exact Mine.o_y2 (by assumption) (by assumption) | exact Mine.o_a (a := 10000) (by with_reducible assumption) rfl | exact Mine.o_a (a := 9000) (by with_reducible assumption) rfl | exact Mine.o_a (a := 256) (by with_reducible assumption) rfl | exact Mine.o_a (a := 300) (by with_reducible assumption) rfl | exact Mine.o_a (by with_reducible assumption) rfl | exact Mine.o_b (a := 10000) (by with_reducible assumption) rfl | exact Mine.o_b (a := 9000) (by with_reducible assumption) rfl | exact Mine.o_b (a := 256) (by with_reducible assumption) rfl | exact Mine.o_b (by with_reducible assumption) rfl | exact Mine.o_c (by with_reducible assumption) rfl | exact Mine.o_d (by with_reducible assumption) rfl | exact Mine.o_e (by with_reducible assumption) rfl | exact Mine.o_f (by with_reducible assumption) rfl | exact Mine.o_g (by with_reducible assumption) rfl | exact Mine.o_h (by with_reducible assumption) rfl | exact Mine.o_1 (by with_reducible assumption) rfl | exact Mine.o_2 (by with_reducible assumption) rfl | exact Mine.o_3 (by with_reducible assumption) rfl | exact Mine.o_4 (by with_reducible assumption) rfl | with_reducible exact Mine.o_5 (by assumption) | exact Mine.o_6 (by with_reducible assumption) rfl | exact Mine.o_7 (by with_reducible assumption) rfl | exact Mine.o_12 (by with_reducible assumption) (by with_reducible assumption) rfl | exact Mine.o_13 (by with_reducible assumption) (by with_reducible assumption) rfl | exact Mine.o_14 (by with_reducible assumption) (by with_reducible assumption) rfl | exact Mine.o_15 (by with_reducible assumption) (by with_reducible assumption) rfl | with_reducible exact Mine.o_18 (by assumption) (by assumption) | with_reducible exact Mine.o_11 (by assumption) (by assumption) | with_reducible exact Mine.o_x (by assumption) (by assumption) | with_reducible exact Nat.ne_of_lt (Nat.lt_trans (by assumption) (by assumption)) | with_reducible exact Nat.ne_of_gt (Nat.lt_trans (by assumption) (by assumption)) | with_reducible exact Mine.o_r (by assumption) (by assumption) | with_reducible exact Mine.o_o (by assumption) (by assumption) | with_reducible exact Mine.o_p (by assumption) (by assumption) | with_reducible exact Mine.o_q (by assumption) (by assumption) | with_reducible exact Mine.o_u (by assumption) (by assumption) | with_reducible exact Mine.o_j (by assumption) (by assumption) | with_reducible exact Mine.o_20 (by assumption) | with_reducible exact Mine.o_21 (by assumption) | with_reducible exact Mine.o_22 (by assumption) | with_reducible exact Mine.o_23 (by assumption) | with_reducible exact Mine.o_24 (by assumption) | with_reducible exact Mine.o_28 (by assumption) | with_reducible exact Mine.o_29 (by assumption) | with_reducible exact Mine.o_31 (by assumption) | with_reducible exact Mine.o_25 (by assumption) (by assumption) (by assumption) | with_reducible exact Mine.o_26 (by assumption) (by assumption) (by assumption) | with_reducible exact Mine.o_27 (by assumption) (by assumption) | with_reducible exact Mine.o_30 (by assumption) (by assumption) | exact Mine.o_19 (by with_reducible assumption) (by with_reducible assumption) rfl | fail "om")
  k_with "my enter" => (refine' code_def ?k1_z ?k2_z ?k3_z ?k4_z ?k5_z ?kA_z ?kF_z ?kK_z ?k6_z ?k7_z ?k8_z ?k9_z ?kB_z ?_ ?c2_z ?c3_z ?c4_z ?c5_z; (case kA_z => exact rfl); (case kF_z => exact rfl); (case kK_z => first | exact rfl | assumption); (case k1_z => k_asm); (case k2_z => k_asm); (case k3_z => k_asm); (case k4_z => k_asm); (case k5_z => k_asm); (case k6_z => k_is); (case k7_z => k_is); (case k8_z => ktr_room); (case k9_z => first | exact BindsTo.of_eq rfl | exact binds_K (by k_in) rfl (by k_is) rfl rfl rfl); (case c5_z => decide); (case kB_z => exact locs rfl); (case c2_z => exact rfl); (case c3_z => exact rfl); (case c4_z => exact rfl); k_whole; intro G LL h1 FG F1 N1 B1 X1 T1; (try dsimp only); (try k_lift B1); (try k_fold))
  k_with "call builtin:str.find" => (refine Mine.find4 (by first | rfl | omega) ?_)
  k_with "truthy str" => ((with_reducible show wpAny _ _ (PySem.truthy (Value.str (Str.mk (List.toArray _)) _)) _ _ _); (refine Mine.truthy_T (by first | assumption | omega) ?_); intro _)
  k_with "truthy str" => ((with_reducible show wpAny _ _ (PySem.truthy (Value.str (Str.mk (List.toArray [_])) _)) _ _ _); (refine Mine.truthy_one ?_); intro _)
  k_with "compareOp In str str" => ((with_reducible show wpAny _ _ (compareOp CmpOp.In (Value.str (Str.mk (List.toArray [_])) _) _) _ _ _); first | refine Mine.in_ws ?_ | refine Mine.in_cm ?_ | refine Mine.in_es ?_ | refine Mine.in_dt ?_ | refine Mine.in_wc ?_ | refine Mine.in_none ?_ | refine Mine.in_qs ?_)
  k_with "inplaceOp Add str str" => ((with_reducible show wpAny _ _ (inplaceOp _ (Value.str (Str.mk (List.toArray _)) _) (Value.str (Str.mk (List.toArray _)) _)) _ _ _); (refine Mine.iadd_T (by first | omega | (simp only [List.length_append, List.length_cons, List.length_nil] at *; omega)) ?_); intro _ _)
  k_with "compareOp Eq str str" => ((with_reducible show wpAny _ _ (compareOp CmpOp.Eq (Value.str (Str.mk (List.toArray [_])) _) _) _ _ _); ((with_reducible first | refine Mine.eq_nl ?_ ?_ | refine Mine.eq_sp ?_ ?_ | refine Mine.eq_lc ?_ ?_ | refine Mine.eq_hs ?_ ?_ | refine Mine.eq_dq ?_ ?_ | refine Mine.eq_bs ?_ ?_ | refine Mine.eq_dd ?_ ?_) <;> (intro hspz; first | (exfalso; revert hspz; decide) | (subst hspz) | skip)))
  k_with "compareOp NotEq str str" => ((with_reducible show wpAny _ _ (compareOp CmpOp.NotEq (Value.str (Str.mk (List.toArray [_])) _) _) _ _ _); ((with_reducible refine Mine.ne_dd ?_ ?_) <;> (intro hspz; first | (exfalso; revert hspz; decide) | (subst hspz) | skip)))
  k_with "exec If" => refine wpAny_If ?_
  k_with "call type:ValueError" => (k_dflt (refine Mine.raise_VE ?_); intro h'z ez hmxz)
  k_with "leaving ref" => (k_dflt (refine' leave_raiseS ?k1_z (Heap.MadeExc.of ?k2_z) ?k3_z ?k4_z ?_; (case k1_z => assumption); (case k2_z => assumption); (case k3_z => assumption); (case k4_z => assumption)); intro h'z t'z R1z R2z U1z)
  k_with "subscriptTail Name Name str int" => (k_dflt (refine Mine.item_T (by omega) (by omega) ?_; intro cz s'z hsufz tkz kz))
  k_with "subscriptTail Name Name str int" => (k_dflt (refine Mine.item_H (by assumption) (by omega) ?_; intro tkz kz))
  k_with "call ref" => (k_here; (with_reducible show wpAny _ _ (call (Value.ref 554) [Value.ref _, Value.int _ _]) _ _ _); k_dflt (refine' Mine.rd1_at ?k1_z ?k2_z ?k3_z ?k4_z ?k5_z ?kK_z ?km_z ?kU_z ?kn_z ?kp_z ?kd_z ?ku_z ?_ ?_; (case k1_z => k_asm); (case k2_z => k_asm); (case k3_z => k_asm); (case k4_z => k_asm); (case k5_z => k_asm); (case kK_z => first | exact rfl | assumption); (case km_z => k_mem); (case kU_z => k_updF); (case kn_z => omega); (case kp_z => constructor <;> omega); (case kd_z => ktr_room); (case ku_z => ktr_units); all_goals (intro cz s'z hsufz h'z tk'z tz t'z F'z N'z; (try dsimp only at N'z); (try k_sweep))))
  k_with "call ref" => (k_here; (try simp only [List.nil_append, List.cons_append, List.append_nil]); (with_reducible show wpAny _ _ (call (Value.ref 562) [Value.ref _]) _ _ _); k_dflt (refine' Mine.rl_at ?k1_z ?k2_z ?k3_z ?k4_z ?k5_z ?kK_z ?km_z ?kU_z ?kn_z ?kp_z ?kd_z ?ku_z ?_; (case k1_z => k_asm); (case k2_z => k_asm); (case k3_z => k_asm); (case k4_z => k_asm); (case k5_z => k_asm); (case kK_z => first | exact rfl | assumption); (case km_z => k_mem); (case kU_z => k_updF); (case kn_z => omega); (case kp_z => constructor <;> omega); (case kd_z => ktr_room); (case ku_z => ktr_units); (intro xz h'z tk'z tz t'z F'z N'z; (try dsimp only at N'z); (try k_sweep))))
  k_with "exec While Constant cons nil" => refine Mine.Halt.out ?_
  k_with "KswEnd" => refine Mine.Halt.out ?_
  k_with "truthy ref" => (k_here; k_dflt (refine' Mine.dq_truthy_N ?N_z ?m_z ?f_z ?_; (case N_z => k_asm); (case m_z => k_mem); (case f_z => first | decide | omega | (simp only [List.length_cons, List.length_nil]; omega)); k_whole); intro _; (try simp only [List.isEmpty_cons, List.isEmpty_nil, Bool.not_false, Bool.not_true]))
  k_with "getMethod ref" => (k_here; (with_reducible show wpAny _ _ (getMethod (Value.ref _) (PySem.Str.ofString "appendleft") _) _ _ _); k_dflt (refine' Mine.dq_method ?N_z ?m_z Mine.slot_dq_appendleft Mine.type_dq_appendleft ?_; (case N_z => k_asm); (case m_z => k_mem)))
  k_with "getMethod ref" => (k_here; (with_reducible show wpAny _ _ (getMethod (Value.ref _) (PySem.Str.ofString "popleft") _) _ _ _); k_dflt (refine' Mine.dq_method ?N_z ?m_z Mine.slot_dq_popleft Mine.type_dq_popleft ?_; (case N_z => k_asm); (case m_z => k_mem)))
  k_with "call builtin:collections.deque.appendleft" => (k_here; k_dflt (refine' Mine.dq_appendleft ?k1_z ?k2_z ?k3_z ?z_z ?_; (case k1_z => k_asm); (case k2_z => k_asm); (case k3_z => k_upd); (case z_z => first | decide | omega)); intro h'z F'z N'z; (try k_sweep))
  k_with "call builtin:collections.deque.popleft" => (k_here; k_dflt (refine' Mine.dq_popleft ?k1_z ?k2_z ?k3_z ?z_z ?_; (case k1_z => k_asm); (case k2_z => k_asm); (case k3_z => k_upd); (case z_z => first | decide | omega)); intro h'z F'z N'z; (try k_sweep))
  k_with "compareOp In str str" => ((with_reducible show wpAny _ _ (compareOp CmpOp.In (Value.str (Mine.ES.str _) _) _) _ _ _); (rename Mine.ES => ezz; cases ezz <;> dsimp only [Mine.ES.str] at *))
  k_with "compareOp In str str" => ((with_reducible show wpAny _ _ (compareOp CmpOp.In (Value.str (Mine.ES.str _) _) _) _ _ _); (rename Mine.ES => ezz; cases ezz <;> dsimp only [Mine.ES.str] at *); all_goals (try (exfalso; (have hqz := (by assumption : Mine.ES.sp = Mine.ES.sp → _ ≤ _) rfl); omega)))
  k_with "call ref" => (k_here; (try simp only [List.nil_append, List.cons_append, List.append_nil]); (with_reducible show wpAny _ _ (call (Value.ref 711) [Value.ref _]) _ _ _); k_dflt (refine' Mine.Con.use (Mine.rt_spec _ _ _ _ _ _ _ _ _ _ _ _ _ _ _ _ _ _ _ _ _ _ _ _ _ ?a1_z ?a2_z ?a3_z ?a4_z ?a5_z ?a6_z ?a7_z) ?k1_z ?k2_z ?k3_z ?k4_z ?k5_z ?kK_z ?kp_z ?kd_z ?ku_z ?_ ?_; (case k1_z => k_asm); (case k2_z => k_asm); (case k3_z => k_asm); (case k4_z => k_asm); (case k5_z => k_asm); (case kK_z => first | exact rfl | assumption); (case a1_z => k_all); (case a2_z => k_all); (case a3_z => k_all); (case a4_z => omega); (case a5_z => omega); (case a6_z => omega); (case a7_z => omega); (case kp_z => assumption); (case kd_z => ktr_room); (case ku_z => ktr_units)); k_dflt (all_goals first
    | (rintro vz h'z tk'z n'z ⟨cz, pushz, dn'z, tvz, hRz, hpz, e1z, e2z⟩ F'z N'z; (subst e1z); (subst e2z); rcases cz with ⟨a0z, a1z, a2z, a3z, a4z, a5z, a6z, a7z, a8z, a9z, a10z⟩; dsimp only at hRz hpz N'z ⊢; (by_cases hvz : a4z = false ∧ a2z = []) <;> (first | rw [if_pos hvz] | rw [if_neg hvz]) <;> (try k_sweep))
    | (rintro ez tz g'z h'z tk'z esz n'z ⟨kz, cz, tmz, hRz, hpz, e1z, e2z⟩ F'z R1z R2z U1z; (subst e1z); (subst e2z); rcases cz with ⟨a0z, a1z, a2z, a3z, a4z, a5z, a6z, a7z, a8z, a9z, a10z⟩; dsimp only at hRz hpz R1z R2z ⊢)))
  k_with "leaving ref" => (k_dflt (refine' leave_onS ?k1_z ?k2_z ?k3_z ?k4_z ?_; (case k1_z => assumption); (case k3_z => assumption); (case k2_z => assumption); (case k4_z => assumption)); intro h'z R1z R2z U1z)
  k_with "call ref" => ((try simp only [List.nil_append, List.cons_append, List.append_nil]); (with_reducible show wpAny _ _ (call (Value.ref 711) [Value.ref _]) _ _ _); refine Mine.Halt.out ?_)
  exact ⟨rfl, rfl⟩
namespace Mine
noncomputable abbrev lexL (x ld sio sd pb fs : Addr) (rd : Value) (hs : Nat → Int) (ts : Nat → Tok) (hs2 : Nat → Int) (ts2 tc : Nat → Tok) (r : List Nat) (t1 t2 : Tok) (c : LC) (dn : Int) (push : List (Nat × Tok)) (news : List (Addr × Obj)) : List (Addr × Obj) :=
  (x, instObj 743 ld) :: (ld, lexD hs ts sio pb fs rd tc (c.st.val c.tst) c.line c.tl (T c.tok) c.tt) :: (sio, instObj 608 sd) :: (sd, sioD hs2 ts2 (T r) c.pos t1 t2 c.t3) :: (pb, dqO dn (pushV push)) :: news
theorem gt_spec {w : World} (news : List (Addr × Obj)) (x ld sio sd pb fs : Addr) (rd : Value) (hs ts hs2 ts2 tc) (r : List Nat) (pos : Nat) (t1 t2 t3 tst tl tt : Tok) (st : St) (line : Int) (tok : List Nat) (dn fn : Int)
  (hne : ∀ q ∈ news, q.1 ≠ sd) (hne2 : ∀ q ∈ news, q.1 ≠ ld) (hne3 : ∀ q ∈ news, q.1 ≠ pb) (n1 : @LT.lt Nat _ ld x) (n2 : @LT.lt Nat _ x sd) (n3 : @LT.lt Nat _ sd sio) (n4 : @LT.lt Nat _ sio pb) (n5 : @LT.lt Nat _ pb fs) (push : List (Nat × Tok)) (hpush : push.length ≤ 1) :
  Con 3 w 704 ((x, instObj 743 ld) :: (ld, lexD hs ts sio pb fs rd tc (st.val tst) line tl (T tok) tt) :: (sio, instObj 608 sd) :: (sd, sioD hs2 ts2 (T r) pos t1 t2 t3) :: (pb, dqO dn (pushV push)) :: (fs, dqO fn []) :: news)
    (pos ≤ r.length ∧ r.length < 10000 ∧ tok.length + 2 * (r.length - pos) < 60000 ∧ (st = .ws → tok = []) ∧ st ≠ .wd ∧ (st = .esc → r.length ≤ pos) ∧ (st = .fin → r.length ≤ pos)) [.ref x]
    (fun v n' => (push = [] ∧ ∃ (c : LC) (push' : List (Nat × Tok)) (dn' : Int) (tv : Tok), Run (r.drop pos) st tok line false .sp (.done (r.drop c.pos) c.st c.tok c.line c.q (push'.map Prod.fst)) ∧ c.pos ≤ r.length ∧ v = (if c.q = false ∧ c.tok = [] then .none else .str (T c.tok) tv) ∧
      n' = (x, instObj 743 ld) :: (ld, lexD hs ts sio pb fs rd tc (c.st.val c.tst) c.line c.tl (T []) c.tt) :: (sio, instObj 608 sd) :: (sd, sioD hs2 ts2 (T r) c.pos t1 t2 c.t3) :: (pb, dqO dn' (pushV push')) :: (fs, dqO fn []) :: news) ∨
      (∃ (c : Nat) (t : Tok) (dn' : Int), push = [(c, t)] ∧ v = .str (T [c]) t ∧ n' = (x, instObj 743 ld) :: (ld, lexD hs ts sio pb fs rd tc (st.val tst) line tl (T tok) tt) :: (sio, instObj 608 sd) :: (sd, sioD hs2 ts2 (T r) pos t1 t2 t3) :: (pb, dqO dn' []) :: (fs, dqO fn []) :: news))
    (fun es n' => ∃ (k : Bool) (c : LC) (tm : Tok), Run (r.drop pos) st tok line false .sp (.bad k c.st c.tok c.line) ∧ c.pos = r.length ∧ push = [] ∧ es = [.str (Str.ofString (if k then "No escaped character" else "No closing quotation")) tm] ∧
      n' = (x, instObj 743 ld) :: (ld, lexD hs ts sio pb fs rd tc (c.st.val c.tst) c.line c.tl (T c.tok) c.tt) :: (sio, instObj 608 sd) :: (sd, sioD hs2 ts2 (T r) c.pos t1 t2 c.t3) :: (pb, dqO dn []) :: (fs, dqO fn []) :: news) := by
  dsimp only [Con]
  intro p loose mean mg mb dp un gd cn cs a ccd cl outer A₀ base h₀ L m s Q E hB hF hX hN hT hk hpre hdp hun hret hraise
  refine wpAny_call ?_
  k_dflt (walk_at "my enter")
  have hlst := hpre
  rcases push with _ | ⟨⟨c, tc9⟩, _ | ⟨p2, pr⟩⟩
  · dsimp only [pushV, List.map] at N1
    k_steps
    unfold Halt
    k_dflt (refine' Con.use (rt_spec _ _ _ _ _ _ _ _ _ _ _ _ _ _ _ _ _ _ _ _ _ _ _ _ _ ?a1 ?a2 ?a3 ?a4 ?a5 ?a6 ?a7) ?k1 ?k2 ?k3 ?k4 ?k5 ?kK ?kp ?kd ?ku ?_ ?_)
    (case k1 => k_asm)
    (case k2 => k_asm)
    (case k3 => k_asm)
    (case k4 => k_asm)
    (case k5 => k_asm)
    (case kK => first | exact rfl | assumption)
    (case a1 => k_all)
    (case a2 => k_all)
    (case a3 => k_all)
    (case a4 => omega)
    (case a5 => omega)
    (case a6 => omega)
    (case a7 => omega)
    (case kp => assumption)
    (case kd => ktr_room)
    (case ku => ktr_units)
    · rintro v h' tk' n' ⟨c, push, dn', tv, hR, hp, rfl, rfl⟩ F' N'
      rcases c with ⟨a0, a1, a2, a3, a4, a5, a6, a7, a8, a9, a10⟩
      dsimp only at hR hp N' ⊢
      by_cases hv : a4 = false ∧ a2 = []
      · rw [if_pos hv]
        try k_sweep
        k_steps
        refine' hret _ _ _ _ (.inl ⟨rfl, ⟨a0, a1, a2, a3, a4, a5, a6, a7, _, a9, 0⟩, push, dn', tv, hR, hp, (if_pos hv).symm, rfl⟩) (by assumption) (by assumption)
      · rw [if_neg hv]
        try k_sweep
        k_steps
        refine' hret _ _ _ _ (.inl ⟨rfl, ⟨a0, a1, a2, a3, a4, a5, a6, a7, _, a9, 0⟩, push, dn', tv, hR, hp, (if_neg hv).symm, rfl⟩) (by assumption) (by assumption)
    · rintro e t g' h' tk' es n' ⟨k, c, tm, hR, hp, rfl, rfl⟩ F' R1 R2 U1
      rcases c with ⟨a0, a1, a2, a3, a4, a5, a6, a7, a8, a9, a10⟩
      dsimp only at hR hp R1 R2 ⊢
      k_steps
      refine' hraise _ _ _ _ _ _ _ ⟨k, ⟨a0, a1, a2, a3, a4, a5, a6, a7, _, a9, 0⟩, tm, hR, hp, rfl, rfl, rfl⟩ FG (by assumption) (by assumption) (by assumption)
  · dsimp only [pushV, List.map] at N1
    k_steps
    refine' hret _ _ _ _ (.inr ⟨c, tc9, dn + 1, rfl, rfl, rfl⟩) ?f9 ?n9
    case f9 => assumption
    case n9 => assumption
  · exact absurd hpush (by simp)
end Mine

end
section
open Mine
namespace Mine
theorem run_done {s : List Nat} {st : St} {tok : List Nat} {line : Int} {q : Bool} {es : ES} {O : Out} (h : Run s st tok line q es O) : ∀ {s' st' tok' line' q' push'}, O = .done s' st' tok' line' q' push' → (st' = .ws ∨ st' = .fin ∧ s' = []) ∧ push'.length ≤ 1 := by
  induction h <;> intro s' st' tok' line' q' push' e <;> first
    | (cases e; done)
    | (cases e; exact ⟨.inl rfl, by simp⟩)
    | (cases e; exact ⟨.inr ⟨rfl, rfl⟩, by simp⟩)
    | (rename_i ih; exact ih e)
theorem run_bad {s : List Nat} {st : St} {tok : List Nat} {line : Int} {q : Bool} {es : ES} {O : Out} (h : Run s st tok line q es O) : ∀ {k st' tok' line'}, O = .bad k st' tok' line' → (k = true → st' = .esc) ∧ (k = false → st' = .sq ∨ st' = .dq) ∧ tok'.length ≤ tok.length + 2 * s.length := by
  induction h
  case sq0 => intro k st' tok' line' e; injection e with e1 e2 e3 e4; subst e1 e2 e3 e4; exact ⟨(fun h => by cases h), (fun _ => .inl rfl), Nat.le_add_right _ _⟩
  case dq0 => intro k st' tok' line' e; injection e with e1 e2 e3 e4; subst e1 e2 e3 e4; exact ⟨(fun h => by cases h), (fun _ => .inr rfl), Nat.le_add_right _ _⟩
  case esc0 => intro k st' tok' line' e; injection e with e1 e2 e3 e4; subst e1 e2 e3 e4; exact ⟨(fun _ => rfl), (fun h => by cases h), Nat.le_add_right _ _⟩
  all_goals intro k st' tok' line' e
  all_goals first
    | (cases e; done)
    | (rename_i ih
       obtain ⟨a, b, c⟩ := ih e
       refine ⟨a, b, ?_⟩
       first
         | (simp only [List.length_append, List.length_cons, List.length_nil] at c ⊢; omega)
         | exact Nat.le_trans c (Nat.add_le_add_left (Nat.mul_le_mul_left 2 (Nat.le_trans (aft_le _) (Nat.le_succ _))) _))
structure LS (r : List Nat) (m : MS) (pos : Nat) (st : St) (line : Int) (tok : List Nat) (push : List (Nat × Tok)) : Prop where
  hs : r.drop pos = m.s
  hp : pos ≤ r.length
  hr : r.length < 9000
  hl : line = m.line
  hu : push.map Prod.fst = m.push
  h1 : push.length ≤ 1
  h0 : m.stuck = none → tok = [] ∧ (st = .ws ∨ st = .fin ∧ m.s = [])
  hk : ∀ k, m.stuck = some k → m.s = [] ∧ m.push = [] ∧ (k = true → st = .esc) ∧ (k = false → st = .sq ∨ st = .dq)
  hm : tok.length ≤ 18000
theorem LS.pos_of {r : List Nat} {m : MS} {pos : Nat} {st : St} {line : Int} {tok : List Nat} {push : List (Nat × Tok)} (h : LS r m pos st line tok push) (e : m.s = []) : r.length ≤ pos := by
  have := h.hs
  rw [e] at this
  exact List.drop_eq_nil_iff.mp this
theorem LS.pre {r : List Nat} {m : MS} {pos : Nat} {st : St} {line : Int} {tok : List Nat} {push : List (Nat × Tok)} (h : LS r m pos st line tok push) :
    pos ≤ r.length ∧ r.length < 10000 ∧ tok.length + 2 * (r.length - pos) < 60000 ∧ (st = .ws → tok = []) ∧ st ≠ .wd ∧ (st = .esc → r.length ≤ pos) ∧ (st = .fin → r.length ≤ pos) := by
  have h1 := h.hp
  have h2 := h.hr
  have h3 := h.hm
  refine ⟨h1, by omega, by omega, ?_, ?_, ?_, ?_⟩
  all_goals
    cases hst : m.stuck with
    | none =>
      obtain ⟨a, b⟩ := h.h0 hst
      rcases b with b | ⟨b, c⟩
      · subst b
        first | exact fun _ => a | (intro h; cases h; done)
      · subst b
        first | exact fun _ => h.pos_of c | (intro h; cases h; done)
    | some k =>
      obtain ⟨a, _, b, c⟩ := h.hk k hst
      have hp := h.pos_of a
      cases k with
      | true =>
        have b := b rfl
        subst b
        first | exact fun _ => hp | (intro h; cases h; done)
      | false =>
        rcases c rfl with c | c
        · subst c
          first | exact fun _ => hp | (intro h; cases h; done)
        · subst c
          first | exact fun _ => hp | (intro h; cases h; done)
theorem LS.done {r : List Nat} {m : MS} {pos : Nat} {st : St} {line : Int} {tok : List Nat} (h : LS r m pos st line tok []) {pos' : Nat} {st' : St} {tok' : List Nat} {line' : Int} {q' : Bool} {push' : List (Nat × Tok)}
    (hR : Run (r.drop pos) st tok line false .sp (.done (r.drop pos') st' tok' line' q' (push'.map Prod.fst))) (hp : pos' ≤ r.length) :
    StepT m .word (if q' = false ∧ tok' = [] then .none else .str (T tok')) ⟨r.drop pos', line', push'.map Prod.fst, none⟩ ∧ LS r ⟨r.drop pos', line', push'.map Prod.fst, none⟩ pos' st' line' [] push' := by
  obtain ⟨hd, hpl⟩ := run_done hR rfl
  obtain ⟨ms, ml, mp, mk⟩ := m
  have e1 := h.hs
  have e2 := h.hl
  have e3 := h.hu
  dsimp only at e1 e2 e3
  subst e2 e3
  refine ⟨?_, ⟨rfl, hp, h.hr, rfl, rfl, by simpa using hpl, fun _ => ⟨rfl, hd⟩, (fun k h => by cases h), by simp⟩⟩
  cases mk with
  | none =>
    obtain ⟨a, b⟩ := h.h0 rfl
    subst a
    dsimp only at b
    rw [e1] at hR
    rcases b with b | ⟨b, c⟩
    · subst b
      exact .done hR rfl
    · subst b
      rw [c] at hR
      exact .done (show Run ms .ws [] line false .sp (.done (r.drop pos') st' tok' line' q' (push'.map Prod.fst)) by rw [c, hR.inv0 rfl]; exact .ws0) rfl
  | some k =>
    obtain ⟨a, _, b, c⟩ := h.hk k rfl
    dsimp only at a
    rw [e1, a] at hR
    have hO := hR.inv0 rfl
    cases k with
    | true => rw [b rfl] at hO; cases hO
    | false => rcases c rfl with c | c <;> (rw [c] at hO; cases hO)
theorem LS.bad {r : List Nat} {m : MS} {pos : Nat} {st : St} {line : Int} {tok : List Nat} (h : LS r m pos st line tok []) {pos' : Nat} {k : Bool} {st' : St} {tok' : List Nat} {line' : Int}
    (hR : Run (r.drop pos) st tok line false .sp (.bad k st' tok' line')) (hp : pos' = r.length) :
    ∃ m', StepT m .word (.refused (bMsg k)) m' ∧ LS r m' pos' st' line' tok' [] := by
  obtain ⟨h1, h2, h3⟩ := run_bad hR rfl
  obtain ⟨ms, ml, mp, mk⟩ := m
  have e1 := h.hs
  have e2 := h.hl
  have e3 := h.hu
  dsimp only at e1 e2 e3
  subst e2 e3
  subst hp
  have hr := h.hr
  refine ⟨⟨[], line', [], some k⟩, ?_, ⟨List.drop_length, Nat.le_refl _, hr, rfl, rfl, by simp, (fun h => by cases h), fun k' e => ?_, ?_⟩⟩
  · cases mk with
    | none =>
      obtain ⟨a, b⟩ := h.h0 rfl
      subst a
      dsimp only at b
      rw [e1] at hR
      rcases b with b | ⟨b, c⟩
      · subst b
        exact .bad hR
      · subst b
        rw [c] at hR
        cases hR.inv0 rfl
    | some k0 =>
      obtain ⟨a, _, b, c⟩ := h.hk k0 rfl
      dsimp only at a
      rw [e1, a] at hR
      subst a
      cases k0 with
      | true => have hO := hR.inv0 rfl; rw [b rfl] at hO; cases hO; exact .stuck
      | false => have hO := hR.inv0 rfl; rcases c rfl with c | c <;> (rw [c] at hO; cases hO; exact .stuck)
  · cases e
    exact ⟨rfl, rfl, h1, h2⟩
  · cases mk with
    | none =>
      obtain ⟨a, b⟩ := h.h0 rfl
      subst a
      simp only [List.length_drop, List.length_nil] at h3
      omega
    | some k0 =>
      obtain ⟨a, _, b, c⟩ := h.hk k0 rfl
      dsimp only at a
      rw [e1, a] at h3
      have := h.hm
      simp only [List.length_nil] at h3
      omega
theorem LS.push {r : List Nat} {m : MS} {pos : Nat} {st : St} {line : Int} {tok : List Nat} {c : Nat} {t : Tok} (h : LS r m pos st line tok [(c, t)]) :
    StepT m .word (.str (T [c])) ⟨m.s, m.line, [], m.stuck⟩ ∧ LS r ⟨m.s, m.line, [], m.stuck⟩ pos st line tok [] := by
  obtain ⟨ms, ml, mp, mk⟩ := m
  have e3 := h.hu
  dsimp only [List.map] at e3
  subst e3
  exact ⟨.push, h.hs, h.hp, h.hr, h.hl, rfl, by simp, h.h0, fun k e => by obtain ⟨a, b, c⟩ := h.hk k e; exact ⟨a, rfl, c⟩, h.hm⟩
theorem LS.item {r : List Nat} {m : MS} {pos : Nat} {st : St} {line : Int} {tok : List Nat} {push : List (Nat × Tok)} {k : Deed} {td : Told} {pos' : Nat} (h : LS r m pos st line tok push) (hk : k ≠ .word) (e : itemF k (r.drop pos) = (td, r.drop pos')) (hp : pos' ≤ r.length) :
    StepT m k td ⟨r.drop pos', m.line, m.push, m.stuck⟩ ∧ LS r ⟨r.drop pos', m.line, m.push, m.stuck⟩ pos' st line tok push := by
  obtain ⟨ms, ml, mp, mk⟩ := m
  have e1 := h.hs
  dsimp only at e1
  have hz : ms = [] → r.drop pos' = [] := fun z => by
    rw [e1, z] at e
    cases k <;> first | exact absurd rfl hk | exact (congrArg Prod.snd e).symm
  refine ⟨.item hk (by rw [← e1]; exact e), rfl, hp, h.hr, h.hl, h.hu, h.h1, fun z => ?_, fun k z => ?_, h.hm⟩
  · obtain ⟨a, b⟩ := h.h0 z
    exact ⟨a, b.imp id fun b => ⟨b.1, hz b.2⟩⟩
  · obtain ⟨a, b⟩ := h.hk k z
    exact ⟨hz a, b⟩
end Mine

end
section
open Mine
namespace Mine
section
variable {prog : Program} {w : World} {A A₀ : Around} {base h₀ : Heap} {L a f : Addr} {m : Str → Option Value} {cn : Str} {cs : Scope} {ccd : Value} {cl : List (Str × Addr)} {s : Shared} {news : List (Addr × Obj)} {K : Frag}
  {p : Program} {loose : List Str} {mean : ExcName → Option Value} {mg mb : Str → Option Value}
theorem enterX (B : Below A₀ base [] h₀) (F : Fr h₀ L s.heap m) (N : News h₀ L s.heap news) (hA : A.frames = some [envX cn cs L a ccd cl]) (hck : cs.kind = .function) :
    ∃ oL es ep, (hideAll s.heap (news.map (·.1))).get? L = some oL ∧ oL.data = .dict es ep ∧ (∀ (sl : Array (Option Value)) h', h'.get? L = some { oL with slots := sl } → Heap.Ns h' L m) ∧
      h₀.StaysIn (hideAll s.heap (news.map (·.1))) ∧ Below A base [envX cn cs L a ccd cl] (hideAll s.heap (news.map (·.1))) := by
  obtain ⟨oL, es, ep, h1, h2, _, h4, h5, B2⟩ := kts_enter (A := ktrTop 0 0 none cn cs L a ccd [] []) B F N rfl hck
  exact ⟨oL, es, ep, h1, h2, h4, h5, ⟨hA, B2.stays, B2.frames⟩⟩
theorem backX {g g' h' : Heap} {L' : Addr} {m' : Str → Option Value} {news' : List (Addr × Obj)} {oL : Obj} (F : Fr h₀ L s.heap m) (hg : g.get? L = some oL) (hn : ∀ (sl : Array (Option Value)) h', h'.get? L = some { oL with slots := sl } → Heap.Ns h' L m) (st : h₀.StaysIn g)
    (T : KtsTurn ([envX cn cs L a ccd cl].filterMap (·.frame)) g g') (F' : Fr g' L' h' m') (N' : News g' L' h' news') : Fr h₀ L h' m ∧ News h₀ L h' news' := by
  have none0 : h₀.get? L = none := kts_self F
  obtain ⟨sl, hs⟩ := T.up hg
  have up : ∀ b o, h₀.get? b = some o → g'.get? b = some o := fun b o e => T.other b o (st b o e) fun q => by
    have q' : b = L := by simpa using q
    rw [q', none0] at e
    exact nomatch e
  refine ⟨⟨hn sl _ (F'.keep _ _ hs), fun b o e => F'.keep b o (up b o e), F.above⟩, fun q hq => ?_⟩
  obtain ⟨n1, _, n3⟩ := N' q hq
  refine ⟨n1, fun e => ?_, ?_⟩
  · rw [e, hs] at n3
    exact nomatch n3
  · cases e : h₀.get? q.1 with
    | none => rfl
    | some o =>
      rw [up _ _ e] at n3
      exact nomatch n3
theorem code_defSX {R : Result → Shared → Prop} {name qual : Str} {params : Arguments} {body : List Stmt} {scope : Scope} {dV kV doc pm cdv ct oc : Value} {an od : Option Addr} {osl : Array (Option Value)} {args : Args} {binds : List (Str × Value)}
    (B : Below A₀ base [] h₀) (F : Fr h₀ L s.heap m) (X₀ : K.In h₀) (N : News h₀ L s.heap news) (T : Top p loose mean mg mb h₀) (hA : A.frames = some [envX cn cs L a ccd cl])
    (ho : K.lookup f = some ⟨oc, od, .func (fnOf name qual params body scope dV kV doc pm an cdv ct), osl⟩) (hcd : codeIn K cdv qual = true) (hroom : A.depth < recursionLimit)
    (hbind : BindsTo s (fnOf name qual params body scope dV kV doc pm an cdv ct) args binds) (hloc : ∀ y ∈ binds, scope.names.lookup y.1 = some .local)
    (h : ∀ g L' h₁, Fr h₀ L g m → Fr g L' h₁ (fun y => binds.reverse.lookup y) → News g L' h₁ news → Below A base [envX cn cs L a ccd cl] g → K.In g → Top p loose mean mg mb g → KtsDicts ([envX cn cs L a ccd cl].filterMap (·.frame)) g →
      wpAny (model prog w) (A.deeper (envOf qual scope L' f cdv)) (execs body (envOf qual scope L' f cdv))
        (fun fl s' => LeaveS0 ([envX cn cs L a ccd cl].filterMap (·.frame)) h₀ L m g R (match fl with | .ret v => v | _ => .none) s')
        (fun e s' => wpAny (model prog w) (A.deeper (envOf qual scope L' f cdv)) (leaving (envOf qual scope L' f cdv) e) (fun _ s'' => R (.error e) s'') (fun e' s'' => R (.error e') s'') s')
        { s with heap := h₁, toks := s.toks + binds.length })
    (hck : cs.kind = .function) (hco : scope.isCoroutine = false) (hgen : scope.isGenerator = false) (hk : scope.kind = .function)
    (hcell : ∀ x ∈ scope.names, x.2 ≠ .cell) : codeAny (model prog w) A (.call (.ref f) args) R s := by
  have X := X₀.keeps F.keep
  obtain ⟨oL, es, ep, hg, hd, hn, st, B2⟩ := enterX (cl := cl) B F N hA hck
  refine codeAny_call_def (fd := fnOf name qual params body scope dV kV doc pm an cdv ct) (body := body) (binds := binds) hroom (X _ _ ho) rfl (T.nolimit.keeps F.keep) (codeRec_of X hcd) rfl hbind hcell hloc (fun h₁ hns hk₁ => ?_) hco hgen hk
  have FG : Fr h₀ L (hideAll s.heap (news.map (·.1))) m := ⟨hn oL.slots _ hg, st, F.above⟩
  have F1 : Fr (hideAll s.heap (news.map (·.1))) s.heap.objs.size h₁ (fun y => binds.reverse.lookup y) := ⟨hns, fun b o e => hk₁ b o (of_hideAll _ e), Nat.le_of_eq (hideAll_size _ _)⟩
  have N1 : News (hideAll s.heap (news.map (·.1))) s.heap.objs.size h₁ news := fun q hq => ⟨hk₁ _ _ (N q hq).1, Nat.ne_of_lt (Heap.lt_size (N q hq).1), hideAll_none _ (List.mem_map_of_mem hq)⟩
  have D1 : KtsDicts ([envX cn cs L a ccd cl].filterMap (·.frame)) (hideAll s.heap (news.map (·.1))) := fun b hb => by
    have e : b = L := by simpa using hb
    rw [e]
    exact ⟨oL, es, ep, hg, hd⟩
  refine wpAny_mono (h _ s.heap.objs.size h₁ FG F1 N1 B2 (X₀.keeps st) (T.keeps st) D1) (fun fl s' hl => ?_) fun _ _ y => y
  obtain ⟨g', L', m', news', T', F', N', k⟩ := hl
  obtain ⟨z1, z2⟩ := backX (cl := cl) F hg hn st T' F' N'
  exact k z1 z2
end
end Mine

end
section
open Mine
namespace Mine
theorem mem_lexA {α : Type} {x l si sd pb fs f c cc : α} {n : List α} : ∀ p ∈ f :: c :: cc :: x :: l :: si :: sd :: pb :: fs :: n, p ∈ x :: l :: si :: sd :: pb :: fs :: f :: c :: cc :: n := by
  intro p hp
  simp only [List.mem_cons] at hp ⊢
  rcases hp with e | e | e | e | e | e | e | e | e | e <;> simp [e]
theorem mem_lexB {α : Type} {x l si sd pb fs f c cc : α} {n : List α} : ∀ p ∈ x :: l :: si :: sd :: pb :: fs :: f :: c :: cc :: n, p ∈ f :: c :: cc :: x :: l :: si :: sd :: pb :: fs :: n := by
  intro p hp
  simp only [List.mem_cons] at hp ⊢
  rcases hp with e | e | e | e | e | e | e | e | e | e <;> simp [e]
theorem Con.turn {lv : Nat} {w : World} {f : Addr} {led led2 : List (Addr × Obj)} {pre : Prop} {vs : List Value} {R R2 : Value → List (Addr × Obj) → Prop} {RE RE2 : List Value → List (Addr × Obj) → Prop} (C : Con lv w f led pre vs R RE) (hs : ∀ p ∈ led, p ∈ led2)
    (hR : ∀ v n', R v n' → ∃ n2, R2 v n2 ∧ ∀ p ∈ n2, p ∈ n') (hE : ∀ es n', RE es n' → ∃ n2, RE2 es n2 ∧ ∀ p ∈ n2, p ∈ n') : Con lv w f led2 pre vs R2 RE2 := by
  intro p loose mean mg mb dp un gd cn cs a ccd cl outer A₀ base h₀ L m s Q E B F X N T hk hp hd hu ret exc
  refine C p loose mean mg mb dp un gd cn cs a ccd cl outer A₀ base h₀ L m s Q E B F X (News.sub N hs) T hk hp hd hu (fun v h' tk' n' hv F' N' => ?_) (fun e t g' h' tk' es n' he F' R1 R2' U1 => ?_)
  · obtain ⟨n2, h1, h2⟩ := hR v n' hv
    exact ret v h' tk' n2 h1 F' (News.sub N' h2)
  · obtain ⟨n2, h1, h2⟩ := hE es n' he
    exact exc e t g' h' tk' es n2 h1 F' (raisedS_sub R1 h2) (raisedK_sub R2' h2) U1
theorem rd46 {w : World} (news : List (Addr × Obj)) {P : Arguments} {b : Expr} {sc : Scope} (hl : lamOf (Mine.KK w.params) 759 = some (P, b, sc)) (x ld sio sd pb fs f c' cc : Addr) (qual : Str) (pm ct : Value) (oc o2 : Obj) (vs : Array Value) (tq : Tok)
  (hs hs2 : Nat → Int) (ts ts2 tc : Nat → Tok) (r : List Nat) (pos : Nat) (st : St) (line : Int) (tok : List Nat) (t1 t2 t3 tst tl tt : Tok) (dn fn : Int) (push : List (Nat × Tok))
  (hoc : oc.data = .fields vs) (hvs : vs[1]? = some (.str qual tq)) (ho2 : o2.data = .cell (some (.ref x))) (hne : ∀ q ∈ news, @Ne Nat q.1 ld ∧ @Ne Nat q.1 sd ∧ @Ne Nat q.1 pb)
  (h256 : ∀ c ∈ r, c < 256)
  (hlt : @LT.lt Nat _ cc ld ∧ @LT.lt Nat _ ld x ∧ @LT.lt Nat _ x sd ∧ @LT.lt Nat _ sd sio ∧ @LT.lt Nat _ sio pb ∧ @LT.lt Nat _ pb fs ∧ @LT.lt Nat _ fs c' ∧ @LT.lt Nat _ c' f) (hpos : pos ≤ r.length) :
  Con 5 w 46 ((x, instObj 743 ld) :: (ld, lexD hs ts sio pb fs (.ref f) tc (st.val tst) line tl (T tok) tt) :: (sio, instObj 608 sd) :: (sd, sioD hs2 ts2 (T r) pos t1 t2 t3) :: (pb, dqO dn (pushV push)) :: (fs, dqO fn []) :: (f, kla_obj "<lambda>" qual P b sc [("lexer", cc)] pm c' ct) :: (c', oc) :: (cc, o2) :: news)
    (pos ≤ r.length ∧ r.length < 9000) [.ref x]
    (fun v n' => ∃ td pos' t', itemF .oct (r.drop pos) = (td, r.drop pos') ∧ pos' ≤ r.length ∧ ToldIn [] v td ∧ n' = (x, instObj 743 ld) :: (ld, lexD hs ts sio pb fs (.ref f) tc (st.val tst) line tl (T tok) tt) :: (sio, instObj 608 sd) :: (sd, sioD hs2 ts2 (T r) (pos' : Nat) t1 t2 t') :: (pb, dqO dn (pushV push)) :: (fs, dqO fn []) :: (f, kla_obj "<lambda>" qual P b sc [("lexer", cc)] pm c' ct) :: (c', oc) :: (cc, o2) :: news)
    (fun es n' => ∃ msg pos' t t', itemF .oct (r.drop pos) = (.refused msg, r.drop pos') ∧ pos' ≤ r.length ∧ es = [.str msg t] ∧ n' = (x, instObj 743 ld) :: (ld, lexD hs ts sio pb fs (.ref f) tc (st.val tst) line tl (T tok) tt) :: (sio, instObj 608 sd) :: (sd, sioD hs2 ts2 (T r) (pos' : Nat) t1 t2 t') :: (pb, dqO dn (pushV push)) :: (fs, dqO fn []) :: (f, kla_obj "<lambda>" qual P b sc [("lexer", cc)] pm c' ct) :: (c', oc) :: (cc, o2) :: news) := by
  have hn9 : ∀ q ∈ (pb, dqO dn (pushV push)) :: (fs, dqO fn []) :: news, q.1 ≠ sd := by
    intro q hq
    obtain ⟨w1, w2, w3, w4, w5, w6, w7, w8⟩ := hlt
    rcases List.mem_cons.mp hq with e | hq
    · rw [e]; exact Nat.ne_of_gt (by omega)
    rcases List.mem_cons.mp hq with e | hq
    · rw [e]; exact Nat.ne_of_gt (by omega)
    exact (hne q hq).2.1
  refine Con.turn (u1_spec ((pb, dqO dn (pushV push)) :: (fs, dqO fn []) :: news) hl f c' cc x ld sio sd pb fs qual pm ct (st.val tst) oc o2 vs tq hs hs2 ts ts2 tc r pos line (T tok) t1 t2 t3 tl tt hoc hvs ho2 hn9 h256 ⟨hlt.1, hlt.2.1, hlt.2.2.1, hlt.2.2.2.1, Nat.lt_trans hlt.2.2.2.2.1 (Nat.lt_trans hlt.2.2.2.2.2.1 hlt.2.2.2.2.2.2.1), hlt.2.2.2.2.2.2.2⟩) mem_lexA ?_ ?_
  · rintro v n' ⟨c, s', t, t', h1, rfl, rfl⟩
    refine ⟨_, ⟨.int c, pos + 1, t', ?_, suf_len h1, .int _ _, rfl⟩, mem_lexB⟩
    rw [ry_tl h1] at h1
    conv => lhs; rw [h1]
    rfl
  · rintro es n' ⟨t, t', h1, rfl, rfl⟩
    exact ⟨_, ⟨noData, pos, t, t', ry_nil (fun h => nomatch h) h1, hpos, rfl, rfl⟩, mem_lexB⟩
theorem rd60 {w : World} (news : List (Addr × Obj)) {P : Arguments} {b : Expr} {sc : Scope} (hl : lamOf (Mine.KK w.params) 759 = some (P, b, sc)) (x ld sio sd pb fs f c' cc : Addr) (qual : Str) (pm ct : Value) (oc o2 : Obj) (vs : Array Value) (tq : Tok)
  (hs hs2 : Nat → Int) (ts ts2 tc : Nat → Tok) (r : List Nat) (pos : Nat) (st : St) (line : Int) (tok : List Nat) (t1 t2 t3 tst tl tt : Tok) (dn fn : Int) (push : List (Nat × Tok))
  (hoc : oc.data = .fields vs) (hvs : vs[1]? = some (.str qual tq)) (ho2 : o2.data = .cell (some (.ref x))) (hne : ∀ q ∈ news, @Ne Nat q.1 ld ∧ @Ne Nat q.1 sd ∧ @Ne Nat q.1 pb)
  (h256 : ∀ c ∈ r, c < 256)
  (hlt : @LT.lt Nat _ cc ld ∧ @LT.lt Nat _ ld x ∧ @LT.lt Nat _ x sd ∧ @LT.lt Nat _ sd sio ∧ @LT.lt Nat _ sio pb ∧ @LT.lt Nat _ pb fs ∧ @LT.lt Nat _ fs c' ∧ @LT.lt Nat _ c' f) (hpos : pos ≤ r.length) :
  Con 6 w 60 ((x, instObj 743 ld) :: (ld, lexD hs ts sio pb fs (.ref f) tc (st.val tst) line tl (T tok) tt) :: (sio, instObj 608 sd) :: (sd, sioD hs2 ts2 (T r) pos t1 t2 t3) :: (pb, dqO dn (pushV push)) :: (fs, dqO fn []) :: (f, kla_obj "<lambda>" qual P b sc [("lexer", cc)] pm c' ct) :: (c', oc) :: (cc, o2) :: news)
    (pos ≤ r.length ∧ r.length < 9000) [.ref x]
    (fun v n' => ∃ td pos' t', itemF .byt (r.drop pos) = (td, r.drop pos') ∧ pos' ≤ r.length ∧ ToldIn [] v td ∧ n' = (x, instObj 743 ld) :: (ld, lexD hs ts sio pb fs (.ref f) tc (st.val tst) line tl (T tok) tt) :: (sio, instObj 608 sd) :: (sd, sioD hs2 ts2 (T r) (pos' : Nat) t1 t2 t') :: (pb, dqO dn (pushV push)) :: (fs, dqO fn []) :: (f, kla_obj "<lambda>" qual P b sc [("lexer", cc)] pm c' ct) :: (c', oc) :: (cc, o2) :: news)
    (fun es n' => ∃ msg pos' t t', itemF .byt (r.drop pos) = (.refused msg, r.drop pos') ∧ pos' ≤ r.length ∧ es = [.str msg t] ∧ n' = (x, instObj 743 ld) :: (ld, lexD hs ts sio pb fs (.ref f) tc (st.val tst) line tl (T tok) tt) :: (sio, instObj 608 sd) :: (sd, sioD hs2 ts2 (T r) (pos' : Nat) t1 t2 t') :: (pb, dqO dn (pushV push)) :: (fs, dqO fn []) :: (f, kla_obj "<lambda>" qual P b sc [("lexer", cc)] pm c' ct) :: (c', oc) :: (cc, o2) :: news) := by
  have hn9 : ∀ q ∈ (pb, dqO dn (pushV push)) :: (fs, dqO fn []) :: news, q.1 ≠ sd := by
    intro q hq
    obtain ⟨w1, w2, w3, w4, w5, w6, w7, w8⟩ := hlt
    rcases List.mem_cons.mp hq with e | hq
    · rw [e]; exact Nat.ne_of_gt (by omega)
    rcases List.mem_cons.mp hq with e | hq
    · rw [e]; exact Nat.ne_of_gt (by omega)
    exact (hne q hq).2.1
  refine Con.turn (by_spec ((pb, dqO dn (pushV push)) :: (fs, dqO fn []) :: news) hl f c' cc x ld sio sd pb fs qual pm ct (st.val tst) oc o2 vs tq hs hs2 ts ts2 tc r pos line (T tok) t1 t2 t3 tl tt hoc hvs ho2 hn9 h256 ⟨hlt.1, hlt.2.1, hlt.2.2.1, hlt.2.2.2.1, Nat.lt_trans hlt.2.2.2.2.1 (Nat.lt_trans hlt.2.2.2.2.2.1 hlt.2.2.2.2.2.2.1), hlt.2.2.2.2.2.2.2⟩) mem_lexA ?_ ?_
  · rintro v n' ⟨td, pos', t', h1, h2, h3, rfl⟩
    exact ⟨_, ⟨td, pos', t', h1, h2, h3, rfl⟩, mem_lexB⟩
  · rintro es n' ⟨msg, pos', t, t', h1, h2, h3, rfl⟩
    exact ⟨_, ⟨msg, pos', t, t', h1, h2, h3, rfl⟩, mem_lexB⟩
theorem rd53 {w : World} (news : List (Addr × Obj)) {P : Arguments} {b : Expr} {sc : Scope} (hl : lamOf (Mine.KK w.params) 759 = some (P, b, sc)) (x ld sio sd pb fs f c' cc : Addr) (qual : Str) (pm ct : Value) (oc o2 : Obj) (vs : Array Value) (tq : Tok)
  (hs hs2 : Nat → Int) (ts ts2 tc : Nat → Tok) (r : List Nat) (pos : Nat) (st : St) (line : Int) (tok : List Nat) (t1 t2 t3 tst tl tt : Tok) (dn fn : Int) (push : List (Nat × Tok))
  (hoc : oc.data = .fields vs) (hvs : vs[1]? = some (.str qual tq)) (ho2 : o2.data = .cell (some (.ref x))) (hne : ∀ q ∈ news, @Ne Nat q.1 ld ∧ @Ne Nat q.1 sd ∧ @Ne Nat q.1 pb)
  (h256 : ∀ c ∈ r, c < 256)
  (hlt : @LT.lt Nat _ cc ld ∧ @LT.lt Nat _ ld x ∧ @LT.lt Nat _ x sd ∧ @LT.lt Nat _ sd sio ∧ @LT.lt Nat _ sio pb ∧ @LT.lt Nat _ pb fs ∧ @LT.lt Nat _ fs c' ∧ @LT.lt Nat _ c' f) (hpos : pos ≤ r.length) :
  Con 6 w 53 ((x, instObj 743 ld) :: (ld, lexD hs ts sio pb fs (.ref f) tc (st.val tst) line tl (T tok) tt) :: (sio, instObj 608 sd) :: (sd, sioD hs2 ts2 (T r) pos t1 t2 t3) :: (pb, dqO dn (pushV push)) :: (fs, dqO fn []) :: (f, kla_obj "<lambda>" qual P b sc [("lexer", cc)] pm c' ct) :: (c', oc) :: (cc, o2) :: news)
    (pos ≤ r.length ∧ r.length < 9000) [.ref x]
    (fun v n' => ∃ td pos' t', itemF .str (r.drop pos) = (td, r.drop pos') ∧ pos' ≤ r.length ∧ ToldIn [] v td ∧ n' = (x, instObj 743 ld) :: (ld, lexD hs ts sio pb fs (.ref f) tc (st.val tst) line tl (T tok) tt) :: (sio, instObj 608 sd) :: (sd, sioD hs2 ts2 (T r) (pos' : Nat) t1 t2 t') :: (pb, dqO dn (pushV push)) :: (fs, dqO fn []) :: (f, kla_obj "<lambda>" qual P b sc [("lexer", cc)] pm c' ct) :: (c', oc) :: (cc, o2) :: news)
    (fun es n' => ∃ msg pos' t t', itemF .str (r.drop pos) = (.refused msg, r.drop pos') ∧ pos' ≤ r.length ∧ es = [.str msg t] ∧ n' = (x, instObj 743 ld) :: (ld, lexD hs ts sio pb fs (.ref f) tc (st.val tst) line tl (T tok) tt) :: (sio, instObj 608 sd) :: (sd, sioD hs2 ts2 (T r) (pos' : Nat) t1 t2 t') :: (pb, dqO dn (pushV push)) :: (fs, dqO fn []) :: (f, kla_obj "<lambda>" qual P b sc [("lexer", cc)] pm c' ct) :: (c', oc) :: (cc, o2) :: news) := by
  have hn9 : ∀ q ∈ (pb, dqO dn (pushV push)) :: (fs, dqO fn []) :: news, q.1 ≠ sd := by
    intro q hq
    obtain ⟨w1, w2, w3, w4, w5, w6, w7, w8⟩ := hlt
    rcases List.mem_cons.mp hq with e | hq
    · rw [e]; exact Nat.ne_of_gt (by omega)
    rcases List.mem_cons.mp hq with e | hq
    · rw [e]; exact Nat.ne_of_gt (by omega)
    exact (hne q hq).2.1
  refine Con.turn (st_spec ((pb, dqO dn (pushV push)) :: (fs, dqO fn []) :: news) hl f c' cc x ld sio sd pb fs qual pm ct (st.val tst) oc o2 vs tq hs hs2 ts ts2 tc r pos line (T tok) t1 t2 t3 tl tt hoc hvs ho2 hn9 h256 ⟨hlt.1, hlt.2.1, hlt.2.2.1, hlt.2.2.2.1, Nat.lt_trans hlt.2.2.2.2.1 (Nat.lt_trans hlt.2.2.2.2.2.1 hlt.2.2.2.2.2.2.1), hlt.2.2.2.2.2.2.2⟩) mem_lexA ?_ ?_
  · rintro v n' ⟨td, pos', t', h1, h2, h3, rfl⟩
    exact ⟨_, ⟨td, pos', t', h1, h2, h3, rfl⟩, mem_lexB⟩
  · rintro es n' ⟨msg, pos', t, t', h1, h2, h3, rfl⟩
    exact ⟨_, ⟨msg, pos', t, t', h1, h2, h3, rfl⟩, mem_lexB⟩
theorem gtl {w : World} (news : List (Addr × Obj)) {P : Arguments} {b : Expr} {sc : Scope} (hl : lamOf (Mine.KK w.params) 759 = some (P, b, sc)) (x ld sio sd pb fs f c' cc : Addr) (qual : Str) (pm ct : Value) (oc o2 : Obj) (vs : Array Value) (tq : Tok)
  (hs hs2 : Nat → Int) (ts ts2 tc : Nat → Tok) (r : List Nat) (pos : Nat) (st : St) (line : Int) (tok : List Nat) (t1 t2 t3 tst tl tt : Tok) (dn fn : Int) (push : List (Nat × Tok))
  (hoc : oc.data = .fields vs) (hvs : vs[1]? = some (.str qual tq)) (ho2 : o2.data = .cell (some (.ref x))) (hne : ∀ q ∈ news, @Ne Nat q.1 ld ∧ @Ne Nat q.1 sd ∧ @Ne Nat q.1 pb)
  (h256 : ∀ c ∈ r, c < 256)
  (hlt : @LT.lt Nat _ cc ld ∧ @LT.lt Nat _ ld x ∧ @LT.lt Nat _ x sd ∧ @LT.lt Nat _ sd sio ∧ @LT.lt Nat _ sio pb ∧ @LT.lt Nat _ pb fs ∧ @LT.lt Nat _ fs c' ∧ @LT.lt Nat _ c' f) (hpush : push.length ≤ 1) :
  Con 3 w 704 ((x, instObj 743 ld) :: (ld, lexD hs ts sio pb fs (.ref f) tc (st.val tst) line tl (T tok) tt) :: (sio, instObj 608 sd) :: (sd, sioD hs2 ts2 (T r) pos t1 t2 t3) :: (pb, dqO dn (pushV push)) :: (fs, dqO fn []) :: (f, kla_obj "<lambda>" qual P b sc [("lexer", cc)] pm c' ct) :: (c', oc) :: (cc, o2) :: news)
    (pos ≤ r.length ∧ r.length < 10000 ∧ tok.length + 2 * (r.length - pos) < 60000 ∧ (st = .ws → tok = []) ∧ st ≠ .wd ∧ (st = .esc → r.length ≤ pos) ∧ (st = .fin → r.length ≤ pos)) [.ref x]
    (fun v n' => (push = [] ∧ ∃ (pos' : Nat) (st' : St) (tok' : List Nat) (line' : Int) (q' : Bool) (push' : List (Nat × Tok)) (dn' : Int) (tv tst' tl' tt' t3' : Tok), Run (r.drop pos) st tok line false .sp (.done (r.drop pos') st' tok' line' q' (push'.map Prod.fst)) ∧ pos' ≤ r.length ∧ v = (if q' = false ∧ tok' = [] then .none else .str (T tok') tv) ∧
      n' = (x, instObj 743 ld) :: (ld, lexD hs ts sio pb fs (.ref f) tc (st'.val tst') line' tl' (T []) tt') :: (sio, instObj 608 sd) :: (sd, sioD hs2 ts2 (T r) pos' t1 t2 t3') :: (pb, dqO dn' (pushV push')) :: (fs, dqO fn []) :: (f, kla_obj "<lambda>" qual P b sc [("lexer", cc)] pm c' ct) :: (c', oc) :: (cc, o2) :: news) ∨
      (∃ (c : Nat) (t : Tok) (dn' : Int), push = [(c, t)] ∧ v = .str (T [c]) t ∧ n' = (x, instObj 743 ld) :: (ld, lexD hs ts sio pb fs (.ref f) tc (st.val tst) line tl (T tok) tt) :: (sio, instObj 608 sd) :: (sd, sioD hs2 ts2 (T r) pos t1 t2 t3) :: (pb, dqO dn' (pushV [])) :: (fs, dqO fn []) :: (f, kla_obj "<lambda>" qual P b sc [("lexer", cc)] pm c' ct) :: (c', oc) :: (cc, o2) :: news))
    (fun es n' => ∃ (k : Bool) (pos' : Nat) (st' : St) (tok' : List Nat) (line' : Int) (tm tst' tl' tt' t3' : Tok), Run (r.drop pos) st tok line false .sp (.bad k st' tok' line') ∧ pos' = r.length ∧ push = [] ∧ es = [.str (bMsg k) tm] ∧
      n' = (x, instObj 743 ld) :: (ld, lexD hs ts sio pb fs (.ref f) tc (st'.val tst') line' tl' (T tok') tt') :: (sio, instObj 608 sd) :: (sd, sioD hs2 ts2 (T r) pos' t1 t2 t3') :: (pb, dqO dn (pushV [])) :: (fs, dqO fn []) :: (f, kla_obj "<lambda>" qual P b sc [("lexer", cc)] pm c' ct) :: (c', oc) :: (cc, o2) :: news) := by
  have hn9 : ∀ y : Addr, @LT.lt Nat _ cc y → @LT.lt Nat _ y fs → (∀ q ∈ news, q.1 ≠ y) → ∀ q ∈ (f, kla_obj "<lambda>" qual P b sc [("lexer", cc)] pm c' ct) :: (c', oc) :: (cc, o2) :: news, q.1 ≠ y := by
    intro y y1 y2 y3 q hq
    obtain ⟨w1, w2, w3, w4, w5, w6, w7, w8⟩ := hlt
    rcases List.mem_cons.mp hq with e | hq
    · rw [e]; exact Nat.ne_of_gt (by omega)
    rcases List.mem_cons.mp hq with e | hq
    · rw [e]; exact Nat.ne_of_gt (by omega)
    rcases List.mem_cons.mp hq with e | hq
    · rw [e]; exact Nat.ne_of_lt (by omega)
    exact y3 q hq
  have w1 := hlt.1
  have w2 := hlt.2.1
  have w3 := hlt.2.2.1
  have w4 := hlt.2.2.2.1
  have w5 := hlt.2.2.2.2.1
  have w6 := hlt.2.2.2.2.2.1
  have w7 := hlt.2.2.2.2.2.2.1
  have w8 := hlt.2.2.2.2.2.2.2
  have z1 := Nat.lt_trans w1 w2
  have z2 := Nat.lt_trans z1 w3
  have z3 := Nat.lt_trans z2 w4
  have z4 := Nat.lt_trans z3 w5
  have y5 := w6
  have y4 := Nat.lt_trans w5 y5
  have y3 := Nat.lt_trans w4 y4
  have y2 := Nat.lt_trans w3 y3
  have y1 := Nat.lt_trans w2 y2
  refine Con.turn (gt_spec ((f, kla_obj "<lambda>" qual P b sc [("lexer", cc)] pm c' ct) :: (c', oc) :: (cc, o2) :: news) x ld sio sd pb fs (.ref f) hs ts hs2 ts2 tc r pos t1 t2 t3 tst tl tt st line tok dn fn (hn9 sd (by omega) (by omega) fun q hq => (hne q hq).2.1) (hn9 ld (by omega) (by omega) fun q hq => (hne q hq).1) (hn9 pb (by omega) (by omega) fun q hq => (hne q hq).2.2) (by omega) (by omega) (by omega) (by omega) (by omega) push hpush) (fun p hp => hp) ?_ ?_
  · rintro v n' (⟨h0, c, push', dn', tv, h1, h2, h3, rfl⟩ | ⟨c, t, dn', h1, h2, rfl⟩)
    · exact ⟨_, .inl ⟨h0, c.pos, c.st, c.tok, c.line, c.q, push', dn', tv, c.tst, c.tl, c.tt, c.t3, h1, h2, h3, rfl⟩, fun p hp => hp⟩
    · exact ⟨_, .inr ⟨c, t, dn', h1, h2, rfl⟩, fun p hp => hp⟩
  · rintro es n' ⟨k, c, tm, h1, h2, h3, h4, rfl⟩
    refine ⟨_, ⟨k, c.pos, c.st, c.tok, c.line, tm, c.tst, c.tl, c.tt, c.t3, h1, h2, h3, h4, ?_⟩, fun p hp => hp⟩
    rfl
end Mine
namespace Mine
section
variable {lv : Nat} {w : World} {f : Addr} {led : List (Addr × Obj)} {pre : Prop} {vs : List Value} {kind : Deed} {r : List Nat} {pos : Nat}
  {p : Program} {loose : List Str} {mean : ExcName → Option Value} {mg mb : Str → Option Value} {dp un : Nat} {gd : Option (List Code)} {cn : Str} {cs : Scope} {a : Addr} {ccd : Value} {cl : List (Str × Addr)} {outer : List Env} {A₀ : Around} {base h₀ : Heap} {L : Addr} {m : Str → Option Value} {s : Shared} {Q E : Value → Shared → Prop}
theorem Con.useRd {g : Nat → Tok → List (Addr × Obj)} (C : Con lv w f led pre vs (fun v n' => ∃ td pos' t', itemF kind (r.drop pos) = (td, r.drop pos') ∧ pos' ≤ r.length ∧ ToldIn [] v td ∧ n' = g pos' t') (fun es n' => ∃ msg pos' t t', itemF kind (r.drop pos) = (.refused msg, r.drop pos') ∧ pos' ≤ r.length ∧ es = [.str msg t] ∧ n' = g pos' t'))
    (B : Below A₀ base outer h₀) (F : Fr h₀ L s.heap m) (X : (Mine.KK w.params).In h₀) (N : News h₀ L s.heap led) (T : Top p loose mean mg mb h₀) (hk : cs.kind = .function) (hp : pre) (hd : dp + 5 * lv < recursionLimit) (hu : un + 40 * lv < cLine)
    (ret : ∀ v td pos' t' h' tk', itemF kind (r.drop pos) = (td, r.drop pos') → pos' ≤ r.length → ToldIn [] v td → Fr h₀ L h' m → News h₀ L h' (g pos' t') → Q v { s with heap := h', toks := tk' })
    (exc : ∀ msg pos' t t' e tt g' h' tk', itemF kind (r.drop pos) = (.refused msg, r.drop pos') → pos' ≤ r.length → Fr h₀ L g' m → RaisedS base g' (envX cn cs L a ccd cl :: outer) e (.type "ValueError") tt [.str msg t] (g pos' t') h' → RaisedK base (envX cn cs L a ccd cl :: outer) e (.type "ValueError") tt [.str msg t] (g pos' t') h' → g'.UpToSlots h' → E (.ref e) { s with heap := h', toks := tk' }) :
    wpAny (model PySem.Challenge.pw_in0151_01 w) (ktrTop dp un gd cn cs L a ccd cl outer) (call (.ref f) vs) Q E s :=
  Con.use C B F X N T hk hp hd hu (fun v h' tk' n' hv F' N' => by
    obtain ⟨td, pos', t', h1, h2, h3, e⟩ := hv
    exact ret v td pos' t' h' tk' h1 h2 h3 F' (e ▸ N')) (fun e tt g' h' tk' es n' hv F' R1 R2 U => by
    obtain ⟨msg, pos', t, t', h1, h2, e1, e2⟩ := hv
    subst e1 e2
    exact exc msg pos' t t' e tt g' h' tk' h1 h2 F' R1 R2 U)
theorem Con.useGt {push : List (Nat × Tok)} {st : St} {tok : List Nat} {line : Int} {g : Nat → St → Int → Tok → Tok → Tok → Tok → Int → List (Nat × Tok) → List (Addr × Obj)} {g2 : Int → List (Addr × Obj)} {g3 : Nat → St → List Nat → Int → Tok → Tok → Tok → Tok → List (Addr × Obj)}
    (C : Con lv w f led pre vs (fun v n' => (push = [] ∧ ∃ (pos' : Nat) (st' : St) (tok' : List Nat) (line' : Int) (q' : Bool) (push' : List (Nat × Tok)) (dn' : Int) (tv tst' tl' tt' t3' : Tok), Run (r.drop pos) st tok line false .sp (.done (r.drop pos') st' tok' line' q' (push'.map Prod.fst)) ∧ pos' ≤ r.length ∧ v = (if q' = false ∧ tok' = [] then .none else .str (T tok') tv) ∧ n' = g pos' st' line' tst' tl' tt' t3' dn' push') ∨
      (∃ (c : Nat) (t : Tok) (dn' : Int), push = [(c, t)] ∧ v = .str (T [c]) t ∧ n' = g2 dn'))
      (fun es n' => ∃ (k : Bool) (pos' : Nat) (st' : St) (tok' : List Nat) (line' : Int) (tm tst' tl' tt' t3' : Tok), Run (r.drop pos) st tok line false .sp (.bad k st' tok' line') ∧ pos' = r.length ∧ push = [] ∧ es = [.str (bMsg k) tm] ∧ n' = g3 pos' st' tok' line' tst' tl' tt' t3'))
    (B : Below A₀ base outer h₀) (F : Fr h₀ L s.heap m) (X : (Mine.KK w.params).In h₀) (N : News h₀ L s.heap led) (T' : Top p loose mean mg mb h₀) (hk : cs.kind = .function) (hp : pre) (hd : dp + 5 * lv < recursionLimit) (hu : un + 40 * lv < cLine)
    (ret : ∀ pos' st' tok' line' q' push' dn' tv tst' tl' tt' t3' h' tk', push = [] → Run (r.drop pos) st tok line false .sp (.done (r.drop pos') st' tok' line' q' (push'.map Prod.fst)) → pos' ≤ r.length → Fr h₀ L h' m → News h₀ L h' (g pos' st' line' tst' tl' tt' t3' dn' push') → Q (if q' = false ∧ tok' = [] then .none else .str (T tok') tv) { s with heap := h', toks := tk' })
    (ret2 : ∀ c t dn' h' tk', push = [(c, t)] → Fr h₀ L h' m → News h₀ L h' (g2 dn') → Q (.str (T [c]) t) { s with heap := h', toks := tk' })
    (exc : ∀ k pos' st' tok' line' tm tst' tl' tt' t3' e tt g' h' tk', Run (r.drop pos) st tok line false .sp (.bad k st' tok' line') → pos' = r.length → push = [] → Fr h₀ L g' m → RaisedS base g' (envX cn cs L a ccd cl :: outer) e (.type "ValueError") tt [.str (bMsg k) tm] (g3 pos' st' tok' line' tst' tl' tt' t3') h' → RaisedK base (envX cn cs L a ccd cl :: outer) e (.type "ValueError") tt [.str (bMsg k) tm] (g3 pos' st' tok' line' tst' tl' tt' t3') h' → g'.UpToSlots h' → E (.ref e) { s with heap := h', toks := tk' }) :
    wpAny (model PySem.Challenge.pw_in0151_01 w) (ktrTop dp un gd cn cs L a ccd cl outer) (call (.ref f) vs) Q E s :=
  Con.use C B F X N T' hk hp hd hu (fun v h' tk' n' hv F' N' => by
    rcases hv with ⟨h0, pos', st', tok', line', q', push', dn', tv, tst', tl', tt', t3', h1, h2, e1, e2⟩ | ⟨c, t, dn', h0, e1, e2⟩
    · subst e1 e2; exact ret pos' st' tok' line' q' push' dn' tv tst' tl' tt' t3' h' tk' h0 h1 h2 F' N'
    · subst e1 e2; exact ret2 c t dn' h' tk' h0 F' N') (fun e tt g' h' tk' es n' hv F' R1 R2 U => by
    obtain ⟨k, pos', st', tok', line', tm, tst', tl', tt', t3', h1, h2, h3, e1, e2⟩ := hv
    subst e1 e2
    exact exc k pos' st' tok' line' tm tst' tl' tt' t3' e tt g' h' tk' h1 h2 h3 F' R1 R2 U)
end
end Mine

end
section
open Mine
theorem Mine.pre_Tl : PySem.Challenge.rw_in0151_01 = PySem.Challenge.rw_in0151_01 ∧ Mine.KK = Mine.KK := by
  k_with "call ref" => (k_here; (try simp only [List.nil_append, List.cons_append, List.append_nil]); (with_reducible show wpAny _ _ (call (Value.ref 704) [Value.ref _]) _ _ _); k_dflt (refine' Mine.Con.useGt (Mine.gtl _ ?sl_z _ _ _ _ _ _ _ _ _ _ _ _ _ _ _ _ _ _ _ _ _ _ _ _ _ _ _ _ _ _ _ _ _ _ _ ?so_z ?sv_z ?s2_z ?sn_z ?sh_z ?st_z ?sp_z) ?k1_z ?k2_z ?k3_z ?k4_z ?k5_z ?kK_z ?kp_z ?kd_z ?ku_z ?_ ?_ ?_; (case k1_z => k_asm); (case k2_z => k_asm); (case k3_z => k_asm); (case k4_z => k_asm); (case k5_z => k_asm); (case kK_z => first | exact rfl | assumption); (case sl_z => assumption); (case so_z => assumption); (case sv_z => assumption); (case s2_z => assumption); (case sn_z => assumption); (case sh_z => assumption); (case st_z => assumption); (case sp_z => exact Mine.LS.h1 (by assumption)); (case kp_z => exact Mine.LS.pre (by assumption)); (case kd_z => ktr_room); (case ku_z => ktr_units)); k_dflt (all_goals first
    | (intro posaz staz tokaz lineaz qaz pushaz dnaz tvaz tstaz tlaz ttaz t3az haz tkaz hpuz hRunz hlez Faz Naz; subst hpuz; (try k_sweep))
    | (intro caz tbz dnaz haz tkaz hpuz Faz Naz; subst hpuz; (try k_sweep))
    | (intro kaz posaz staz tokaz lineaz tmaz tstaz tlaz ttaz t3az eaz tbz gaz haz tkaz hRunz hlez hpuz Faz Raz Rbz Uaz; subst hpuz)))
  k_with "call ref" => (k_here; (with_reducible show wpAny _ _ (call (Value.ref 46) [Value.ref _]) _ _ _); k_dflt (refine' Mine.Con.useRd (Mine.rd46 _ ?sl_z _ _ _ _ _ _ _ _ _ _ _ _ _ _ _ _ _ _ _ _ _ _ _ _ _ _ _ _ _ _ _ _ _ _ _ ?so_z ?sv_z ?s2_z ?sn_z ?sh_z ?st_z ?sp_z) ?k1_z ?k2_z ?k3_z ?k4_z ?k5_z ?kK_z ?kp_z ?kd_z ?ku_z ?_ ?_; (case k1_z => k_asm); (case k2_z => k_asm); (case k3_z => k_asm); (case k4_z => k_asm); (case k5_z => k_asm); (case kK_z => first | exact rfl | assumption); (case sl_z => assumption); (case so_z => assumption); (case sv_z => assumption); (case s2_z => assumption); (case sn_z => assumption); (case sh_z => assumption); (case st_z => assumption); (case sp_z => exact Mine.LS.hp (by assumption)); (case kp_z => exact ⟨Mine.LS.hp (by assumption), Mine.LS.hr (by assumption)⟩); (case kd_z => ktr_room); (case ku_z => ktr_units)); k_dflt (all_goals first
    | (intro vaz tdz posaz taz haz tkaz hIz hlez hTz Faz Naz; (try k_sweep))
    | (intro msgz posaz tbz tc'z eaz ttaz gaz haz tkaz hIz hlez Faz Raz Rbz Uaz; skip)))
  k_with "call ref" => (k_here; (with_reducible show wpAny _ _ (call (Value.ref 60) [Value.ref _]) _ _ _); k_dflt (refine' Mine.Con.useRd (Mine.rd60 _ ?sl_z _ _ _ _ _ _ _ _ _ _ _ _ _ _ _ _ _ _ _ _ _ _ _ _ _ _ _ _ _ _ _ _ _ _ _ ?so_z ?sv_z ?s2_z ?sn_z ?sh_z ?st_z ?sp_z) ?k1_z ?k2_z ?k3_z ?k4_z ?k5_z ?kK_z ?kp_z ?kd_z ?ku_z ?_ ?_; (case k1_z => k_asm); (case k2_z => k_asm); (case k3_z => k_asm); (case k4_z => k_asm); (case k5_z => k_asm); (case kK_z => first | exact rfl | assumption); (case sl_z => assumption); (case so_z => assumption); (case sv_z => assumption); (case s2_z => assumption); (case sn_z => assumption); (case sh_z => assumption); (case st_z => assumption); (case sp_z => exact Mine.LS.hp (by assumption)); (case kp_z => exact ⟨Mine.LS.hp (by assumption), Mine.LS.hr (by assumption)⟩); (case kd_z => ktr_room); (case ku_z => ktr_units)); k_dflt (all_goals first
    | (intro vaz tdz posaz taz haz tkaz hIz hlez hTz Faz Naz; (try k_sweep))
    | (intro msgz posaz tbz tc'z eaz ttaz gaz haz tkaz hIz hlez Faz Raz Rbz Uaz; skip)))
  k_with "call ref" => (k_here; (with_reducible show wpAny _ _ (call (Value.ref 53) [Value.ref _]) _ _ _); k_dflt (refine' Mine.Con.useRd (Mine.rd53 _ ?sl_z _ _ _ _ _ _ _ _ _ _ _ _ _ _ _ _ _ _ _ _ _ _ _ _ _ _ _ _ _ _ _ _ _ _ _ ?so_z ?sv_z ?s2_z ?sn_z ?sh_z ?st_z ?sp_z) ?k1_z ?k2_z ?k3_z ?k4_z ?k5_z ?kK_z ?kp_z ?kd_z ?ku_z ?_ ?_; (case k1_z => k_asm); (case k2_z => k_asm); (case k3_z => k_asm); (case k4_z => k_asm); (case k5_z => k_asm); (case kK_z => first | exact rfl | assumption); (case sl_z => assumption); (case so_z => assumption); (case sv_z => assumption); (case s2_z => assumption); (case sn_z => assumption); (case sh_z => assumption); (case st_z => assumption); (case sp_z => exact Mine.LS.hp (by assumption)); (case kp_z => exact ⟨Mine.LS.hp (by assumption), Mine.LS.hr (by assumption)⟩); (case kd_z => ktr_room); (case ku_z => ktr_units)); k_dflt (all_goals first
    | (intro vaz tdz posaz taz haz tkaz hIz hlez hTz Faz Naz; (try k_sweep))
    | (intro msgz posaz tbz tc'z eaz ttaz gaz haz tkaz hIz hlez Faz Raz Rbz Uaz; skip)))
  k_with "my enterT" => (refine' Mine.code_defSX ?k1_z ?k2_z ?k3_z ?k4_z ?k5_z ?kA_z ?k6_z ?k7_z ?k8_z ?k9_z ?kB_z ?_ ?cK_z ?c2_z ?c3_z ?c4_z ?c5_z; (case kA_z => exact rfl); (case k2_z => k_asm); (case k1_z => k_asm); (case k3_z => k_asm); (case k4_z => k_asm); (case k5_z => k_asm); (case k6_z => k_is); (case k7_z => k_is); (case k8_z => ktr_room); (case k9_z => first | exact binds_K (by k_in) rfl (by k_is) rfl rfl rfl | exact BindsTo.of_eq rfl); (case kB_z => exact locs rfl); (case cK_z => first | exact rfl | assumption); (case c2_z => exact rfl); (case c3_z => exact rfl); (case c4_z => exact rfl); (case c5_z => decide); k_whole; intro G LL h1 FG F1 N1 B1 X1 T1 D'; (try dsimp only); (try k_lift B1); (try k_fold))
  exact ⟨rfl, rfl⟩

namespace Mine
theorem told_spec {w : World} (news : List (Addr × Obj)) {P : Arguments} {b : Expr} {sc : Scope} (hl : lamOf (Mine.KK w.params) 759 = some (P, b, sc)) (x ld sio sd pb fs f c' cc : Addr) (qual : Str) (pm ct : Value) (oc o2 : Obj) (vs : Array Value) (tq : Tok)
  (hs hs2 : Nat → Int) (ts ts2 tc : Nat → Tok) (r : List Nat) (pos : Nat) (k : Deed) (kt : Tok) (ms : MS) (st : St) (line : Int) (tok : List Nat) (t1 t2 t3 tst tl tt : Tok) (dn fn : Int) (push : List (Nat × Tok))
  (hoc : oc.data = .fields vs) (hvs : vs[1]? = some (.str qual tq)) (ho2 : o2.data = .cell (some (.ref x))) (hne : ∀ q ∈ news, @Ne Nat q.1 ld ∧ @Ne Nat q.1 sd ∧ @Ne Nat q.1 pb)
  (h256 : ∀ c ∈ r, c < 256)
  (hlt : @LT.lt Nat _ cc ld ∧ @LT.lt Nat _ ld x ∧ @LT.lt Nat _ x sd ∧ @LT.lt Nat _ sd sio ∧ @LT.lt Nat _ sio pb ∧ @LT.lt Nat _ pb fs ∧ @LT.lt Nat _ fs c' ∧ @LT.lt Nat _ c' f) (hLS : LS r ms pos st line tok push) :
  ∀ (p : Program) (loose : List Str) (mean : ExcName → Option Value) (mg mb : Str → Option Value) (dp un : Nat) (gd : Option (List Code)) (cn : Str) (cs : Scope) (a : Addr) (ccd : Value) (cl : List (Str × Addr)) (A₀ : Around) (base h₀ : Heap) (L : Addr) (m : Str → Option Value) (s : Shared) (Q E : Value → Shared → Prop),
    Below A₀ base [] h₀ → Fr h₀ L s.heap m → (Mine.KK w.params).In h₀ → News h₀ L s.heap ((x, instObj 743 ld) :: (ld, lexD hs ts sio pb fs (.ref f) tc (st.val tst) line tl (T tok) tt) :: (sio, instObj 608 sd) :: (sd, sioD hs2 ts2 (T r) pos t1 t2 t3) :: (pb, dqO dn (pushV push)) :: (fs, dqO fn []) :: (f, kla_obj "<lambda>" qual P b sc [("lexer", cc)] pm c' ct) :: (c', oc) :: (cc, o2) :: news) → Top p loose mean mg mb h₀ → (Mine.KK w.params).In base → Top p loose mean mg mb base → cs.kind = .function →
    dp + 35 < recursionLimit → un + 280 < cLine →
    (∀ (v : Value) (h' : Heap) (tk' : Nat) (td : Told) (ms' : MS) (pos' : Nat) (st' : St) (line' : Int) (tok' : List Nat) (push' : List (Nat × Tok)) (dn' : Int) (tst' tl' tt' t3' : Tok) (own : List (Addr × Obj)),
      StepT ms k td ms' → LS r ms' pos' st' line' tok' push' → ToldIn own v td → (∀ q ∈ own, @LT.lt Nat _ f q.1) → (∀ q ∈ own, ∀ p ∈ news, @LT.lt Nat _ p.1 q.1) → Fr h₀ L h' m → News h₀ L h' ((x, instObj 743 ld) :: (ld, lexD hs ts sio pb fs (.ref f) tc (st'.val tst') line' tl' (T tok') tt') :: (sio, instObj 608 sd) :: (sd, sioD hs2 ts2 (T r) pos' t1 t2 t3') :: (pb, dqO dn' (pushV push')) :: (fs, dqO fn []) :: (f, kla_obj "<lambda>" qual P b sc [("lexer", cc)] pm c' ct) :: (c', oc) :: (cc, o2) :: (own ++ news)) → Q v { s with heap := h', toks := tk' }) →
      wpAny (model PySem.Challenge.pw_in0151_01 w) (ktrTop dp un gd cn cs L a ccd cl []) (call (.ref 766) [.ref x, .str k.name kt]) Q E s := by
  intro p loose mean mg mb dp un gd cn cs a ccd cl A₀ base h₀ L m s Q E hB hF hX hN hT hXB hTB hk hdp hun hret
  cases k
  all_goals
    dsimp only [Deed.name]
    refine wpAny_call ?_
    k_dflt (walk_at "my enterT")
    k_steps
  · have z := hLS.done (by assumption) (by assumption)
    refine' hret _ _ _ _ _ _ _ _ _ _ _ _ _ _ _ [] z.1 z.2 ?_ (List.forall_mem_nil _) (List.forall_mem_nil _) (by assumption) (by assumption)
    split
    · exact .none
    · exact .str _ _
  · have z := hLS.push
    refine' hret _ _ _ _ _ _ _ _ _ _ _ _ _ _ _ [] z.1 z.2 (.str _ _) (List.forall_mem_nil _) (List.forall_mem_nil _) (by assumption) (by assumption)
  · obtain ⟨ms', z1, z2⟩ := hLS.bad (by assumption) (by assumption)
    refine' hret _ _ _ _ _ _ _ _ _ _ _ _ _ _ _ [(_, _)] z1 z2 (.refused _ _ _ _ (.head _)) (List.forall_mem_cons.mpr ⟨?_, List.forall_mem_nil _⟩) (List.forall_mem_cons.mpr ⟨kst_ltOf (by with_reducible assumption : _ ∧ _ ∧ _ ∧ _ ∧ _ ∧ _ ∧ _ ∧ _ ∧ _ ∧ AllLt _ news).2.2.2.2.2.2.2.2.2, List.forall_mem_nil _⟩) (by assumption) (News.sub (by assumption) (by kcf_all))
    omega
  · have z := hLS.item (k := .str) (fun h => nomatch h) (by assumption) (by assumption)
    refine' hret _ _ _ _ _ _ _ _ _ _ _ _ _ _ _ [] z.1 z.2 (by assumption) (List.forall_mem_nil _) (List.forall_mem_nil _) (by assumption) (by assumption)
  · have z := hLS.item (k := .str) (fun h => nomatch h) (by assumption) (by assumption)
    refine' hret _ _ _ _ _ _ _ _ _ _ _ _ _ _ _ [(_, _)] z.1 z.2 (.refused _ _ _ _ (.head _)) (List.forall_mem_cons.mpr ⟨?_, List.forall_mem_nil _⟩) (List.forall_mem_cons.mpr ⟨kst_ltOf (by with_reducible assumption : _ ∧ _ ∧ _ ∧ _ ∧ _ ∧ _ ∧ _ ∧ _ ∧ _ ∧ AllLt _ news).2.2.2.2.2.2.2.2.2, List.forall_mem_nil _⟩) (by assumption) (News.sub (by assumption) (by kcf_all))
    omega
  · have z := hLS.item (k := .byt) (fun h => nomatch h) (by assumption) (by assumption)
    refine' hret _ _ _ _ _ _ _ _ _ _ _ _ _ _ _ [] z.1 z.2 (by assumption) (List.forall_mem_nil _) (List.forall_mem_nil _) (by assumption) (by assumption)
  · have z := hLS.item (k := .byt) (fun h => nomatch h) (by assumption) (by assumption)
    refine' hret _ _ _ _ _ _ _ _ _ _ _ _ _ _ _ [(_, _)] z.1 z.2 (.refused _ _ _ _ (.head _)) (List.forall_mem_cons.mpr ⟨?_, List.forall_mem_nil _⟩) (List.forall_mem_cons.mpr ⟨kst_ltOf (by with_reducible assumption : _ ∧ _ ∧ _ ∧ _ ∧ _ ∧ _ ∧ _ ∧ _ ∧ _ ∧ AllLt _ news).2.2.2.2.2.2.2.2.2, List.forall_mem_nil _⟩) (by assumption) (News.sub (by assumption) (by kcf_all))
    omega
  · have z := hLS.item (k := .oct) (fun h => nomatch h) (by assumption) (by assumption)
    refine' hret _ _ _ _ _ _ _ _ _ _ _ _ _ _ _ [] z.1 z.2 (by assumption) (List.forall_mem_nil _) (List.forall_mem_nil _) (by assumption) (by assumption)
  · have z := hLS.item (k := .oct) (fun h => nomatch h) (by assumption) (by assumption)
    refine' hret _ _ _ _ _ _ _ _ _ _ _ _ _ _ _ [(_, _)] z.1 z.2 (.refused _ _ _ _ (.head _)) (List.forall_mem_cons.mpr ⟨?_, List.forall_mem_nil _⟩) (List.forall_mem_cons.mpr ⟨kst_ltOf (by with_reducible assumption : _ ∧ _ ∧ _ ∧ _ ∧ _ ∧ _ ∧ _ ∧ _ ∧ _ ∧ AllLt _ news).2.2.2.2.2.2.2.2.2, List.forall_mem_nil _⟩) (by assumption) (News.sub (by assumption) (by kcf_all))
    omega
end Mine

end
section
open Mine
namespace Mine
inductive LxR (w : World) (r : List Nat) (news : List (Addr × Obj)) (v : Value) (n' : List (Addr × Obj)) : Prop
  | mk (x ld sio sd pb fs f c' cc : Addr) (P : Arguments) (b : Expr) (sc : Scope) (qual : Str) (pm ct : Value) (oc o2 : Obj) (vs : Array Value) (tq : Tok) (hs hs2 : Nat → Int) (ts ts2 tc : Nat → Tok) (t1 t2 t3 tst tl tt : Tok) (ps : Array Value) : lamOf (Mine.KK w.params) 759 = some (P, b, sc) → v = .ref x → oc.data = .fields vs → vs[1]? = some (.str qual tq) → o2.data = .cell (some (.ref x)) → (@LT.lt Nat _ 754 cc ∧ @LT.lt Nat _ cc ld ∧ @LT.lt Nat _ ld x ∧ @LT.lt Nat _ x sd ∧ @LT.lt Nat _ sd sio ∧ @LT.lt Nat _ sio pb ∧ @LT.lt Nat _ pb fs ∧ @LT.lt Nat _ fs c' ∧ @LT.lt Nat _ c' f) → (∀ q ∈ news, @LT.lt Nat _ q.1 cc) → n' = (x, instObj 743 ld) :: (ld, lexD hs ts sio pb fs (.ref f) tc (.str (Str.ofString " ") tst) 1 tl (Str.ofString "") tt) :: (sio, instObj 608 sd) :: (sd, sioD hs2 ts2 (T r) 0 t1 t2 t3) :: (pb, dqO 0 []) :: (fs, dqO 0 []) :: (f, kla_obj "<lambda>" qual P b sc [("lexer", cc)] pm c' ct) :: (c', oc) :: (cc, o2) :: (754, tabObj ps) :: news → LxR w r news v n'
theorem lx_close {w : World} {h₀ h : Heap} {L : Addr} {news : List (Addr × Obj)} {r : List Nat} {x ld sio sd pb fs f c' cc : Addr} {ps : Array Value} {P : Arguments} {b : Expr} {sc : Scope} {qual : Str} {pm ct : Value} {oc o2 : Obj} {vs : Array Value} {tq : Tok} {hs hs2 : Nat → Int} {ts ts2 tc : Nat → Tok} {t1 t2 t3 tst tl tt k19 : Tok} {h19 : Int}
    (N : News h₀ L h ((f, kla_obj "<lambda>" qual P b sc [("lexer", cc)] pm c' ct) :: (c', oc) :: (fs, dqO 0 []) :: (pb, dqO 0 []) :: (sio, instObj 608 sd) :: (sd, sioD hs2 ts2 (T r) 0 t1 t2 t3) :: (x, instObj 743 ld) ::
      (ld, dictOf [en hs ts 0 "instream" (.ref sio), en hs ts 1 "infile" .none, en hs ts 2 "posix" (.bool true), en hs ts 3 "eof" .none,
    en hs ts 4 "commenters" (.str (Str.ofString "#") (tc 4)), en hs ts 5 "wordchars" (.str wcs (tc 5)), en hs ts 6 "whitespace" (.str (Str.ofString " \t\r\n") (tc 6)),
    en hs ts 7 "whitespace_split" (.bool false), en hs ts 8 "quotes" (.str (Str.ofString "'\"") (tc 8)), en hs ts 9 "escape" (.str (Str.ofString "\\") (tc 9)),
    en hs ts 10 "escapedquotes" (.str (Str.ofString "\"") (tc 10)), en hs ts 11 "state" (.str (Str.ofString " ") tst), en hs ts 12 "pushback" (.ref pb), en hs ts 13 "lineno" (.int 1 tl),
    en hs ts 14 "debug" (.int 0 (tc 14)), en hs ts 15 "token" (.str (Str.ofString "") tt), en hs ts 16 "filestack" (.ref fs), en hs ts 17 "source" .none,
    en hs ts 18 "_punctuation_chars" (.str (Str.ofString "") (tc 18)), ⟨h19, .str (Str.ofString "read") k19, .ref f⟩] 20) :: (cc, o2) :: (754, tabObj ps) :: news))
    (hl : lamOf (Mine.KK w.params) 759 = some (P, b, sc)) (e1 : oc.data = .fields vs) (e2 : vs[1]? = some (.str qual tq)) (e3 : o2.data = .cell (some (.ref x)))
    (ho : @LT.lt Nat _ 754 cc ∧ @LT.lt Nat _ cc ld ∧ @LT.lt Nat _ ld x ∧ @LT.lt Nat _ x sd ∧ @LT.lt Nat _ sd sio ∧ @LT.lt Nat _ sio pb ∧ @LT.lt Nat _ pb fs ∧ @LT.lt Nat _ fs c' ∧ @LT.lt Nat _ c' f) (hn : ∀ q ∈ news, @LT.lt Nat _ q.1 cc) :
    ∃ n', LxR w r news (.ref x) n' ∧ News h₀ L h n' := by
  refine ⟨_, ⟨x, ld, sio, sd, pb, fs, f, c', cc, P, b, sc, qual, pm, ct, oc, o2, vs, tq, fun i => if i = 19 then h19 else hs i, hs2, fun i => if i = 19 then k19 else ts i, ts2, tc, t1, t2, t3, tst, tl, tt, ps, hl, rfl, e1, e2, e3, ho, hn, rfl⟩, News.sub N ?_⟩
  intro q hq
  simp only [List.mem_cons] at hq ⊢
  rcases hq with e | e | e | e | e | e | e | e | e | e | e
  · exact .inr (.inr (.inr (.inr (.inr (.inr (.inl e))))))
  · exact .inr (.inr (.inr (.inr (.inr (.inr (.inr (.inl e)))))))
  · exact .inr (.inr (.inr (.inr (.inl e))))
  · exact .inr (.inr (.inr (.inr (.inr (.inl e)))))
  · exact .inr (.inr (.inr (.inl e)))
  · exact .inr (.inr (.inl e))
  · exact .inl e
  · exact .inr (.inl e)
  · exact .inr (.inr (.inr (.inr (.inr (.inr (.inr (.inr (.inl e))))))))
  · exact .inr (.inr (.inr (.inr (.inr (.inr (.inr (.inr (.inr (.inl e)))))))))
  · exact .inr (.inr (.inr (.inr (.inr (.inr (.inr (.inr (.inr (.inr e)))))))))
end Mine

end
section
open Mine
namespace Mine
open PySem PySem.Calls PyProof.Rows Builtin Builtin.ObjectAttr
theorem mk_by {K : Frag} {M : Model} {h : Heap} (X : K.In h) {C : Addr} {o : Obj} {cd : ClassData} (ho : K.lookup C = some o) (hc : clsIn K C = some cd) (hs : o.slots[4]? = some (some .none)) (hm : ∃ c l, cd.mro = c :: l) :
    Looks M h (Bind.madeBy (.ref C)) none := by
  have hM : Looks M h (mroOf (.ref C)) cd.mro := (looks_clsIn X hc).andThen .now
  obtain ⟨c, l, hl⟩ := hm
  intro A Q E s k q
  unfold Bind.madeBy
  refine wpAny_bind (hM A _ E s k ?_)
  rw [hl, List.forIn_cons]
  refine wpAny_bind (wpAny_bind (wpAny_bind (wpAny_bind (wpAny_loadPart (k _ _ (X _ _ ho)) (wpAny_pure ?_)))))
  dsimp only
  rw [hs]
  exact wpAny_pure (wpAny_pure (wpAny_pure q))
theorem mk_obj {M : Model} {h : Heap} : Looks M h (Bind.madeBy (.type "object")) (some "object.__new__") := by
  have hm : Looks M h (mroOf (.type "object")) [.type "object"] := Looks.of_pure (by kernel_rfl)
  have hn : Looks M h (typeLookup (.type "object") "__new__") (some (.builtin "object.__new__")) := Looks.of_pure (by rw [typeLookup_type, builtinLookup_eq_fast]; kernel_rfl)
  intro A Q E s k q
  unfold Bind.madeBy
  refine wpAny_bind (hm A _ E s k ?_)
  rw [List.forIn_cons]
  refine wpAny_bind (wpAny_bind ?_)
  dsimp only
  refine wpAny_bind (hn A _ E s k ?_)
  have e1 : ("object.__new__" : String).endsWith ".__new__" = true := by decide +kernel
  dsimp only
  simp only [e1, Bool.not_true, Bool.false_eq_true, if_false]
  exact wpAny_pure (wpAny_pure (wpAny_pure q))
theorem mk_slots {K : Frag} {M : Model} {h : Heap} (X : K.In h) {C : Addr} {cd : ClassData} (hc : clsIn K C = some cd) : Looks M h (Slots.slotNamesOf (.ref C)) cd.slotNames := by
  unfold Slots.slotNamesOf
  exact (looks_clsIn X hc).andThen .now
theorem mk_slots_obj {M : Model} {h : Heap} : Looks M h (Slots.slotNamesOf (.type "object")) [] := by
  have hm : Looks M h (mroOf (.type "object")) [.type "object"] := Looks.of_pure (by kernel_rfl)
  unfold Slots.slotNamesOf
  refine hm.andThen (Looks.of_pure ?_)
  kernel_rfl
theorem mk_adds {K : Frag} {M : Model} {h : Heap} (X : K.In h) {C : Addr} {cd : ClassData} {b : Value} (hc : clsIn K C = some cd) (hs : cd.slotNames = []) (hb : cd.bases = [b]) (hB : Looks M h (Slots.slotNamesOf b) []) :
    Looks M h (Slots.addsLayout (.ref C)) false := by
  unfold Slots.addsLayout
  refine (looks_clsIn X hc).andThen ?_
  rw [hb, hs]
  intro A Q E s k q
  dsimp only
  rw [List.forIn_cons]
  refine wpAny_bind (wpAny_bind (wpAny_bind (hB A _ E s k ?_)))
  exact wpAny_pure (wpAny_pure (wpAny_pure q))
theorem mk_adds_obj {M : Model} {h : Heap} : Looks M h (Slots.addsLayout (.type "object")) false := Looks.of_pure (by kernel_rfl)
theorem mk_solid_obj {M : Model} {h : Heap} : Looks M h (Slots.solid (.type "object")) (.type "object") := by
  have hm : Looks M h (mroOf (.type "object")) [.type "object"] := Looks.of_pure (by kernel_rfl)
  have ho := @mk_adds_obj M h
  unfold Slots.solid
  refine hm.andThen ?_
  intro A Q E s k q
  rw [List.forIn_cons]
  refine wpAny_bind (wpAny_bind (wpAny_bind (ho A _ E s k ?_)))
  dsimp only
  simp only [Bool.false_eq_true, if_false]
  split <;> exact wpAny_pure (wpAny_pure (wpAny_pure q))
theorem mk_solid1 {M : Model} {h : Heap} {C : Addr} (hm : Looks M h (mroOf (.ref C)) [.ref C, .type "object"]) (h1 : Looks M h (Slots.addsLayout (.ref C)) false) : Looks M h (Slots.solid (.ref C)) (.type "object") := by
  have ho := @mk_adds_obj M h
  unfold Slots.solid
  refine hm.andThen ?_
  intro A Q E s k q
  rw [List.forIn_cons]
  refine wpAny_bind (wpAny_bind (wpAny_bind (h1 A _ E s k ?_)))
  dsimp only
  simp only [Bool.false_eq_true, if_false]
  refine wpAny_pure ?_
  dsimp only
  rw [List.forIn_cons]
  refine (wpAny_bind (wpAny_bind (ho A _ E s k ?_)))
  dsimp only
  simp only [Bool.false_eq_true, if_false]
  split <;> exact wpAny_pure (wpAny_pure (wpAny_pure q))
theorem mk_solid2 {M : Model} {h : Heap} {C D : Addr} (hm : Looks M h (mroOf (.ref C)) [.ref C, .ref D, .type "object"]) (h1 : Looks M h (Slots.addsLayout (.ref C)) false) (h2 : Looks M h (Slots.addsLayout (.ref D)) false) : Looks M h (Slots.solid (.ref C)) (.type "object") := by
  have ho := @mk_adds_obj M h
  unfold Slots.solid
  refine hm.andThen ?_
  intro A Q E s k q
  rw [List.forIn_cons]
  refine wpAny_bind (wpAny_bind (wpAny_bind (h1 A _ E s k ?_)))
  dsimp only
  simp only [Bool.false_eq_true, if_false]
  refine wpAny_pure ?_
  dsimp only
  rw [List.forIn_cons]
  refine (wpAny_bind (wpAny_bind (h2 A _ E s k ?_)))
  dsimp only
  simp only [Bool.false_eq_true, if_false]
  refine wpAny_pure ?_
  dsimp only
  rw [List.forIn_cons]
  refine (wpAny_bind (wpAny_bind (ho A _ E s k ?_)))
  dsimp only
  simp only [Bool.false_eq_true, if_false]
  split <;> exact wpAny_pure (wpAny_pure (wpAny_pure q))
theorem mk_best {M : Model} {h : Heap} {b : Value} {r : Value} (hs : Looks M h (Slots.solid b) r) : Looks M h (Slots.bestBase [b]) b := by
  unfold Slots.bestBase
  intro A Q E s k q
  dsimp only
  rw [List.forIn_cons]
  refine wpAny_bind (wpAny_bind (wpAny_bind (hs A _ E s k ?_)))
  exact wpAny_pure (wpAny_pure (wpAny_pure q))
theorem mk_base {K : Frag} {M : Model} {h : Heap} (X : K.In h) {C B D : Addr} {cC cB cD : ClassData} (hC : clsIn K C = some cC) (hB : clsIn K B = some cB) (hD : clsIn K D = some cD)
    (mC : cC.mro = [.ref C, .ref B, .ref D, .type "object"]) (bC : cC.bases = [.ref B]) (bB : cB.bases = [.ref D]) (bD : cD.bases = [.type "object"])
    (sB : Looks M h (Slots.solid (.ref B)) (.type "object")) (sD : Looks M h (Slots.solid (.ref D)) (.type "object"))
    (yC : Looks M h (Bind.madeBy (.ref C)) none) (yB : Looks M h (Bind.madeBy (.ref B)) none) (yD : Looks M h (Bind.madeBy (.ref D)) none) :
    Looks M h (Bind.staticBase (.ref C)) (.type "object") := by
  unfold Bind.staticBase
  intro A Q E s k q
  dsimp only
  have hm : Looks M h (mroOf (.ref C)) cC.mro := (looks_clsIn X hC).andThen .now
  refine wpAny_bind (hm A _ E s k ?_)
  rw [mC, List.forIn_cons]
  refine wpAny_bind (wpAny_bind (wpAny_bind (yC A _ E s k ?_)))
  dsimp only [Option.isSome]
  simp only [Bool.false_eq_true, if_false]
  refine wpAny_bind ((looks_clsIn X hC) A _ E s k ?_)
  rw [bC]
  refine wpAny_bind (mk_best sB A _ E s k (wpAny_pure ?_))
  dsimp only
  rw [List.forIn_cons]
  refine (wpAny_bind (wpAny_bind (yB A _ E s k ?_)))
  dsimp only [Option.isSome]
  simp only [Bool.false_eq_true, if_false]
  refine wpAny_bind ((looks_clsIn X hB) A _ E s k ?_)
  rw [bB]
  refine wpAny_bind (mk_best sD A _ E s k (wpAny_pure ?_))
  dsimp only
  rw [List.forIn_cons]
  refine (wpAny_bind (wpAny_bind (yD A _ E s k ?_)))
  dsimp only [Option.isSome]
  simp only [Bool.false_eq_true, if_false]
  refine wpAny_bind ((looks_clsIn X hD) A _ E s k ?_)
  rw [bD]
  refine wpAny_bind (mk_best mk_solid_obj A _ E s k (wpAny_pure ?_))
  dsimp only
  rw [List.forIn_cons]
  refine (wpAny_bind (wpAny_bind (mk_obj A _ E s k ?_)))
  exact wpAny_pure (wpAny_pure (wpAny_pure q))
theorem mk_here {M : Model} {h : Heap} {C : Addr} (hb : Looks M h (Bind.staticBase (.ref C)) (.type "object")) : Looks M h (Bind.madeHere "object.__new__" (.ref C)) () := by
  unfold Bind.madeHere
  exact hb.andThen (mk_obj.andThen (Looks.of_pure (by simp only [Option.map_some, bne_self_eq_false, Bool.false_eq_true, if_false])))
section
variable {prog : Program} {w : World} {A : Around} {K : Frag} {C : Addr} {R : Result → Shared → Prop} {h : Heap} {g : Array GenState} {d : Drawn} {t : Nat} {os : OsState}
theorem mk_new {oc : Value} {od : Option Addr} {cd : ClassData} {sl : Array (Option Value)} (hC : h.get? C = some ⟨oc, od, .cls cd, sl⟩) (e1 : cd.abstract = false) (e2 : cd.hasDel = false) (typ : Looks (model prog w) h (isInstance (.ref C) (.type "type")) true) (top : Looks (model prog w) h (isSubtype (.ref C) (.type "object")) true) (self : Looks (model prog w) h (isSubtype (.ref C) (.ref C)) true)
    (base : Looks (model prog w) h (Bind.staticBase (.ref C)) (.type "object"))
    (hq : R (.ok (.ret (.ref (h.objs.size + 1)))) ⟨(h.push emptyDict).push (instObj C h.objs.size), g, d, t, os⟩) :
    codeAny (model prog w) A (.call (.builtin "object.__new__") ⟨[.ref C], []⟩) R ⟨h, g, d, t, os⟩ := by
  have F := PySem.F.objNew
  have here := mk_here base
  have mo := @mk_obj (model prog w) h
  refine codeAny_call_builtin_code (Code.quiet_builtin _ F.quiet) ?_
  simp only [checkBuiltinCall, F.kind, F.split, F.row]
  have args : Bind.checkArgs "object.__new__" ⟨.hand, "object.__new__", "__new__", .cls, []⟩ ⟨[.ref C], []⟩ = pure () := by kernel_rfl
  rw [args]
  repeat (first | kpc_if | lk | (rw [bne_self_eq_false, if_neg Bool.false_ne_true]) | simp only [bne_self_eq_false, Bool.false_eq_true, if_false])
  refine codeAny_builtin F.entry ?_
  unfold Builtin.«object.__new__»
  have fin : ∀ A', wpAny (model prog w) A' (do
      let d ← if typeHasDict (.ref C) then some <$> alloc { cls := .type "dict", data := .dict #[] } else pure none
      ret (← newObj (.ref C) .plain d)) (fun fin s' => match fin with | .done f => R (.ok f) s' | .again c' => c'.quiet = true ∧ codeAny (model prog w) A c' R s') (fun e s' => R (.error e) s') ⟨h, g, d, t, os⟩ := by
    intro A'
    show wpAny _ _ ((alloc emptyDict >>= fun x => pure (some x)) >>= _) _ _ _
    refine wpAny_bind (wpAny_bind (wpAny_alloc (wpAny_pure (wpAny_bind ?_))))
    show wpAny _ _ (newObjAsIs _ _ _) _ _ _
    unfold newObjAsIs classHasDel
    refine wpAny_bind (wpAny_alloc (wpAny_bind (wpAny_bind (wpAny_load (Heap.get?_push_of_some _ (Heap.get?_push_of_some _ hC)) (wpAny_pure ?_)))))
    rw [e2]
    refine wpAny_pure (wpAny_pure ?_)
    show R _ _
    rw [Heap.size_push]
    exact hq
  repeat (first | exact fin _ | kpc_if | lk | (rw [e1]; kpc_if) | simp only [e1, Bool.false_eq_true, if_false])
end
end Mine

end
section
open Mine
namespace Mine
open PySem PySem.Calls PyProof.Rows Builtin Builtin.ObjectAttr
noncomputable abbrev Back (Q E : Value → Shared → Prop) : Result → Shared → Prop := fun r s' => match r with | .ok (.ret v) => Q v s' | .ok _ => False | .error e => E e s'
noncomputable def MadeX (K : Frag) (M : Model) (A : Around) (C fI : Addr) (rest : List Value) (Q E : Value → Shared → Prop) (nv : Value) (s' : Shared) : Prop :=
  ∃ x ox, nv = .ref x ∧ K.In s'.heap ∧ s'.heap.get? x = some ox ∧ ox.cls = .ref C ∧ codeAny M A (.call (.ref fI) ⟨.ref x :: rest, []⟩) (InitBack x (Back Q E)) s'
section
variable {prog : Program} {w : World} {A : Around} {K : Frag} {C : Addr} {s : Shared} {h₀ : Heap} {L : Addr} {m : Str → Option Value} {news : List (Addr × Obj)} {Q E : Value → Shared → Prop}
theorem mk_call {rest : List Value} {fI p : Addr} {f : Value} {tl : List Value} (F : Fr h₀ L s.heap m) (X₀ : K.In h₀)
    (ho : (match K.lookup C with | some ⟨_, _, .cls cd, sl⟩ => !cd.mro.isEmpty && cd.mro.contains (.ref C) && (sl[4]?).join == some .none | _ => false) = true)
    (hc : specialIn K (.ref C) "__call__" = some (some (.builtin "type.__call__"))) (ht : instIn K (.ref C) (.type "type") = some true)
    (hr : readsIn K C (.type "type") = true) (htp : typeIn K (.ref C) = some (.type "type"))
    (hn : findCls K (.ref C) (.type "type") "__new__" = some (.get (.builtin "staticmethod.__get__") (.ref p) .none (.ref C))) (hp : recIn K p "staticmethod" = some (f :: tl)) (hv : handedIn f = true)
    (hi : findIn K (.ref C) "__init__" = some (some (.ref fI))) (hf : isFn K (.ref fI) = true)
    (h : wpAny (model prog w) (A.under (.builtin "type.__call__" ⟨.ref C :: rest, []⟩)) (call f (.ref C :: rest) []) (MadeX K (model prog w) (A.under (.builtin "type.__call__" ⟨.ref C :: rest, []⟩)) C fI rest Q E) E { s with toks := s.toks + 1 }) :
    wpAny (model prog w) A (call (.ref C) rest []) Q E s := by
  refine wpAny_call ?_
  have X := X₀.keeps F.keep
  split at ho
  · rename_i oc od cd sl hK
    simp only [Bool.and_eq_true, Bool.not_eq_true', beq_iff_eq] at ho
    obtain ⟨⟨e1, e2⟩, e3⟩ := ho
    have hC := X _ _ hK
    have hcl : clsIn K C = some cd := by unfold clsIn; rw [hK]
    have e3' : sl[4]? = some (some .none) := by cases q : sl[4]? with | none => rw [q] at e3; cases e3 | some y => rw [q] at e3; exact congrArg some e3
    obtain ⟨c, l, hl⟩ : ∃ c l, cd.mro = c :: l := by cases q : cd.mro with | nil => rw [q] at e1; cases e1 | cons c l => exact ⟨c, l, rfl⟩
    have call : Looks (model prog w) s.heap (specialOf (.ref C) "__call__") (some (.builtin "type.__call__")) := looks_specialIn X hc
    have typ : Looks (model prog w) s.heap (isInstance (.ref C) (.type "type")) true := looks_instIn X ht
    have made : Looks (model prog w) s.heap (Bind.madeBy (.ref C)) none := mk_by X hK hcl e3' ⟨c, l, hl⟩
    have hm : Looks (model prog w) s.heap (mroOf (.ref C)) cd.mro := (looks_clsIn X hcl).andThen .now
    refine codeAny_of_tree ?_
    show wpAny _ _ (callAny (.ref C) _) _ _ _
    refine nd_load hC ?_
    show wpAny _ _ (callAny.viaDunder (.ref C) _) _ _ _
    unfold callAny.viaDunder
    refine wpAny_bind (call.here ?_)
    dsimp only
    rw [tc_bind]
    refine wpAny_bind (wpAny_pure (wpAny_bind (wpAny_pure ?_)))
    refine wpAny_pure (a := Fin.again (.call (.builtin "type.__call__") ⟨.ref C :: rest, []⟩)) (And.intro rfl ?_)
    refine codeAny_call_builtin_at (Code.quiet_builtin _ (by decide +kernel)) entry_typeCall (check_slot tc_kind tc_split typ (tc_args _ _ _) ?_)
    unfold Builtin.«type.__call__»
    have e0 : (Value.ref C == Value.type "type") = false := rfl
    simp only [e0, Bool.false_eq_true, if_false]
    refine wpAny_bind (hm.here ?_)
    rw [hl]
    simp only [List.isEmpty, Bool.false_eq_true, if_false]
    refine wpAny_bind (made.here ?_)
    dsimp only
    refine wpAny_bind (cls_sm F X₀ htp hr hn hp hv ?_)
    refine wpAny_bind (wpAny_holding (wpAny_mono h (fun nv s' hM => ?_) fun e s' z => z))
    obtain ⟨x, ox, rfl, X', hx, hxc, hI⟩ := hM
    have t1 : Looks (model prog w) s'.heap (typeOf (.ref x)) (.ref C) := by rw [← hxc]; exact (Looks.ld hx).andThen .now
    have self : Looks (model prog w) s'.heap (isSubtype (.ref C) (.ref C)) true := looks_mroIn X' (by unfold mroIn; rw [hcl, Option.bind_some, if_neg (by rw [e1]; decide), e2])
    have i1 : Looks (model prog w) s'.heap (isInstance (.ref x) (.ref C)) true := t1.andThen self
    have l1 : Looks (model prog w) s'.heap (specialOf (.ref x) "__init__") (some (.ref fI)) := t1.andThen (looks_findIn X' hi)
    have b1 : Looks (model prog w) s'.heap (bindSpecial (.ref fI) (.ref x)) (.ref fI, [.ref x]) := bind_fn X' _ (beq_iff_eq.mp hf)
    refine wpAny_bind (i1.here ?_)
    simp only [Bool.not_true, Bool.false_eq_true, if_false]
    unfold callSpecial?
    refine wpAny_bind (wpAny_holding (wpAny_bind (l1.here ?_)))
    dsimp only
    refine wpAny_holding (wpAny_bind (b1.here ?_))
    dsimp only
    refine wpAny_bind (wpAny_call ?_)
    refine codeAny_mono hI fun r s' z => ?_
    rcases r with e | (v | _ | _ | _) <;> first | exact z | exact z.elim | skip
    obtain ⟨rfl, z⟩ := z
    exact wpAny_pure (wpAny_pure z)
  · cases ho
end
end Mine

end
section
open Mine
namespace Mine
open PySem PySem.Calls PyProof.Rows Builtin Builtin.ObjectAttr
noncomputable def mkChk (K : Frag) (C B D : Addr) : Bool :=
  (match K.lookup C, K.lookup B, K.lookup D with
  | some ⟨_, _, .cls c, s1⟩, some ⟨_, _, .cls b, s2⟩, some ⟨_, _, .cls d, s3⟩ =>
    (s1[4]?).join == some .none && (s2[4]?).join == some .none && (s3[4]?).join == some .none
    && c.mro == [.ref C, .ref B, .ref D, .type "object"] && b.mro == [.ref B, .ref D, .type "object"] && d.mro == [.ref D, .type "object"]
    && c.bases == [.ref B] && b.bases == [.ref D] && d.bases == [.type "object"]
    && b.slotNames == [] && d.slotNames == [] && !c.abstract && !c.hasDel
  | _, _, _ => false) && instIn K (.ref C) (.type "type") == some true
theorem slot_join {sl : Array (Option Value)} {v : Value} (e3 : (sl[4]?).join = some v) : sl[4]? = some (some v) := by cases q : sl[4]? with | none => rw [q] at e3; cases e3 | some y => rw [q] at e3; exact congrArg some e3
theorem mk_newK {prog : Program} {w : World} {A : Around} {K : Frag} {C B D : Addr} {s : Shared} {h₀ : Heap} {L : Addr} {m : Str → Option Value} {news : List (Addr × Obj)} {Q E : Value → Shared → Prop}
    (F : Fr h₀ L s.heap m) (N : News h₀ L s.heap news) (X₀ : K.In h₀) (e : mkChk K C B D = true)
    (h : ∀ x dx h', Fr h₀ L h' m → News h₀ L h' ((x, instObj C dx) :: (dx, dictOf [] 0) :: news) → (∀ p ∈ news, p.1 < dx) → dx < x → Q (.ref x) { s with heap := h' }) :
    wpAny (model prog w) A (call (.builtin "object.__new__") [.ref C] []) Q E s := by
  have X := X₀.keeps F.keep
  refine wpAny_call ?_
  unfold mkChk at e
  simp only [Bool.and_eq_true] at e
  obtain ⟨e, ht⟩ := e
  split at e
  · rename_i oc1 od1 c s1 oc2 od2 b s2 oc3 od3 d s3 hC hB hD
    simp only [Bool.and_eq_true, Bool.not_eq_true', beq_iff_eq] at e ht
    obtain ⟨⟨⟨⟨⟨⟨⟨⟨⟨⟨⟨⟨f1, f2⟩, f3⟩, mC⟩, mB⟩, mD⟩, bC⟩, bB⟩, bD⟩, sB⟩, sD⟩, ab⟩, hd⟩ := e
    have cC : clsIn K C = some c := by unfold clsIn; rw [hC]
    have cB : clsIn K B = some b := by unfold clsIn; rw [hB]
    have cD : clsIn K D = some d := by unfold clsIn; rw [hD]
    have yC : Looks (model prog w) s.heap (Bind.madeBy (.ref C)) none := mk_by X hC cC (slot_join f1) ⟨_, _, mC⟩
    have yB : Looks (model prog w) s.heap (Bind.madeBy (.ref B)) none := mk_by X hB cB (slot_join f2) ⟨_, _, mB⟩
    have yD : Looks (model prog w) s.heap (Bind.madeBy (.ref D)) none := mk_by X hD cD (slot_join f3) ⟨_, _, mD⟩
    have aD : Looks (model prog w) s.heap (Slots.addsLayout (.ref D)) false := mk_adds X cD sD bD mk_slots_obj
    have aB : Looks (model prog w) s.heap (Slots.addsLayout (.ref B)) false := mk_adds X cB sB bB (by rw [← sD]; exact mk_slots X cD)
    have moB : Looks (model prog w) s.heap (mroOf (.ref B)) [.ref B, .ref D, .type "object"] := by rw [← mB]; exact (looks_clsIn X cB).andThen .now
    have moD : Looks (model prog w) s.heap (mroOf (.ref D)) [.ref D, .type "object"] := by rw [← mD]; exact (looks_clsIn X cD).andThen .now
    have base := mk_base X cC cB cD mC bC bB bD (mk_solid2 moB aB aD) (mk_solid1 moD aD) yC yB yD
    have iC : ∀ v, v ∈ c.mro → Looks (model prog w) s.heap (isSubtype (.ref C) v) true := fun v hv => looks_mroIn X (by
      unfold mroIn; rw [cC, Option.bind_some, if_neg (by rw [mC]; exact Bool.noConfusion)]; exact congrArg some (List.contains_iff_mem.mpr hv))
    obtain ⟨hh, g, dr, t, os⟩ := s
    refine mk_new (X _ _ hC) ab hd (looks_instIn X ht) (iC _ (by rw [mC]; simp)) (iC _ (by rw [mC]; simp)) base ?_
    have N2 := (N.push F emptyDict).push (F.push _) (instObj C hh.objs.size)
    rw [Heap.size_push] at N2
    exact h _ hh.objs.size _ ((F.push _).push _) N2 (fun p hp => Heap.lt_size (N p hp).1) (Nat.lt_succ_self _)
  · cases e
theorem mk_fin {K : Frag} {M : Model} {A : Around} {C fI x dx L : Addr} {rest : List Value} {Q E : Value → Shared → Prop} {s' : Shared} {h₀ : Heap} {m : Str → Option Value} {news : List (Addr × Obj)} (F : Fr h₀ L s'.heap m) (X : K.In h₀) (N : News h₀ L s'.heap news) (hm : (x, instObj C dx) ∈ news)
    (h : codeAny M A (.call (.ref fI) ⟨.ref x :: rest, []⟩) (InitBack x (Back Q E)) s') : MadeX K M A C fI rest Q E (.ref x) s' := ⟨x, _, rfl, X.keeps F.keep, (N _ hm).1, rfl, h⟩
end Mine

end
section
open Mine
namespace Mine
open PySem.Builtin
theorem dn_mro : mroOf (.type "collections.deque") = pure [.type "collections.deque", .type "object"] := by rw [mroOf_type]; kernel_rfl
theorem dn_lookup_new : typeLookup (.type "collections.deque") "__new__" = pure (some (.builtin "collections.deque.__new__")) := by rw [typeLookup_type, builtinLookup_eq_fast]; kernel_rfl
theorem dn_slot_init : Slot "collections.deque" "__init__" "collections.deque.__init__" :=
  .of (owner := "collections.deque") (n := "__init__") (by rw [typeLookup_type, builtinLookup_eq_fast]; kernel_rfl) (by decide +kernel) (by decide +kernel) (by decide +kernel)
    (by first | exact .inl (by decide +kernel) | exact .inr (by decide +kernel)) (by rw [isSubtype_type]; kernel_rfl)
theorem dn_called : TypeCalled "collections.deque" "collections.deque.__new__" "collections.deque.__init__" :=
  ⟨by decide +kernel, by decide +kernel, ⟨_, _, dn_mro⟩, madeBy_type dn_mro dn_lookup_new (by decide +kernel), by decide +kernel, by rw [isSubtype_type]; kernel_rfl, dn_slot_init⟩
theorem dn_typeCall : checkTypeCall "collections.deque" ⟨[], []⟩ = pure () := by kernel_rfl
theorem dn_newCall : checkBuiltinCall "collections.deque.__new__" ⟨[.type "collections.deque"], []⟩ = pure () := by kernel_rfl
theorem dn_plain : plainId "collections.deque.__new__" = true := by decide +kernel
theorem dn_entry : entryFor table "collections.deque.__new__" = some Builtin.«collections.deque.__new__» := entryFor_of_tree (by kernel_rfl)
theorem dn_entry_init : entryFor table "collections.deque.__init__" = some Builtin.«collections.deque.__init__» := entryFor_of_tree (by kernel_rfl)
theorem dn_sub : isSubtype (.type "collections.deque") (.type "collections.deque") = pure true := by rw [isSubtype_type]; kernel_rfl
theorem dn_istype : isInstance (.type "collections.deque") (.type "type") = pure true := by kernel_rfl
theorem dn_args_init (a : Value) : argsOk "collections.deque.__init__" ⟨[a], []⟩ := by
  unfold argsOk; rw [signature?_of (id := "collections.deque.__init__") (n := ['_', '_', 't', 'i', 'n', 'i', '_', '_']) (o := ['e', 'u', 'q', 'e', 'd', '.', 's', 'n', 'o', 'i', 't', 'c', 'e', 'l', 'l', 'o', 'c']) (by kernel_rfl) owner_deque]; kernel_rfl
section
variable {prog : Program} {w : World} {A : Around} {E : Value → Shared → Prop} {s : Shared} {h₀ : Heap} {L D : Addr} {m : Str → Option Value} {news news' : List (Addr × Obj)} {n : Int} {xs : List Value}
theorem dn_new {Q₁ : Value → Shared → Prop} (F : Fr h₀ L s.heap m) (N : News h₀ L s.heap news)
    (h : ∀ d h', Fr h₀ L h' m → News h₀ L h' ((d, dqO 0 []) :: news) → (∀ p ∈ news, p.1 < d) → Q₁ (.ref d) { s with heap := h' }) :
    codeAny (model prog w) A (.call (.builtin "collections.deque.__new__") ⟨[.type "collections.deque"], []⟩) (wants Q₁ E) s := by
  refine codeAny_of_tree ?_
  show wpAny _ A.in1 (do checkBuiltinCall "collections.deque.__new__" ⟨[.type "collections.deque"], []⟩; again (.builtin "collections.deque.__new__" ⟨[.type "collections.deque"], []⟩)) _ _ s
  refine wpAny_bind (wpAny_of_eq dn_newCall (wpAny_pure ⟨plainId_quiet dn_plain _, codeAny_builtin dn_entry ?_⟩))
  unfold Builtin.«collections.deque.__new__» Deque.newArgs isType
  refine wpAny_bind (wpAny_bind (wpAny_of_eq dn_istype ?_))
  simp only [Bool.not_true, Bool.false_eq_true, if_false]
  refine wpAny_bind (wpAny_of_eq dn_sub ?_)
  simp only [Bool.not_true, Bool.false_eq_true, if_false]
  refine wpAny_pure ?_
  unfold Deque.new
  obtain ⟨hp, g, d, tk, os⟩ := s
  refine wpAny_bind ?_
  wp_walk
  exact h hp.objs.size _ (F.push _) (N.push F _) (fun p hp => Heap.lt_size (N p hp).1)
theorem dn_make {Q : Value → Shared → Prop} (F : Fr h₀ L s.heap m) (N : News h₀ L s.heap news)
    (h : ∀ d h', Fr h₀ L h' m → News h₀ L h' ((d, dqO 0 []) :: news) → (∀ p ∈ news, p.1 < d) → Q (.ref d) { s with heap := h' }) :
    wpAny (model prog w) A (call (.type "collections.deque") [] []) Q E s := by
  refine callType_codes (Q₁ := fun obj s₁ => ∃ d h', obj = .ref d ∧ s₁ = { s with heap := h' } ∧ Fr h₀ L h' m ∧ News h₀ L h' ((d, dqO 0 []) :: news) ∧ (∀ p ∈ news, p.1 < d)) dn_called dn_typeCall dn_entry_init
    (dn_new F N fun d h' F' N' l => ⟨d, h', rfl, rfl, F', N', l⟩) ?_
  rintro _ _ ⟨d, h', rfl, rfl, F', N', l⟩
  have z := N' _ (.head _)
  refine ⟨⟨_, z.1, rfl⟩, dn_args_init _, ?_⟩
  show wpAny _ _ (do setField (.ref d) 0 .none; Deque.clear (.ref d); ret .none) _ _ _
  have b : ∀ p ∈ news, p.1 ≠ d := fun p hp => Nat.ne_of_lt (l p hp)
  refine wpAny_bind (wpAny_setField z.1 rfl (by decide) ?_)
  have F2 : Fr h₀ L (h'.update d (Obj.mapFields (·.setIfInBounds 0 .none))) m := F'.change (Heap.SameBut.update ..) z.2.1 z.2.2
  have N2 : News h₀ L (h'.update d (Obj.mapFields (·.setIfInBounds 0 .none))) ((d, dqO 0 []) :: news) := by
    refine news_set (pre := []) N' (fun _ hp => nomatch hp) b (Heap.SameBut.update ..) ?_
    rw [Heap.get?_update_self _ z.1 rfl]
    rfl
  unfold Deque.clear Deque.items
  refine wpAny_bind (wpAny_bind (wpAny_bind (wpAny_fieldsOf (N2 _ (.head _)).1 rfl (wpAny_pure ?_))))
  refine wpAny_pure (wpAny_pure ⟨rfl, h d _ F2 N2 l⟩)
end
end Mine

end
section
open Mine
theorem Mine.pre_Sn : PySem.Challenge.rw_in0151_01 = PySem.Challenge.rw_in0151_01 ∧ Mine.KK = Mine.KK := by
  k_with_none
  k_fill
  k_with "om" => (first | with_reducible assumption | exact Nat.le_of_ble_eq_true rfl | with_reducible exact Nat.ne_of_lt (by assumption) | with_reducible exact Nat.ne_of_gt (by assumption) | with_reducible exact Nat.le_of_lt (by assumption) | with_reducible exact Nat.le_refl _ | with_reducible exact Nat.le_add_right _ _ | with_reducible exact Nat.lt_add_one _ | with_reducible exact Nat.succ_le_of_lt (by assumption) | with_reducible exact Nat.lt_of_succ_le (by assumption) | with_reducible exact Int.ofNat_lt.mpr (by assumption) | with_reducible exact Int.natCast_nonneg _ | with_reducible exact Mine.o_n (by assumption) | with_reducible exact Mine.o_l (by assumption) | with_reducible exact Mine.o_i (by assumption) (by assumption) | with_reducible exact Mine.o_k (by assumption) (by assumption) | with_reducible exact Mine.o_m (by assumption) (by assumption) | with_reducible exact Mine.o_w (by assumption) | with_reducible exact Mine.o_v (by assumption) (by assumption) (by assumption) | with_reducible exact Mine.o_s (by assumption) | with_reducible exact Mine.o_t (by assumption) | with_reducible exact Mine.o_17 (by assumption) | with_reducible exact Mine.o_y (by assumption) (by assumption) | with_reducible exact Mine.o_z (by assumption) (by assumption) | with_reducible exact Mine.o_y2 (by assumption) (by assumption) | exact Mine.o_a (a := 10000) (by with_reducible assumption) rfl | exact Mine.o_a (a := 9000) (by with_reducible assumption) rfl | exact Mine.o_a (a := 256) (by with_reducible assumption) rfl | exact Mine.o_a (a := 300) (by with_reducible assumption) rfl | exact Mine.o_a (by with_reducible assumption) rfl | exact Mine.o_b (a := 10000) (by with_reducible assumption) rfl | exact Mine.o_b (a := 9000) (by with_reducible assumption) rfl | exact Mine.o_b (a := 256) (by with_reducible assumption) rfl | exact Mine.o_b (by with_reducible assumption) rfl | exact Mine.o_c (by with_reducible assumption) rfl | exact Mine.o_d (by with_reducible assumption) rfl | exact Mine.o_e (by with_reducible assumption) rfl | exact Mine.o_f (by with_reducible assumption) rfl | exact Mine.o_g (by with_reducible assumption) rfl | exact Mine.o_h (by with_reducible assumption) rfl | exact Mine.o_1 (by with_reducible assumption) rfl | exact Mine.o_2 (by with_reducible assumption) rfl | exact Mine.o_3 (by with_reducible assumption) rfl | exact Mine.o_4 (by with_reducible assumption) rfl | with_reducible exact Mine.o_5 (by assumption) | exact Mine.o_6 (by with_reducible assumption) rfl | exact Mine.o_7 (by with_reducible assumption) rfl | exact Mine.o_12 (by with_reducible assumption) (by with_reducible assumption) rfl | exact Mine.o_13 (by with_reducible assumption) (by with_reducible assumption) rfl | exact Mine.o_14 (by with_reducible assumption) (by with_reducible assumption) rfl | exact Mine.o_15 (by with_reducible assumption) (by with_reducible assumption) rfl | with_reducible exact Mine.o_18 (by assumption) (by assumption) | with_reducible exact Mine.o_11 (by assumption) (by assumption) | with_reducible exact Mine.o_x (by assumption) (by assumption) | with_reducible exact Nat.ne_of_lt (Nat.lt_trans (by assumption) (by assumption)) | with_reducible exact Nat.ne_of_gt (Nat.lt_trans (by assumption) (by assumption)) | with_reducible exact Mine.o_r (by assumption) (by assumption) | with_reducible exact Mine.o_o (by assumption) (by assumption) | with_reducible exact Mine.o_p (by assumption) (by assumption) | with_reducible exact Mine.o_q (by assumption) (by assumption) | with_reducible exact Mine.o_u (by assumption) (by assumption) | with_reducible exact Mine.o_j (by assumption) (by assumption) | with_reducible exact Mine.o_20 (by assumption) | with_reducible exact Mine.o_21 (by assumption) | with_reducible exact Mine.o_22 (by assumption) | with_reducible exact Mine.o_23 (by assumption) | with_reducible exact Mine.o_24 (by assumption) | with_reducible exact Mine.o_28 (by assumption) | with_reducible exact Mine.o_29 (by assumption) | with_reducible exact Mine.o_31 (by assumption) | with_reducible exact Mine.o_25 (by assumption) (by assumption) (by assumption) | with_reducible exact Mine.o_26 (by assumption) (by assumption) (by assumption) | with_reducible exact Mine.o_27 (by assumption) (by assumption) | with_reducible exact Mine.o_30 (by assumption) (by assumption) | exact Mine.o_19 (by with_reducible assumption) (by with_reducible assumption) rfl | fail "om")
  k_with "my enter" => (refine' code_def ?k1_z ?k2_z ?k3_z ?k4_z ?k5_z ?kA_z ?kF_z ?kK_z ?k6_z ?k7_z ?k8_z ?k9_z ?kB_z ?_ ?c2_z ?c3_z ?c4_z ?c5_z; (case kA_z => exact rfl); (case kF_z => exact rfl); (case kK_z => first | exact rfl | assumption); (case k1_z => k_asm); (case k2_z => k_asm); (case k3_z => k_asm); (case k4_z => k_asm); (case k5_z => k_asm); (case k6_z => k_is); (case k7_z => k_is); (case k8_z => ktr_room); (case k9_z => first | exact BindsTo.of_eq rfl | exact binds_K (by k_in) rfl (by k_is) rfl rfl rfl); (case c5_z => decide); (case kB_z => exact locs rfl); (case c2_z => exact rfl); (case c3_z => exact rfl); (case c4_z => exact rfl); k_whole; intro G LL h1 FG F1 N1 B1 X1 T1; (try dsimp only); (try k_lift B1); (try k_fold))
  k_with "call builtin:str.find" => (refine Mine.find4 (by first | rfl | omega) ?_)
  k_with "truthy str" => ((with_reducible show wpAny _ _ (PySem.truthy (Value.str (Str.mk (List.toArray _)) _)) _ _ _); (refine Mine.truthy_T (by first | assumption | omega) ?_); intro _)
  k_with "truthy str" => ((with_reducible show wpAny _ _ (PySem.truthy (Value.str (Str.mk (List.toArray [_])) _)) _ _ _); (refine Mine.truthy_one ?_); intro _)
  k_with "compareOp In str str" => ((with_reducible show wpAny _ _ (compareOp CmpOp.In (Value.str (Str.mk (List.toArray [_])) _) _) _ _ _); first | refine Mine.in_ws ?_ | refine Mine.in_cm ?_ | refine Mine.in_es ?_ | refine Mine.in_dt ?_ | refine Mine.in_wc ?_ | refine Mine.in_none ?_ | refine Mine.in_qs ?_)
  k_with "inplaceOp Add str str" => ((with_reducible show wpAny _ _ (inplaceOp _ (Value.str (Str.mk (List.toArray _)) _) (Value.str (Str.mk (List.toArray _)) _)) _ _ _); (refine Mine.iadd_T (by first | omega | (simp only [List.length_append, List.length_cons, List.length_nil] at *; omega)) ?_); intro _ _)
  k_with "compareOp Eq str str" => ((with_reducible show wpAny _ _ (compareOp CmpOp.Eq (Value.str (Str.mk (List.toArray [_])) _) _) _ _ _); ((with_reducible first | refine Mine.eq_nl ?_ ?_ | refine Mine.eq_sp ?_ ?_ | refine Mine.eq_lc ?_ ?_ | refine Mine.eq_hs ?_ ?_ | refine Mine.eq_dq ?_ ?_ | refine Mine.eq_bs ?_ ?_ | refine Mine.eq_dd ?_ ?_) <;> (intro hspz; first | (exfalso; revert hspz; decide) | (subst hspz) | skip)))
  k_with "compareOp NotEq str str" => ((with_reducible show wpAny _ _ (compareOp CmpOp.NotEq (Value.str (Str.mk (List.toArray [_])) _) _) _ _ _); ((with_reducible refine Mine.ne_dd ?_ ?_) <;> (intro hspz; first | (exfalso; revert hspz; decide) | (subst hspz) | skip)))
  k_with "exec If" => refine wpAny_If ?_
  k_with "call type:ValueError" => (k_dflt (refine Mine.raise_VE ?_); intro h'z ez hmxz)
  k_with "leaving ref" => (k_dflt (refine' leave_raiseS ?k1_z (Heap.MadeExc.of ?k2_z) ?k3_z ?k4_z ?_; (case k1_z => assumption); (case k2_z => assumption); (case k3_z => assumption); (case k4_z => assumption)); intro h'z t'z R1z R2z U1z)
  k_with "subscriptTail Name Name str int" => (k_dflt (refine Mine.item_T (by omega) (by omega) ?_; intro cz s'z hsufz tkz kz))
  k_with "subscriptTail Name Name str int" => (k_dflt (refine Mine.item_H (by assumption) (by omega) ?_; intro tkz kz))
  k_with "call ref" => (k_here; (with_reducible show wpAny _ _ (call (Value.ref 554) [Value.ref _, Value.int _ _]) _ _ _); k_dflt (refine' Mine.rd1_at ?k1_z ?k2_z ?k3_z ?k4_z ?k5_z ?kK_z ?km_z ?kU_z ?kn_z ?kp_z ?kd_z ?ku_z ?_ ?_; (case k1_z => k_asm); (case k2_z => k_asm); (case k3_z => k_asm); (case k4_z => k_asm); (case k5_z => k_asm); (case kK_z => first | exact rfl | assumption); (case km_z => k_mem); (case kU_z => k_updF); (case kn_z => omega); (case kp_z => constructor <;> omega); (case kd_z => ktr_room); (case ku_z => ktr_units); all_goals (intro cz s'z hsufz h'z tk'z tz t'z F'z N'z; (try dsimp only at N'z); (try k_sweep))))
  k_with "call ref" => (k_here; (try simp only [List.nil_append, List.cons_append, List.append_nil]); (with_reducible show wpAny _ _ (call (Value.ref 562) [Value.ref _]) _ _ _); k_dflt (refine' Mine.rl_at ?k1_z ?k2_z ?k3_z ?k4_z ?k5_z ?kK_z ?km_z ?kU_z ?kn_z ?kp_z ?kd_z ?ku_z ?_; (case k1_z => k_asm); (case k2_z => k_asm); (case k3_z => k_asm); (case k4_z => k_asm); (case k5_z => k_asm); (case kK_z => first | exact rfl | assumption); (case km_z => k_mem); (case kU_z => k_updF); (case kn_z => omega); (case kp_z => constructor <;> omega); (case kd_z => ktr_room); (case ku_z => ktr_units); (intro xz h'z tk'z tz t'z F'z N'z; (try dsimp only at N'z); (try k_sweep))))
  k_with "exec While Constant cons nil" => refine Mine.Halt.out ?_
  k_with "KswEnd" => refine Mine.Halt.out ?_
  k_with "truthy ref" => (k_here; k_dflt (refine' Mine.dq_truthy_N ?N_z ?m_z ?f_z ?_; (case N_z => k_asm); (case m_z => k_mem); (case f_z => first | decide | omega | (simp only [List.length_cons, List.length_nil]; omega)); k_whole); intro _; (try simp only [List.isEmpty_cons, List.isEmpty_nil, Bool.not_false, Bool.not_true]))
  k_with "getMethod ref" => (k_here; (with_reducible show wpAny _ _ (getMethod (Value.ref _) (PySem.Str.ofString "appendleft") _) _ _ _); k_dflt (refine' Mine.dq_method ?N_z ?m_z Mine.slot_dq_appendleft Mine.type_dq_appendleft ?_; (case N_z => k_asm); (case m_z => k_mem)))
  k_with "getMethod ref" => (k_here; (with_reducible show wpAny _ _ (getMethod (Value.ref _) (PySem.Str.ofString "popleft") _) _ _ _); k_dflt (refine' Mine.dq_method ?N_z ?m_z Mine.slot_dq_popleft Mine.type_dq_popleft ?_; (case N_z => k_asm); (case m_z => k_mem)))
  k_with "call builtin:collections.deque.appendleft" => (k_here; k_dflt (refine' Mine.dq_appendleft ?k1_z ?k2_z ?k3_z ?z_z ?_; (case k1_z => k_asm); (case k2_z => k_asm); (case k3_z => k_upd); (case z_z => first | decide | omega)); intro h'z F'z N'z; (try k_sweep))
  k_with "call builtin:collections.deque.popleft" => (k_here; k_dflt (refine' Mine.dq_popleft ?k1_z ?k2_z ?k3_z ?z_z ?_; (case k1_z => k_asm); (case k2_z => k_asm); (case k3_z => k_upd); (case z_z => first | decide | omega)); intro h'z F'z N'z; (try k_sweep))
  k_with "compareOp In str str" => ((with_reducible show wpAny _ _ (compareOp CmpOp.In (Value.str (Mine.ES.str _) _) _) _ _ _); (rename Mine.ES => ezz; cases ezz <;> dsimp only [Mine.ES.str] at *))
  k_with "compareOp In str str" => ((with_reducible show wpAny _ _ (compareOp CmpOp.In (Value.str (Mine.ES.str _) _) _) _ _ _); (rename Mine.ES => ezz; cases ezz <;> dsimp only [Mine.ES.str] at *); all_goals (try (exfalso; (have hqz := (by assumption : Mine.ES.sp = Mine.ES.sp → _ ≤ _) rfl); omega)))
  k_with "call ref" => (k_here; (try simp only [List.nil_append, List.cons_append, List.append_nil]); (with_reducible show wpAny _ _ (call (Value.ref 711) [Value.ref _]) _ _ _); k_dflt (refine' Mine.Con.use (Mine.rt_spec _ _ _ _ _ _ _ _ _ _ _ _ _ _ _ _ _ _ _ _ _ _ _ _ _ ?a1_z ?a2_z ?a3_z ?a4_z ?a5_z ?a6_z ?a7_z) ?k1_z ?k2_z ?k3_z ?k4_z ?k5_z ?kK_z ?kp_z ?kd_z ?ku_z ?_ ?_; (case k1_z => k_asm); (case k2_z => k_asm); (case k3_z => k_asm); (case k4_z => k_asm); (case k5_z => k_asm); (case kK_z => first | exact rfl | assumption); (case a1_z => k_all); (case a2_z => k_all); (case a3_z => k_all); (case a4_z => omega); (case a5_z => omega); (case a6_z => omega); (case a7_z => omega); (case kp_z => assumption); (case kd_z => ktr_room); (case ku_z => ktr_units)); k_dflt (all_goals first
    | (rintro vz h'z tk'z n'z ⟨cz, pushz, dn'z, tvz, hRz, hpz, e1z, e2z⟩ F'z N'z; (subst e1z); (subst e2z); rcases cz with ⟨a0z, a1z, a2z, a3z, a4z, a5z, a6z, a7z, a8z, a9z, a10z⟩; dsimp only at hRz hpz N'z ⊢; (by_cases hvz : a4z = false ∧ a2z = []) <;> (first | rw [if_pos hvz] | rw [if_neg hvz]) <;> (try k_sweep))
    | (rintro ez tz g'z h'z tk'z esz n'z ⟨kz, cz, tmz, hRz, hpz, e1z, e2z⟩ F'z R1z R2z U1z; (subst e1z); (subst e2z); rcases cz with ⟨a0z, a1z, a2z, a3z, a4z, a5z, a6z, a7z, a8z, a9z, a10z⟩; dsimp only at hRz hpz R1z R2z ⊢)))
  k_with "leaving ref" => (k_dflt (refine' leave_onS ?k1_z ?k2_z ?k3_z ?k4_z ?_; (case k1_z => assumption); (case k3_z => assumption); (case k2_z => assumption); (case k4_z => assumption)); intro h'z R1z R2z U1z)
  k_with "my enterC" => (refine' code_defC ?k1_z ?k2_z ?k3_z ?k4_z ?k5_z ?kA_z ?kF_z ?kK_z ?k6_z ?k7_z ?k8_z ?k9_z ?kB_z ?kD_z ?_ ?c2_z ?c3_z ?c4_z; (case kA_z => exact rfl); (case kF_z => exact rfl); (case kK_z => first | exact rfl | assumption); (case k1_z => k_asm); (case k2_z => k_asm); (case k3_z => k_asm); (case k4_z => k_asm); (case k5_z => k_asm); (case k6_z => k_is); (case k7_z => k_is); (case k8_z => ktr_room); (case k9_z => first | exact BindsTo.of_eq rfl | exact binds_K (by k_in) rfl (by k_is) rfl rfl rfl); (case kB_z => exact rfl); (case kD_z => decide +kernel); (case c2_z => exact rfl); (case c3_z => exact rfl); (case c4_z => exact rfl); k_whole; intro G LL h1 tk1 cells1 FG F1 N1 Y1 B1 X1 T1 l1; (try k_lt l1); k_cells Y1; (try simp only [List.cons_append, List.nil_append] at N1); (try dsimp only); (try k_lift B1); (try k_fold))
  k_with "call ref" => ((with_reducible show wpAny _ _ (call (Value.ref 608) _ _) _ _ _); k_dflt (refine' mk_call ?k1_z ?k2_z ?k3_z ?k4_z ?k5_z ?k6_z ?k7_z ?k8_z ?k9_z ?ka_z ?kb_z ?kc_z ?_; (case k1_z => k_asm); (case k2_z => k_asm); (case k3_z => kernel_rfl); (case k4_z => k_is); (case k5_z => k_is); (case k6_z => k_is); (case k7_z => k_is); (case k8_z => k_is); (case k9_z => k_is); (case ka_z => k_handed); (case kb_z => k_is); (case kc_z => k_is); k_whole))
  k_with "call builtin:object.__new__" => (k_dflt (refine' mk_newK (B := 131) (D := 104) ?k1_z ?k2_z ?k3_z ?k4_z ?_; (case k1_z => k_asm); (case k2_z => k_asm); (case k3_z => k_asm); (case k4_z => kernel_rfl); k_whole; intro x'z d'z h'z F'z N'z l1z l2z; (try k_lt l1z); (try k_lt2 l2z); (try k_sweep)))
  k_with "call type:collections.deque" => (k_dflt (refine' dn_make ?k1_z ?k2_z ?_; (case k1_z => k_asm); (case k2_z => k_asm); k_whole; intro d'z h'z F'z N'z l1z; (try k_lt l1z); (try k_sweep)))
  k_with "MadeX" => (k_dflt (refine' mk_fin ?k0_z ?k1_z ?k2_z ?k3_z ?_; (case k0_z => k_asm); (case k1_z => k_asm); (case k2_z => k_asm); (case k3_z => k_mem); k_whole; (first | k_enter | (k_dflt (walk_at "my enter")))))
  k_with "my enterB" => ((refine' kp_both ?k1_z ?k2_z ?k3_z ?k4_z ?k5_z ?kA_z ?kF_z ?kK_z ?k6_z ?k7_z ?k8_z ?kV_z ?kX_z ?kQ_z ?kM_z ?kN_z ?kD_z ?kR_z ?kP_z ?kS_z ?kT_z ?kB_z ?_ ?c2_z ?c3_z ?c4_z ?c5_z; (case kA_z => exact rfl); (case kF_z => exact rfl); (case kK_z => first | exact rfl | assumption); (case k1_z => k_asm); (case k2_z => k_asm); (case k3_z => k_asm); (case k4_z => k_asm); (case k5_z => k_asm); (case k6_z => k_is); (case k7_z => k_is); (case k8_z => k_room); (case kV_z => kp_lit); (case kX_z => kp_lit); (case kQ_z => exact rfl); (case kM_z => exact rfl); (case kN_z => exact rfl); (case kD_z => kp_flats); (case kR_z => exact rfl); (case kP_z => exact rfl); (case kS_z => exact fun _ => rfl); (case kT_z => exact fun _ _ => rfl); (case kB_z => exact fun _ _ => locs rfl); (case c5_z => decide); (case c2_z => exact rfl); (case c3_z => exact rfl); (case c4_z => exact rfl); k_whole; intro C' D' o' g' L' h' tk' l1 l2 lo' hs' fs' FG' F' N' B' X' T'; (try k_lt l1); (try k_lt2 l2); (try dsimp only); (try k_lift B'); (try k_fold)))
  exact ⟨rfl, rfl⟩

namespace Mine
theorem allLt_mem {d : Nat} {l : List (Addr × Obj)} (h : AllLt d l) : ∀ p ∈ l, @LT.lt Nat _ p.1 d := by
  induction l with
  | nil => intro _ h; cases h
  | cons q l ih =>
    intro p hp
    obtain ⟨h1, h2⟩ := h
    rcases List.mem_cons.mp hp with e | hp
    · rw [e]; exact h1
    · exact ih h2 p hp
inductive SnR (r : List Nat) (news : Led) (v : Value) (n' : Led) : Prop
  | mk (sio sd : Addr) (hs2 : Nat → Int) (ts2 : Nat → Tok) (t1 t2 t3 : Tok) : v = .ref sio → (∀ q ∈ news, @LT.lt Nat _ q.1 sd) → @LT.lt Nat _ sd sio → n' = (sio, instObj 608 sd) :: (sd, sioD hs2 ts2 (T r) 0 t1 t2 t3) :: news → SnR r news v n'
theorem sn_close {h₀ h : Heap} {L sio sd D C : Addr} {o oC : Obj} {g0 g1 g2 : Int} {l0 l1 l2 t1 t2 t3 : Tok} {r : List Nat} {news : Led} {Q : Prop}
    (N : News h₀ L h ((sio, instObj 608 sd) :: (sd, dictOf [⟨g0, .str (Str.ofString "_StringIO__newline") l0, .str (Str.ofString "\n") t1⟩, ⟨g1, .str (Str.ofString "_StringIO__buf") l1, .str (T r) t2⟩, ⟨g2, .str (Str.ofString "_StringIO__pos") l2, .int 0 t3⟩] 3) :: (D, o) :: (C, oC) :: news))
    (hl : AllLt sd news) (h2 : @LT.lt Nat _ sd sio) (q : ∀ n', SnR r news (.ref sio) n' → News h₀ L h n' → Q) : Q :=
  q _ ⟨sio, sd, fun i => [g0, g1, g2].getD i 0, fun i => [l0, l1, l2].getD i 0, t1, t2, t3, rfl, allLt_mem hl, h2, rfl⟩ (News.sub N fun _ h => (List.mem_cons.mp h).elim (fun e => e ▸ .head _) fun h => (List.mem_cons.mp h).elim (fun e => e ▸ .tail _ (.head _)) fun h => .tail _ (.tail _ (.tail _ (.tail _ h))))
theorem sn_spec {w : World} (news : Led) (r : List Nat) (t1 : Tok) : Con 4 w 608 news (r.length < 9000) [.str (T r) t1] (SnR r news) (fun _ _ => False) := by
  intro p loose mean mg mb dp un gd cn cs a ccd cl outer A₀ base h₀ L m s Q E hB hF hX hN hT hk hpre hdp hun hret _
  have hTl := T_len r
  k_steps
  refine wpAny_call ?_
  k_dflt (walk_at "my enterB")
  k_steps
  exact sn_close (by assumption) (by with_reducible assumption : _ ∧ _ ∧ AllLt _ news).2.2 (by assumption) fun n' hR hN => hret _ _ _ n' hR (by assumption) hN
end Mine

end
section
open Mine
namespace Mine
noncomputable abbrev Ds := List (Str × (Value → Prop))
inductive DI : Ds → List DictEntry → Prop
  | nil : DI [] []
  | cons {y : Str} {V : Value → Prop} {h : Int} {t : Tok} {v : Value} {l : Ds} {es : List DictEntry} : V v → DI l es → DI ((y, V) :: l) (⟨h, .str y t, v⟩ :: es)
noncomputable def dput (name : Str) (V : Value → Prop) : Ds → Ds
  | [] => [(name, V)]
  | p :: r => if (Value.str p.1 0).isStr name then (p.1, V) :: r else p :: dput name V r
noncomputable def dget (name : Str) : Ds → Option (Value → Prop)
  | [] => none
  | p :: r => if (Value.str p.1 0).isStr name then some p.2 else dget name r
theorem DI.set {l : Ds} {es : List DictEntry} {name : Str} {V : Value → Prop} {v : Value} {h : Int} {t : Tok} (hv : V v) (H : DI l es) : DI (dput name V l) (putL name h (.str name t) v es) := by
  induction H with
  | nil => exact .cons hv .nil
  | @cons y W h0 t0 w l es hw H ih =>
    unfold dput putL
    by_cases hy : (Value.str y 0).isStr name = true
    · rw [if_pos hy, if_pos (show (Value.str y t0).isStr name = true from hy)]; exact .cons hv H
    · rw [if_neg hy, if_neg (show ¬(Value.str y t0).isStr name = true from hy)]; exact .cons hw ih
theorem putN_len {es : List DictEntry} {name : Str} {h : Int} {k v : Value} : putN name es es.length = (putL name h k v es).length ∧ (putL name h k v es).length ≤ es.length + 1 := by
  unfold putN
  induction es with
  | nil => exact ⟨rfl, Nat.le_refl _⟩
  | cons e r ih =>
    rw [List.any_cons]
    unfold putL
    cases e.key.isStr name with
    | true => exact ⟨rfl, Nat.le_succ _⟩
    | false =>
      simp only [Bool.false_or, Bool.false_eq_true, if_false, List.length_cons]
      refine ⟨?_, Nat.succ_le_succ ih.2⟩
      rw [← ih.1]
      split <;> rfl
theorem DI.noref {l : Ds} {es : List DictEntry} (H : DI l es) : (es.any (·.refKey)) = false := by
  induction H with
  | nil => rfl
  | cons _ _ ih => rw [List.any_cons, ih]; rfl
theorem DI.isS {l : Ds} {es : List DictEntry} {name : Str} (H : DI l es) : (getL name es).isSome = true := by
  unfold getL
  split
  · rfl
  · rw [H.noref]; rfl
theorem DI.get {l : Ds} {es : List DictEntry} {name : Str} {V : Value → Prop} (H : DI l es) (hg : dget name l = some V) : ∃ v, getL name es = some (some v) ∧ V v := by
  have key : ∃ e, es.find? (·.key.isStr name) = some e ∧ V e.val := by
    induction H with
    | nil => cases hg
    | @cons y W h t v l es hw H ih =>
      unfold dget at hg
      rw [List.find?_cons]
      show ∃ e, (match (Value.str y 0).isStr name with | true => _ | false => _) = some e ∧ _
      cases hy : (Value.str y 0).isStr name with
      | true => dsimp only at hg; rw [hy, if_pos rfl] at hg; exact ⟨_, rfl, Option.some.inj hg ▸ hw⟩
      | false => dsimp only at hg; rw [hy, if_neg Bool.false_ne_true] at hg; exact ih hg
  obtain ⟨e, h1, h2⟩ := key
  exact ⟨e.val, by unfold getL; rw [h1], h2⟩
section
variable {x : Fx} {f : Fn} {m : Loc} {d : Addr} {n : Led} {l : Ds} {R : Flow → Loc → Led → Prop} {X : List Value → Led → Prop} {k : Nat}
noncomputable def Li (x : Fx) (f : Fn) (m : Loc) (d : Addr) (n : Led) (l : Ds) (k : Nat) (ts : List Stmt) (R : Flow → Loc → Led → Prop) (X : List Value → Led → Prop) : Prop := ∀ es, DI l es → es.length ≤ k → Ex x f m ((d, dictOf es es.length) :: n) ts R X
noncomputable def Lp (x : Fx) (f : Fn) (m : Loc) (d : Addr) (n : Led) (l : Ds) (e : Expr) (V : Value → Prop) : Prop := ∀ es, DI l es → Ep x f m ((d, dictOf es es.length) :: n) e V
noncomputable def Lt (x : Fx) (f : Fn) (m : Loc) (d : Addr) (n : Led) (l : Ds) (e : Expr) (b : Bool) : Prop := ∀ es, DI l es → Tp x f m ((d, dictOf es es.length) :: n) e b
structure Si (m : Loc) (n : Led) (d : Addr) (y : Str) (a C : Addr) : Prop where
  hy : look m y = some (.ref a)
  hi : (a, instObj C d) ∈ n
  hd : ∀ q ∈ n, q.1 ≠ d
theorem Tr.setD {a C : Addr} {y name : Str} {v : Value} {V : Value → Prop} {es : List DictEntry} (S : Si m n d y a C) (hO : ∀ Q, setIn (Mine.KK Q) C name = true) (H : DI l es) (hz : es.length ≤ k) (hk : k < 1000) (hv : V v) {R : Unit → Loc → Led → Prop}
    (h : ∀ es', DI (dput name V l) es' → es'.length ≤ k + 1 → R () m ((d, dictOf es' es'.length) :: n)) : Tr x f m ((d, dictOf es es.length) :: n) (setAttr (.ref a) name v) R X := Tr.mk fun s Q E ok st q _ _ => by
  obtain ⟨⟨mm, F, km⟩, N⟩ := st
  obtain ⟨h1, h2, h3, h4⟩ := setIn_of (hO x.w.params)
  have hp := @putN_len es name (PyData.keyHash x.w.params name) (.str name (s.toks + 1)) v
  exact set_dict F ok.X N (InstAt.of_news N (.tail _ S.hi) (.head _)) rfl h1 h2 h4 h3 H.isS (congrArg (Prod.mk _) hp.1) (.head S.hd) (Nat.le_trans hp.2 (by omega)) fun h' F' N' => q () m _ h' _ (h _ (H.set hv) (Nat.le_trans hp.2 (Nat.succ_le_succ hz))) ⟨⟨mm, F', km⟩, N'⟩
theorem Li.set {a C : Addr} {y name : Str} {yp ap pos : Pos} {e : Expr} {r : List Stmt} {V : Value → Prop} (S : Si m n d y a C) (he : Lp x f m d n l e V) (hk : k < 1000) (h : Li x f m d n (dput name V l) (k + 1) r R X) (hO : ∀ Q, setIn (Mine.KK Q) C name = true := by intro Q; kernel_rfl)
    (hx : (x.env f).kindOf y = some .local := by rfl) (hd : (y == ("__debug__" : Str)) = false := by decide) (hs : swapsWith e (some (.Attribute (.Name y yp) name ap)) pos.line (x.env f) = pure false := by rfl) : Li x f m d n l k (.Assign [.Attribute (.Name y yp) name ap] e pos :: r) R X :=
  fun es H hz => Ex.seta (he es H) (Ep.name S.hy hx hd) (fun _ hv => Tr.setD S hO H hz hk hv fun es' H' hz' => h es' H' hz') hs
theorem Li.setDq {a C : Addr} {y name : Str} {yp ap gp cp pos : Pos} {r : List Stmt} (S : Si m n d y a C) (hk : k < 1000) (h : ∀ D, (∀ q ∈ n, @LT.lt Nat _ q.1 D) → @LT.lt Nat _ d D → Li x f m d ((D, dqO 0 []) :: n) (dput name (· = .ref D) l) (k + 1) r R X) (hO : ∀ Q, setIn (Mine.KK Q) C name = true := by intro Q; kernel_rfl)
    (hx : (x.env f).kindOf y = some .local := by rfl) (hd : (y == ("__debug__" : Str)) = false := by decide) (hg : (x.env f).kindOf (Str.ofString "deque") = some .globalImplicit := by rfl) (hs : swapsWith (.Call (.Name (Str.ofString "deque") gp) [] [] cp) (some (.Attribute (.Name y yp) name ap)) pos.line (x.env f) = pure false := by rfl)
    (he : eval (.Call (.Name (Str.ofString "deque") gp) [] [] cp) (x.env f) = (do callWith cp (← eval (.Name (Str.ofString "deque") gp) (x.env f)) [] (backTo cp (starEach [] (x.env f))) (backToKw cp (keywordEach [] (x.env f)))) := by rfl) :
    Li x f m d n l k (.Assign [.Attribute (.Name y yp) name ap] (.Call (.Name (Str.ofString "deque") gp) [] [] cp) pos :: r) R X :=
  fun es H hz => Ex.go <| Tr.mk fun s Q E ok st q ee po => plainObj_wpAny_Assign_Attribute (Call_ ((Ep.glb (v := .type "collections.deque") (by intro Q; kernel_rfl) hg (by decide)).use ok st (fun v h1 t1 hv st1 => by
    subst hv
    obtain ⟨⟨mm, F, km⟩, N⟩ := st1
    refine callWith_type0 (dn_make F N fun D h2 F2 N2 hlt => ?_)
    have hD : @LT.lt Nat _ d D := hlt _ (.head _)
    have hn : ∀ q ∈ n, @LT.lt Nat _ q.1 D := fun q hq => hlt q (.tail _ hq)
    have N3 : News x.G x.L h2 ((d, dictOf es es.length) :: (D, dqO 0 []) :: n) := News.sub N2 fun p hp => (List.mem_cons.mp hp).elim (fun e => .tail _ (e ▸ .head _)) fun hp => (List.mem_cons.mp hp).elim (fun e => e ▸ .head _) fun hp => .tail _ (.tail _ hp)
    have S' : Si m ((D, dqO 0 []) :: n) d y a C := ⟨S.hy, .tail _ S.hi, List.forall_mem_cons.mpr ⟨Nat.ne_of_gt hD, S.hd⟩⟩
    refine (Ep.name S.hy hx hd).use ok ⟨⟨mm, F2, km⟩, N3⟩ (fun v h1 t1 hv st1 => ?_) po
    subst hv
    exact (Tr.setD (V := (· = .ref D)) (X := X) S' hO H hz hk rfl fun es' H' hz' => h D hn hD es' H' hz').run _ _ E ok st1 (fun _ m' n' h' tk' z st3 => q _ _ _ h' tk' ⟨rfl, z⟩ st3) ee po) po) he) hs
theorem Li.ifT {test : Expr} {a b r : List Stmt} {pos : Pos} (ht : Lt x f m d n l test true) (h : Li x f m d n l k (a ++ r) R X) : Li x f m d n l k (.If test a b pos :: r) R X := fun es H hz => Ex.ifT (ht es H) (h es H hz)
theorem Li.ifF {test : Expr} {a b r : List Stmt} {pos : Pos} (ht : Lt x f m d n l test false) (h : Li x f m d n l k (b ++ r) R X) : Li x f m d n l k (.If test a b pos :: r) R X := fun es H hz => Ex.ifF (ht es H) (h es H hz)
theorem Lp.str {y : Str} {c : Nat} {pos : Pos} : Lp x f m d n l (.Constant (.str y) c pos) (IsS y) := fun _ _ => Ep.str
theorem Lp.int {i : Int} {c : Nat} {pos : Pos} : Lp x f m d n l (.Constant (.int i) c pos) (IsI i) := fun _ _ => Ep.int
theorem Lp.none {c : Nat} {pos : Pos} : Lp x f m d n l (.Constant .none c pos) (· = .none) := fun _ _ => Ep.none
theorem Lp.bool {b : Bool} {c : Nat} {pos : Pos} : Lp x f m d n l (.Constant (.bool b) c pos) (· = .bool b) := fun _ _ => Ep.bool
theorem Lp.name {y : Str} {pos : Pos} {v : Value} (hv : look m y = some v) (hx : (x.env f).kindOf y = some .local := by rfl) (hd : (y == ("__debug__" : Str)) = false := by decide) : Lp x f m d n l (.Name y pos) (· = v) := fun _ _ => Ep.name hv hx hd
theorem Lp.at {a C : Addr} {y name : Str} {yp ap : Pos} {V : Value → Prop} (S : Si m n d y a C) (hg : dget name l = some V) (hV : ∀ v, V v → handedIn v = true) (hO : ∀ Q, ownOk (Mine.KK Q) C name = true := by intro Q; kernel_rfl)
    (hx : (x.env f).kindOf y = some .local := by rfl) (hd : (y == ("__debug__" : Str)) = false := by decide) : Lp x f m d n l (.Attribute (.Name y yp) name ap) V := fun es H => by
  obtain ⟨v, h1, h2⟩ := H.get hg
  exact Ep.at rfl (Ep.name S.hy hx hd) (Tr.own (.tail _ S.hi) (.head _) hO h1 (hV v h2) ⟨h2, rfl, rfl⟩)
theorem Li.augS {a C : Addr} {y name z z' zw : Str} {yp ap pos : Pos} {e : Expr} {r : List Stmt} (S : Si m n d y a C) (hg : dget name l = some (IsS z)) (he : Lp x f m d n l e (IsS z')) (hw : z ++ z' = zw) (hz : z.length + z'.length ≤ 16777216) (hk : k < 1000) (h : Li x f m d n (dput name (IsS zw) l) (k + 1) r R X)
    (hO : ∀ Q, setIn (Mine.KK Q) C name = true := by intro Q; kernel_rfl) (hO2 : ∀ Q, ownOk (Mine.KK Q) C name = true := by intro Q; kernel_rfl)
    (hx : (x.env f).kindOf y = some .local := by rfl) (hd : (y == ("__debug__" : Str)) = false := by decide) : Li x f m d n l k (.AugAssign (.Attribute (.Name y yp) name ap) .Add e pos :: r) R X := fun es H hl => by
  obtain ⟨v, h1, t, h2⟩ := H.get hg
  subst h2 hw
  exact Ex.auga (V := IsS z') (W := IsS (z ++ z')) (Ep.name S.hy hx hd) (Tr.own (.tail _ S.hi) (.head _) hO2 h1 rfl ⟨rfl, rfl, rfl⟩) (he es H) (fun _ ⟨t', e⟩ => e ▸ Tr.fin (V := IsS (z ++ z')) (fun s Q E q => SBL.iadd (fun t k _ => q _ k ⟨t, rfl⟩) (by rw [sizeLine_eq]; exact hz)) fun _ h => ⟨h, rfl, rfl⟩) (fun _ hv => Tr.setD S hO H hl hk hv fun es' H' hz' => h es' H' hz')
end
end Mine

end
section
open Mine
namespace Mine
section
variable {x : Fx} {f : Fn} {m : Loc} {d : Addr} {n : Led} {l : Ds} {R : Flow → Loc → Led → Prop} {X : List Value → Led → Prop} {k : Nat}
theorem Li.asS {y z : Str} {p pos : Pos} {e : Expr} {r : List Stmt} (he : Lp x f m d n l e (IsS z)) (h : ∀ t, Li x f ((y, .str z t) :: m) d n l k r R X) (hs : swapsWith e (some (.Name y p)) pos.line (x.env f) = pure false := by rfl) (hx : (x.env f).kindOf y = some .local := by rfl) :
    Li x f m d n l k (.Assign [.Name y p] e pos :: r) R X := fun es H hz => Ex.asS (he es H) (fun t => h t es H hz) hs hx
theorem Lt.val {e : Expr} {V : Value → Prop} {b : Bool} (h : Lp x f m d n l e V) (hv : Tv V b) (hp : isTrue e (x.env f) (eval e (x.env f)) = (do
      let v ← eval e (x.env f)
      standAt e.pos
      holding [v] (truthy v)) := by rfl) : Lt x f m d n l e b := fun es H => Tp.val (h es H) hv hp
theorem Lt.notnone {y : Str} {yp p pos : Pos} {a : Addr} {c : Nat} (hv : look m y = some (.ref a)) (hx : (x.env f).kindOf y = some .local := by rfl) (hd : (y == ("__debug__" : Str)) = false := by decide) : Lt x f m d n l (.Compare (.Name y yp) [.IsNot] [.Constant .none c p] pos) true :=
  fun _ _ => Tp.cmp (Ep.name hv hx hd) Ep.none (fun _ _ _ s _ _ _ h1 h2 q => by subst h1 h2; exact isnot_ref_none (q s.toks)) rfl
end
noncomputable abbrev lexDs (sio pb fs : Addr) : Ds := [(Str.ofString "instream", (· = .ref sio)), (Str.ofString "infile", (· = .none)), (Str.ofString "posix", (· = .bool true)), (Str.ofString "eof", (· = .none)), (Str.ofString "commenters", IsS (Str.ofString "#")), (Str.ofString "wordchars", IsS wcs), (Str.ofString "whitespace", IsS (Str.ofString " \t\r\n")), (Str.ofString "whitespace_split", (· = .bool false)), (Str.ofString "quotes", IsS (Str.ofString "'\"")), (Str.ofString "escape", IsS (Str.ofString "\\")), (Str.ofString "escapedquotes", IsS (Str.ofString "\"")), (Str.ofString "state", IsS (Str.ofString " ")), (Str.ofString "pushback", (· = .ref pb)), (Str.ofString "lineno", IsI 1), (Str.ofString "debug", IsI 0), (Str.ofString "token", IsS (Str.ofString "")), (Str.ofString "filestack", (· = .ref fs)), (Str.ofString "source", (· = .none)), (Str.ofString "_punctuation_chars", IsS (Str.ofString ""))]
theorem DI.cast {l l' : Ds} {es : List DictEntry} (h : DI l es) (e : l = l') : DI l' es := e ▸ h
inductive LiR (r : List Nat) (x ld : Addr) (news : Led) (v : Value) (n' : Led) : Prop
  | mk (sio sd pb fs : Addr) (hs2 : Nat → Int) (ts2 : Nat → Tok) (t1 t2 t3 : Tok) (es : List DictEntry) : v = .none → DI (lexDs sio pb fs) es → @LT.lt Nat _ x sd → @LT.lt Nat _ sd sio → @LT.lt Nat _ sio pb → @LT.lt Nat _ pb fs →
    n' = (ld, dictOf es es.length) :: (fs, dqO 0 []) :: (pb, dqO 0 []) :: (sio, instObj 608 sd) :: (sd, sioD hs2 ts2 (T r) 0 t1 t2 t3) :: (x, instObj 743 ld) :: news → LiR r x ld news v n'
theorem li_fill {y : Fx} {r : List Nat} {x ld sio sd : Addr} {news : Led} {hs2 : Nat → Int} {ts2 : Nat → Tok} {u t1 t2 t3 : Tok} (hl : ∀ q ∈ news, @LT.lt Nat _ q.1 ld) (h1 : @LT.lt Nat _ ld x) (h2 : @LT.lt Nat _ x sd) (h3 : @LT.lt Nat _ sd sio) :
    Li y (fnO o667.1 667) [(Str.ofString "instream", .ref sio), (Str.ofString "punctuation_chars", .bool false), (Str.ofString "posix", .bool true), (Str.ofString "infile", .none), (Str.ofString "instream", .str (T r) u), (Str.ofString "self", .ref x)] ld ((sio, instObj 608 sd) :: (sd, sioD hs2 ts2 (T r) 0 t1 t2 t3) :: (x, instObj 743 ld) :: news) [] 0 ((fb o667.1).drop 1) (fun fl _ n' => LiR r x ld news (retv fl) n') NoX := by
  have S0 : Si [(Str.ofString "instream", .ref sio), (Str.ofString "punctuation_chars", .bool false), (Str.ofString "posix", .bool true), (Str.ofString "infile", .none), (Str.ofString "instream", .str (T r) u), (Str.ofString "self", .ref x)] ((sio, instObj 608 sd) :: (sd, sioD hs2 ts2 (T r) 0 t1 t2 t3) :: (x, instObj 743 ld) :: news) ld (Str.ofString "self") x 743 :=
    ⟨rfl, .tail _ (.tail _ (.head _)), List.forall_mem_cons.mpr ⟨Nat.ne_of_gt (Nat.lt_trans (Nat.lt_trans h1 h2) h3), List.forall_mem_cons.mpr ⟨Nat.ne_of_gt (Nat.lt_trans h1 h2), List.forall_mem_cons.mpr ⟨Nat.ne_of_gt h1, fun q hq => Nat.ne_of_lt (hl q hq)⟩⟩⟩⟩
  refine Li.ifT (Lt.notnone rfl) ?_
  refine Li.set S0 (Lp.name rfl) (by decide) ?_
  refine Li.set S0 (Lp.name rfl) (by decide) ?_
  refine Li.set S0 (Lp.name rfl) (by decide) ?_
  refine Li.ifT (Lt.val (Lp.name rfl) Tv.bool) ?_
  refine Li.set S0 Lp.none (by decide) ?_
  refine Li.set S0 Lp.str (by decide) ?_
  refine Li.set S0 Lp.str (by decide) ?_
  refine Li.ifT (Lt.val (Lp.at (V := (· = .bool true)) S0 (by kernel_rfl) (fun _ e => e ▸ rfl)) Tv.bool) ?_
  refine Li.augS (z := Str.ofString "abcdfeghijklmnopqrstuvwxyzABCDEFGHIJKLMNOPQRSTUVWXYZ0123456789_") S0 (by kernel_rfl) Lp.str (zw := wcs) (by decide +kernel) (by decide +kernel) (by decide) ?_
  refine Li.set S0 Lp.str (by decide) ?_
  refine Li.set S0 Lp.bool (by decide) ?_
  refine Li.set S0 Lp.str (by decide) ?_
  refine Li.set S0 Lp.str (by decide) ?_
  refine Li.set S0 Lp.str (by decide) ?_
  refine Li.set S0 Lp.str (by decide) ?_
  refine Li.setDq S0 (by decide) fun pb p1 p2 => ?_
  have S1 : Si [(Str.ofString "instream", .ref sio), (Str.ofString "punctuation_chars", .bool false), (Str.ofString "posix", .bool true), (Str.ofString "infile", .none), (Str.ofString "instream", .str (T r) u), (Str.ofString "self", .ref x)] ((pb, dqO 0 []) :: (sio, instObj 608 sd) :: (sd, sioD hs2 ts2 (T r) 0 t1 t2 t3) :: (x, instObj 743 ld) :: news) ld (Str.ofString "self") x 743 := ⟨rfl, .tail _ S0.hi, List.forall_mem_cons.mpr ⟨Nat.ne_of_gt p2, S0.hd⟩⟩
  refine Li.set S1 Lp.int (by decide) ?_
  refine Li.set S1 Lp.int (by decide) ?_
  refine Li.set S1 Lp.str (by decide) ?_
  refine Li.setDq S1 (by decide) fun fs f1 f2 => ?_
  have S2 : Si [(Str.ofString "instream", .ref sio), (Str.ofString "punctuation_chars", .bool false), (Str.ofString "posix", .bool true), (Str.ofString "infile", .none), (Str.ofString "instream", .str (T r) u), (Str.ofString "self", .ref x)] ((fs, dqO 0 []) :: (pb, dqO 0 []) :: (sio, instObj 608 sd) :: (sd, sioD hs2 ts2 (T r) 0 t1 t2 t3) :: (x, instObj 743 ld) :: news) ld (Str.ofString "self") x 743 := ⟨rfl, .tail _ S1.hi, List.forall_mem_cons.mpr ⟨Nat.ne_of_gt f2, S1.hd⟩⟩
  refine Li.set S2 Lp.none (by decide) ?_
  refine Li.ifT (b := [_]) (fun _ _ => Tp.not (b := false) (Tp.val (Ep.name rfl) Tv.bool)) ?_
  refine Li.asS Lp.str fun t => ?_
  refine Li.set (V := IsS (Str.ofString "")) ⟨rfl, S2.hi, S2.hd⟩ (fun _ _ => Ep.nameS rfl) (by decide) ?_
  refine Li.ifF (Lt.val (Lp.name rfl) Tv.emp) ?_
  exact fun es H _ => Ex.nil ⟨sio, sd, pb, fs, hs2, ts2, t1, t2, t3, es, rfl, H.cast (by kernel_rfl), h2, h3, p1 _ (.head _), f1 _ (.head _), rfl⟩
theorem li_code {w : World} {r : List Nat} {x ld : Addr} {news : Led} {t1 : Tok} (hl : ∀ q ∈ news, @LT.lt Nat _ q.1 ld) (h1 : @LT.lt Nat _ ld x) (hr : r.length < 9000)
    {p : Program} {loose : List Str} {mean : ExcName → Option Value} {mg mb : Str → Option Value} {A : Around} {env : Env} {outer : List Env} {A₀ : Around} {base h₀ : Heap} {L : Addr} {m : Str → Option Value} {s : Shared} {Q E : Value → Shared → Prop}
    (hA : A.frames = some (env :: outer)) (hf : env.frame = some L) (hck : env.scope.kind = .function) (hh : A.handled = none)
    (B : Below A₀ base outer h₀) (F : Fr h₀ L s.heap m) (X : (Mine.KK w.params).In h₀) (N : News h₀ L s.heap ((x, instObj 743 ld) :: (ld, dictOf [] 0) :: news)) (T' : Top p loose mean mg mb h₀) (hdp : A.depth + 1 + 20 < recursionLimit) (hun : A.units + 3 + 160 < cLine)
    (ret : ∀ (v : Value) (h' : Heap) (tk' : Nat) (n' : Led), LiR r x ld news v n' → Fr h₀ L h' m → News h₀ L h' n' → Q v { s with heap := h', toks := tk' }) :
    codeAny (model PySem.Challenge.pw_in0151_01 w) A (.call (.ref 667) ⟨[.ref x, .str (T r) t1], [(Str.ofString "posix", .bool true)]⟩) (fun r s' => match r with | .ok (.ret v) => Q v s' | .ok _ => False | .error e => E e s') s := by
  refine code_of (c := 20) (u := 160) (binds := [(Str.ofString "self", .ref x), (Str.ofString "instream", .str (T r) t1), (Str.ofString "infile", .none), (Str.ofString "posix", .bool true), (Str.ofString "punctuation_chars", .bool false)]) (R := LiR r x ld news) (RE := NoX) (by k_is) (by k_is)
    (fun s X => binds_K X rfl (by k_is) rfl rfl rfl) (locs rfl) ?_ rfl rfl rfl (by decide) hA hf hck hh B F X N T' hdp hun ret (fun _ _ _ _ _ _ _ z => z.elim)
  intro y hw hc hu hcl
  show Ex y (fnO o667.1 667) _ _ (fb o667.1) _ _
  refine Ex.ifT (Tp.val (V := (· = .bool true)) (Ev.callB (by intro Q; kernel_rfl) boot_isinstance (by decide) (Er.E (Ep.name rfl) (Er.E (Ep.blt (by intro Q; kernel_rfl) boot_str (by decide)) (Er.nil (Tr.fi (V := (· = .bool true)) (fun w A E s Q _ q => IsiPair.str_str (q _ s.toks rfl)) fun _ h => ⟨h, rfl, rfl⟩))))) Tv.bool) ?_
  refine Ex.asK (Ev.dcall (fa := 608) (by intro Q; kernel_rfl) (by intro Q; kernel_rfl) (Er.E (Ep.name rfl) (Er.nil ?_)))
  refine Tr.con (lv := 4) (sn_spec _ r t1) hr (fun q hq => hq) (by rw [hc]; decide) (by rw [hu]; decide) (fun v n' hR => ?_) (fun _ _ z => z.elim)
  obtain ⟨sio, sd, hs2, ts2, a1, a2, a3, rfl, hl2, h3, rfl⟩ := hR
  refine ⟨(ld, dictOf [] 0) :: (sio, instObj 608 sd) :: (sd, sioD hs2 ts2 (T r) 0 a1 a2 a3) :: (x, instObj 743 ld) :: news, fun q hq => ?_, ?_⟩
  · rcases List.mem_cons.mp hq with e | hq
    · exact e ▸ .tail _ (.tail _ (.tail _ (.head _)))
    rcases List.mem_cons.mp hq with e | hq
    · exact e ▸ .head _
    rcases List.mem_cons.mp hq with e | hq
    · exact e ▸ .tail _ (.head _)
    rcases List.mem_cons.mp hq with e | hq
    · exact e ▸ .tail _ (.tail _ (.head _))
    · exact .tail _ (.tail _ (.tail _ (.tail _ hq)))
  · exact li_fill hl h1 (hl2 _ (.head _)) h3 [] .nil (Nat.le_refl 0)
end Mine

end
section
open Mine
namespace Mine
noncomputable def dents (hs : Nat → Int) (ts : Nat → Tok) (vs : Nat → Value) : List Str → List DictEntry
  | [] => []
  | y :: r => ⟨hs 0, .str y (ts 0), vs 0⟩ :: dents (fun i => hs (i + 1)) (fun i => ts (i + 1)) (fun i => vs (i + 1)) r
noncomputable def dvals (vs : Nat → Value) : Ds → Prop
  | [] => True
  | p :: r => p.2 (vs 0) ∧ dvals (fun i => vs (i + 1)) r
noncomputable def fcons {α : Type} (a : α) (f : Nat → α) : Nat → α
  | 0 => a
  | i + 1 => f i
theorem DI.fn {l : Ds} {es : List DictEntry} (H : DI l es) : ∃ (hs : Nat → Int) (ts : Nat → Tok) (vs : Nat → Value), es = dents hs ts vs (l.map (·.1)) ∧ dvals vs l := by
  induction H with
  | nil => exact ⟨fun _ => 0, fun _ => 0, fun _ => .none, rfl, trivial⟩
  | @cons y V h t v l es hv H ih =>
    obtain ⟨hs, ts, vs, h1, h2⟩ := ih
    exact ⟨fcons h hs, fcons t ts, fcons v vs, congrArg (_ :: ·) h1, hv, h2⟩
noncomputable def vtok : Value → Tok
  | .str _ t => t
  | .int _ t => t
  | _ => 0
theorem IsS.tok {z : Str} {v : Value} (h : IsS z v) : v = .str z (vtok v) := let ⟨_, e⟩ := h; e ▸ rfl
theorem IsI.tok {i : Int} {v : Value} (h : IsI i v) : v = .int i (vtok v) := let ⟨_, e⟩ := h; e ▸ rfl
theorem dcons {h : Int} {k v v' : Value} {l l' : List DictEntry} (e : v = v') (e' : l = l') : (⟨h, k, v⟩ : DictEntry) :: l = ⟨h, k, v'⟩ :: l' := e ▸ e' ▸ rfl
noncomputable abbrev lexE (hs : Nat → Int) (ts : Nat → Tok) (sio pb fs : Addr) (tc : Nat → Tok) (tst tl tt : Tok) : Obj :=
  dictOf [en hs ts 0 "instream" (.ref sio), en hs ts 1 "infile" .none, en hs ts 2 "posix" (.bool true), en hs ts 3 "eof" .none,
    en hs ts 4 "commenters" (.str (Str.ofString "#") (tc 4)), en hs ts 5 "wordchars" (.str wcs (tc 5)), en hs ts 6 "whitespace" (.str (Str.ofString " \t\r\n") (tc 6)),
    en hs ts 7 "whitespace_split" (.bool false), en hs ts 8 "quotes" (.str (Str.ofString "'\"") (tc 8)), en hs ts 9 "escape" (.str (Str.ofString "\\") (tc 9)),
    en hs ts 10 "escapedquotes" (.str (Str.ofString "\"") (tc 10)), en hs ts 11 "state" (.str (Str.ofString " ") tst), en hs ts 12 "pushback" (.ref pb), en hs ts 13 "lineno" (.int 1 tl),
    en hs ts 14 "debug" (.int 0 (tc 14)), en hs ts 15 "token" (.str (Str.ofString "") tt), en hs ts 16 "filestack" (.ref fs), en hs ts 17 "source" .none,
    en hs ts 18 "_punctuation_chars" (.str (Str.ofString "") (tc 18))] 19
theorem lex_lit {sio pb fs : Addr} {es : List DictEntry} (H : DI (lexDs sio pb fs) es) : ∃ hs ts tc tst tl tt, dictOf es es.length = lexE hs ts sio pb fs tc tst tl tt := by
  obtain ⟨hs, ts, vs, e, h0, h1, h2, h3, h4, h5, h6, h7, h8, h9, h10, h11, h12, h13, h14, h15, h16, h17, h18, _⟩ := H.fn
  subst e
  exact ⟨hs, ts, fun i => vtok (vs i), _, _, _, congrArg (fun l => dictOf l 19) (dcons h0 (dcons h1 (dcons h2 (dcons h3 (dcons (IsS.tok h4) (dcons (IsS.tok h5) (dcons (IsS.tok h6) (dcons h7 (dcons (IsS.tok h8) (dcons (IsS.tok h9) (dcons (IsS.tok h10) (dcons (IsS.tok h11) (dcons h12 (dcons (IsI.tok h13) (dcons (IsI.tok h14) (dcons (IsS.tok h15) (dcons h16 (dcons h17 (dcons (IsS.tok h18) rfl)))))))))))))))))))⟩
inductive LnR (r : List Nat) (news : Led) (v : Value) (n' : Led) : Prop
  | mk (x ld sio sd pb fs : Addr) (hs hs2 : Nat → Int) (ts ts2 tc : Nat → Tok) (t1 t2 t3 tst tl tt : Tok) : v = .ref x → (∀ q ∈ news, @LT.lt Nat _ q.1 ld) → (@LT.lt Nat _ ld x ∧ @LT.lt Nat _ x sd ∧ @LT.lt Nat _ sd sio ∧ @LT.lt Nat _ sio pb ∧ @LT.lt Nat _ pb fs) →
    n' = (fs, dqO 0 []) :: (pb, dqO 0 []) :: (sio, instObj 608 sd) :: (sd, sioD hs2 ts2 (T r) 0 t1 t2 t3) :: (x, instObj 743 ld) :: (ld, lexE hs ts sio pb fs tc tst tl tt) :: news → LnR r news v n'
theorem ln_new {w : World} {r : List Nat} {t1 : Tok} {news : Led} (hr : r.length < 9000)
    {p : Program} {loose : List Str} {mean : ExcName → Option Value} {mg mb : Str → Option Value} {dp un : Nat} {gd : Option (List Code)} {cn : Str} {cs : Scope} {a : Addr} {ccd : Value} {cl : List (Str × Addr)} {outer : List Env} {A₀ : Around} {base h₀ : Heap} {L : Addr} {m : Str → Option Value} {s : Shared} {Q E : Value → Shared → Prop}
    (B : Below A₀ base outer h₀) (F : Fr h₀ L s.heap m) (X : (Mine.KK w.params).In h₀) (N : News h₀ L s.heap news) (T' : Top p loose mean mg mb h₀) (hck : cs.kind = .function) (hdp : dp + 23 < recursionLimit) (hun : un + 180 < cLine)
    (ret : ∀ (v : Value) (h' : Heap) (tk' : Nat) (n' : Led), LnR r news v n' → Fr h₀ L h' m → News h₀ L h' n' → Q v { s with heap := h', toks := tk' }) :
    wpAny (model PySem.Challenge.pw_in0151_01 w) (ktrTop dp un gd cn cs L a ccd cl outer) (call (.ref 743) [.str (T r) t1] [(Str.ofString "posix", .bool true)]) Q E s := by
  refine call_cls F X N (fI := 667) (by k_is) (by k_is) (by k_is) fun x ld h1 F1 N1 hl h2 => ?_
  refine codeAny_mono (li_code (Q := fun v s' => InitBack x (fun r s' => match r with | .ok (.ret v) => Q v s' | .ok _ => False | .error e => E e s') (.ok (.ret v)) s') (E := E) (env := envX cn cs L a ccd cl) (outer := outer) hl h2 hr rfl rfl hck rfl B F1 X N1 T' ?_ ?_ ?_) ?_
  · show dp + 1 + 1 + 20 < recursionLimit
    omega
  · show un + 1 + 3 + 160 < cLine
    omega
  · rintro v h' tk' n' ⟨sio, sd, pb, fs, hs2, ts2, a1, a2, a3, es, rfl, H, l1, l2, l3, l4, rfl⟩ F' N'
    obtain ⟨hs, ts, tc, tst, tl, tt, e⟩ := lex_lit H
    rw [e] at N'
    refine ⟨rfl, ret (.ref x) h' tk' _ ⟨x, ld, sio, sd, pb, fs, hs, hs2, ts, ts2, tc, a1, a2, a3, tst, tl, tt, rfl, hl, ⟨h2, l1, l2, l3, l4⟩, rfl⟩ F' (News.sub N' fun q hq => ?_)⟩
    rcases List.mem_cons.mp hq with e | hq
    · exact e ▸ .tail _ (.head _)
    rcases List.mem_cons.mp hq with e | hq
    · exact e ▸ .tail _ (.tail _ (.head _))
    rcases List.mem_cons.mp hq with e | hq
    · exact e ▸ .tail _ (.tail _ (.tail _ (.head _)))
    rcases List.mem_cons.mp hq with e | hq
    · exact e ▸ .tail _ (.tail _ (.tail _ (.tail _ (.head _))))
    rcases List.mem_cons.mp hq with e | hq
    · exact e ▸ .tail _ (.tail _ (.tail _ (.tail _ (.tail _ (.head _)))))
    rcases List.mem_cons.mp hq with e | hq
    · exact e ▸ .head _
    · exact .tail _ (.tail _ (.tail _ (.tail _ (.tail _ (.tail _ hq)))))
  · intro r s' z
    rcases r with e | (v | _ | _ | _)
    · exact z
    all_goals exact z
end Mine

end
section
open Mine
theorem Mine.pre_Lx : PySem.Challenge.rw_in0151_01 = PySem.Challenge.rw_in0151_01 ∧ Mine.KK = Mine.KK := by
  k_with "my enterC" => (refine' code_defC ?k1_z ?k2_z ?k3_z ?k4_z ?k5_z ?kA_z ?kF_z ?kK_z ?k6_z ?k7_z ?k8_z ?k9_z ?kB_z ?kD_z ?_ ?c2_z ?c3_z ?c4_z; (case kA_z => exact rfl); (case kF_z => exact rfl); (case kK_z => first | exact rfl | assumption); (case k1_z => k_asm); (case k2_z => k_asm); (case k3_z => k_asm); (case k4_z => k_asm); (case k5_z => k_asm); (case k6_z => k_is); (case k7_z => k_is); (case k8_z => ktr_room); (case k9_z => first | exact BindsTo.of_eq rfl | exact binds_K (by k_in) rfl (by k_is) rfl rfl rfl); (case kB_z => exact rfl); (case kD_z => decide +kernel); (case c2_z => exact rfl); (case c3_z => exact rfl); (case c4_z => exact rfl); k_whole; intro G LL h1 tk1 cells1 FG F1 N1 Y1 B1 X1 T1 l1; (try k_lt l1); k_cells Y1; (try simp only [List.cons_append, List.nil_append] at N1); (try dsimp only); (try k_lift B1); (try k_fold))
  k_with "call ref" => ((with_reducible show wpAny _ _ (call (Value.ref 608) _ _) _ _ _); k_dflt (refine' mk_call ?k1_z ?k2_z ?k3_z ?k4_z ?k5_z ?k6_z ?k7_z ?k8_z ?k9_z ?ka_z ?kb_z ?kc_z ?_; (case k1_z => k_asm); (case k2_z => k_asm); (case k3_z => kernel_rfl); (case k4_z => k_is); (case k5_z => k_is); (case k6_z => k_is); (case k7_z => k_is); (case k8_z => k_is); (case k9_z => k_is); (case ka_z => k_handed); (case kb_z => k_is); (case kc_z => k_is); k_whole))
  k_with "call builtin:object.__new__" => (k_dflt (refine' mk_newK (B := 131) (D := 104) ?k1_z ?k2_z ?k3_z ?k4_z ?_; (case k1_z => k_asm); (case k2_z => k_asm); (case k3_z => k_asm); (case k4_z => kernel_rfl); k_whole; intro x'z d'z h'z F'z N'z l1z l2z; (try k_lt l1z); (try k_lt2 l2z); (try k_sweep)))
  k_with "call type:collections.deque" => (k_dflt (refine' dn_make ?k1_z ?k2_z ?_; (case k1_z => k_asm); (case k2_z => k_asm); k_whole; intro d'z h'z F'z N'z l1z; (try k_lt l1z); (try k_sweep)))
  k_with "MadeX" => (k_dflt (refine' mk_fin ?k0_z ?k1_z ?k2_z ?k3_z ?_; (case k0_z => k_asm); (case k1_z => k_asm); (case k2_z => k_asm); (case k3_z => k_mem); k_whole; (first | k_enter | (k_dflt (walk_at "my enter")))))
  k_with "call ref" => ((with_reducible show wpAny _ _ (call (Value.ref 743) _ _) _ _ _); refine Mine.Halt.out ?_)
  exact ⟨rfl, rfl⟩

namespace Mine
theorem lx_spec {w : World} (news : List (Addr × Obj)) (r : List Nat) (t1 : Tok) (hn0 : ∀ q ∈ news, q.1 ≠ 754) :
  ∀ (p : Program) (loose : List Str) (mean : ExcName → Option Value) (mg mb : Str → Option Value) (dp un : Nat) (gd : Option (List Code)) (cn : Str) (cs : Scope) (a : Addr) (ccd : Value) (cl : List (Str × Addr)) (outer : List Env) (A₀ : Around) (base h₀ : Heap) (L : Addr) (m : Str → Option Value) (s : Shared) (Q E : Value → Shared → Prop),
    Below A₀ base outer h₀ → Fr h₀ L s.heap m → (Mine.KK w.params).In h₀ → News h₀ L s.heap ((754, tabObj #[]) :: news) → Top p loose mean mg mb h₀ → CodeHd h₀ 758 754 → cs.kind = .function →
    r.length < 9000 → dp + 25 < recursionLimit → un + 200 < cLine →
    (∀ (v : Value) (h' : Heap) (tk' : Nat) (n' : List (Addr × Obj)), LxR w r news v n' → Fr h₀ L h' m → News h₀ L h' n' → Q v { s with heap := h', toks := tk' }) →
      wpAny (model PySem.Challenge.pw_in0151_01 w) (ktrTop dp un gd cn cs L a ccd cl outer) (call (.ref 759) [.str (T r) t1]) Q E s := by
  intro p loose mean mg mb dp un gd cn cs a ccd cl outer A₀ base h₀ L m s Q E hB hF hX hN hT hC hk hpre hdp hun hret
  refine wpAny_call ?_
  k_dflt (walk_at "my enterC")
  rename_i o1 d1
  replace d1 : o1.data = .cell none := d1
  have hne : ∀ q ∈ news, q.1 ≠ LL + 1 := fun q hq => Nat.ne_of_lt (Nat.lt_succ_of_lt (allLt_mem l1.2 q hq))
  have hlt0 : @LT.lt Nat _ 754 (LL + 1) := Nat.lt_succ_of_lt l1.1
  have hCG : CodeHd G 758 754 := CodeHd.keeps hC FG.keep
  have hTl := T_len r
  have hnl : ∀ q ∈ news, @LT.lt Nat _ q.1 (LL + 1) := fun q hq => Nat.lt_succ_of_lt (allLt_mem l1.2 q hq)
  k_steps
  unfold Mine.Halt
  refine' ln_new hpre ?B ?F ?X ?N ?T ?hk ?hd ?hu ?_
  case B => k_asm
  case F => assumption
  case X => k_asm
  case N => assumption
  case T => k_asm
  case hk => rfl
  case hd => (show dp + 1 + 23 < recursionLimit; omega)
  case hu => (show un + 3 + 180 < cLine; omega)
  intro v h' tk' n' hR F' N'
  obtain ⟨x, ld, sio, sd, pb, fs, hs, hs2, ts, ts2, tc, t1', t2', t3', tst, tl, tt, rfl, hl, ⟨o1', o2', o3', o4', o5'⟩, rfl⟩ := hR
  have l9 := hl _ (.head _)
  dsimp only at l9
  have hne2 : ∀ q ∈ news, q.1 ≠ ld := fun q hq => Nat.ne_of_lt (hl q (.tail _ (.tail _ hq)))
  k_steps
  obtain ⟨n', hR, hN'⟩ := lx_close (w := w) (r := r) (by assumption) rfl (by assumption) (by assumption) (by assumption) (by refine ⟨?_, ?_, ?_, ?_, ?_, ?_, ?_, ?_, ?_⟩ <;> omega) hnl
  exact hret _ _ _ _ hR (by assumption) hN'
end Mine

end
section
open Mine
namespace Mine
theorem ra_spec {w : World} (news : List (Addr × Obj)) (sio sd : Addr) (hs ts) (r : List Nat) (pos : Nat) (t1 t2 t3 : Tok)
  (hne : ∀ q ∈ news, q.1 ≠ sd) (hne' : @Ne Nat sio sd) :
  Con 1 w 554 ((sio, instObj 608 sd) :: (sd, sioD hs ts (T r) pos t1 t2 t3) :: news) (pos ≤ r.length ∧ r.length < 10000) [.ref sio]
    (fun v news' => ∃ t p' t', v = .str (T (r.drop pos)) t ∧ news' = (sio, instObj 608 sd) :: (sd, sioD hs ts (T r) p' t1 t2 t') :: news) (fun _ _ => False) := by
  dsimp only [Con]; intros; rename_i hpre _ _ hret _
  refine wpAny_call ?_
  k_dflt (walk_at "my enter")
  have hTl := T_len r
  obtain ⟨hpos, hlen⟩ := hpre
  k_steps
  · have hd : r.drop pos = [] := List.drop_eq_nil_of_le (by omega)
    have he : ∀ t, (Value.str (Str.ofString "") t) = .str (T (r.drop pos)) t := fun t => by rw [hd]; rfl
    refine hret _ _ _ _ ⟨_, _, _, he _, rfl⟩ (by assumption) (by assumption)
  · refine' hret _ _ _ _ ⟨_, _, _, congrArg (fun x => Value.str x _) ?_, rfl⟩ (by assumption) (by assumption)
    rw [hTl, slice_T _ _ _ (by omega) (by omega)]
    refine (slice_chop _ 32).trans ?_
    rw [List.take_of_length_le (by simp)]
end Mine

end
section
open Mine
namespace Mine
theorem lx_top {w : World} (news : List (Addr × Obj)) (r : List Nat) (t1 : Tok) (hn0 : ∀ q ∈ news, q.1 ≠ 754)
    {p : Program} {loose : List Str} {mean : ExcName → Option Value} {mg mb : Str → Option Value} {cn : Str} {cs : Scope} {a : Addr} {ccd : Value} {cl : List (Str × Addr)} {base h₀ : Heap} {L : Addr} {m : Str → Option Value} {s : Shared} {Q E : Value → Shared → Prop}
    (B : Below callerA base [] h₀) (F : Fr h₀ L s.heap m) (X : (Mine.KK w.params).In h₀) (N : News h₀ L s.heap ((754, tabObj #[]) :: news)) (T' : Top p loose mean mg mb h₀) (hC : CodeHd h₀ 758 754) (hk : cs.kind = .function) (hr : r.length < 9000)
    (ret : ∀ (v : Value) (h' : Heap) (tk' : Nat) (n' : List (Addr × Obj)), LxR w r news v n' → Fr h₀ L h' m → News h₀ L h' n' → Q v { s with heap := h', toks := tk' }) :
    wpAny (model PySem.Challenge.pw_in0151_01 w) (callerA.deeper (envX cn cs L a ccd cl)) (call (.ref 759) [.str (T r) t1]) Q E s :=
  lx_spec news r t1 hn0 p loose mean mg mb 302 7 (some []) cn cs a ccd cl [] callerA base h₀ L m s Q E B F X N T' hC hk hr (by decide) (by decide) ret
theorem told_top {w : World} (news : List (Addr × Obj)) {P : Arguments} {b : Expr} {sc : Scope} (hl : lamOf (Mine.KK w.params) 759 = some (P, b, sc)) (x ld sio sd pb fs f c' cc : Addr) (qual : Str) (pm ct : Value) (oc o2 : Obj) (vs : Array Value) (tq : Tok)
  (hs hs2 : Nat → Int) (ts ts2 tc : Nat → Tok) (r : List Nat) (pos : Nat) (k : Deed) (kt : Tok) (ms : MS) (st : St) (line : Int) (tok : List Nat) (t1 t2 t3 tst tl tt : Tok) (dn fn : Int) (push : List (Nat × Tok))
  (hoc : oc.data = .fields vs) (hvs : vs[1]? = some (.str qual tq)) (ho2 : o2.data = .cell (some (.ref x))) (hne : ∀ q ∈ news, @Ne Nat q.1 ld ∧ @Ne Nat q.1 sd ∧ @Ne Nat q.1 pb)
  (h256 : ∀ c ∈ r, c < 256)
  (hlt : @LT.lt Nat _ cc ld ∧ @LT.lt Nat _ ld x ∧ @LT.lt Nat _ x sd ∧ @LT.lt Nat _ sd sio ∧ @LT.lt Nat _ sio pb ∧ @LT.lt Nat _ pb fs ∧ @LT.lt Nat _ fs c' ∧ @LT.lt Nat _ c' f) (hLS : LS r ms pos st line tok push)
    {p : Program} {loose : List Str} {mean : ExcName → Option Value} {mg mb : Str → Option Value} {cn : Str} {cs : Scope} {a : Addr} {ccd : Value} {cl : List (Str × Addr)} {base h₀ : Heap} {L : Addr} {m : Str → Option Value} {s : Shared} {Q E : Value → Shared → Prop}
    (B : Below callerA base [] h₀) (F : Fr h₀ L s.heap m) (X : (Mine.KK w.params).In h₀) (N : News h₀ L s.heap ((x, instObj 743 ld) :: (ld, lexD hs ts sio pb fs (.ref f) tc (st.val tst) line tl (T tok) tt) :: (sio, instObj 608 sd) :: (sd, sioD hs2 ts2 (T r) pos t1 t2 t3) :: (pb, dqO dn (pushV push)) :: (fs, dqO fn []) :: (f, kla_obj "<lambda>" qual P b sc [("lexer", cc)] pm c' ct) :: (c', oc) :: (cc, o2) :: news)) (T' : Top p loose mean mg mb h₀) (XB : (Mine.KK w.params).In base) (TB : Top p loose mean mg mb base) (hk : cs.kind = .function)
    (ret : ∀ (v : Value) (h' : Heap) (tk' : Nat) (td : Told) (ms' : MS) (pos' : Nat) (st' : St) (line' : Int) (tok' : List Nat) (push' : List (Nat × Tok)) (dn' : Int) (tst' tl' tt' t3' : Tok) (own : List (Addr × Obj)),
      StepT ms k td ms' → LS r ms' pos' st' line' tok' push' → ToldIn own v td → (∀ q ∈ own, @LT.lt Nat _ f q.1) → (∀ q ∈ own, ∀ p ∈ news, @LT.lt Nat _ p.1 q.1) → Fr h₀ L h' m → News h₀ L h' ((x, instObj 743 ld) :: (ld, lexD hs ts sio pb fs (.ref f) tc (st'.val tst') line' tl' (T tok') tt') :: (sio, instObj 608 sd) :: (sd, sioD hs2 ts2 (T r) pos' t1 t2 t3') :: (pb, dqO dn' (pushV push')) :: (fs, dqO fn []) :: (f, kla_obj "<lambda>" qual P b sc [("lexer", cc)] pm c' ct) :: (c', oc) :: (cc, o2) :: (own ++ news)) → Q v { s with heap := h', toks := tk' }) :
    wpAny (model PySem.Challenge.pw_in0151_01 w) (callerA.deeper (envX cn cs L a ccd cl)) (call (.ref 766) [.ref x, .str k.name kt]) Q E s :=
  told_spec news hl x ld sio sd pb fs f c' cc qual pm ct oc o2 vs tq hs hs2 ts ts2 tc r pos k kt ms st line tok t1 t2 t3 tst tl tt dn fn push hoc hvs ho2 hne h256 hlt hLS p loose mean mg mb 302 7 (some []) cn cs a ccd cl callerA base h₀ L m s Q E B F X N T' XB TB hk (by decide) (by decide) ret
theorem mem_rowA {α : Type} {i c d e : α} {A o1 o b : List α} : ∀ p ∈ i :: c :: d :: (A ++ ((e :: o1 ++ o) ++ b)), p ∈ e :: (A ++ (o1 ++ i :: c :: d :: (o ++ b))) := by
  intro p hp
  simp only [List.mem_cons, List.mem_append] at hp ⊢
  rcases hp with e | e | e | e | ((e | e) | e) | e <;> simp [e]
theorem mem_permA {α : Type} {i c d : α} {A o b : List α} : ∀ p ∈ A ++ (i :: c :: d :: (o ++ b)), p ∈ i :: c :: d :: (A ++ (o ++ b)) := by
  intro p hp
  simp only [List.mem_cons, List.mem_append] at hp ⊢
  rcases hp with e | e | e | e | e | e <;> simp [e]
theorem off_row {I C D : Addr} {oI oC oD : Obj} {e : Addr × Obj} {A A' o1 o b : List (Addr × Obj)} (hA : A'.map (·.1) = A.map (·.1)) (off : LCg.Off3 I C D (A ++ (o ++ b))) (h9 : ∀ q ∈ o1 ++ (I, oI) :: (C, oC) :: (D, oD) :: (o ++ b), @LT.lt Nat _ q.1 e.1)
    (h1 : ∀ q ∈ o1, ∀ p ∈ (I, oI) :: (C, oC) :: (D, oD) :: (o ++ b), @LT.lt Nat _ p.1 q.1) : LCg.Off3 I C D (A' ++ ((e :: o1 ++ o) ++ b)) := by
  refine LCg.Off3.of fun p hp => ?_
  rcases List.mem_append.mp hp with hp | hp
  · have : p.1 ∈ A.map (·.1) := hA ▸ List.mem_map_of_mem hp
    obtain ⟨q, hq, e⟩ := List.mem_map.mp this
    exact e ▸ off.mem q (List.mem_append_left _ hq)
  rcases List.mem_append.mp hp with hp | hp
  · rcases List.mem_append.mp hp with hp | hp
    · rcases List.mem_cons.mp hp with rfl | hp
      · exact ⟨Nat.ne_of_gt (h9 _ (List.mem_append_right _ (.head _))), Nat.ne_of_gt (h9 _ (List.mem_append_right _ (.tail _ (.head _)))), Nat.ne_of_gt (h9 _ (List.mem_append_right _ (.tail _ (.tail _ (.head _)))))⟩
      · exact ⟨Nat.ne_of_gt (h1 _ hp _ (.head _)), Nat.ne_of_gt (h1 _ hp _ (.tail _ (.head _))), Nat.ne_of_gt (h1 _ hp _ (.tail _ (.tail _ (.head _))))⟩
    · exact off.mem _ (List.mem_append_right _ (List.mem_append_left _ hp))
  · exact off.mem _ (List.mem_append_right _ (List.mem_append_right _ hp))
noncomputable abbrev LLx (P : Arguments) (b : Expr) (sc : Scope) (x ld sio sd pb fs f c' cc : Addr) (qual : Str) (pm ct : Value) (oc o2 : Obj) (hs hs2 : Nat → Int) (ts ts2 tc : Nat → Tok) (r : List Nat) (t1 t2 : Tok) (fn : Int) (pos : Nat) (st : St) (tst : Tok) (line : Int) (tl : Tok) (tok : List Nat) (tt t3 : Tok) (dn : Int) (push : List (Nat × Tok)) (news : List (Addr × Obj)) : List (Addr × Obj) :=
  (x, instObj 743 ld) :: (ld, lexD hs ts sio pb fs (.ref f) tc (st.val tst) line tl (T tok) tt) :: (sio, instObj 608 sd) :: (sd, sioD hs2 ts2 (T r) pos t1 t2 t3) :: (pb, dqO dn (pushV push)) :: (fs, dqO fn []) :: (f, kla_obj "<lambda>" qual P b sc [("lexer", cc)] pm c' ct) :: (c', oc) :: (cc, o2) :: news
inductive RowJ (P : Arguments) (b : Expr) (sc : Scope) (x ld sio sd pb fs f c' cc : Addr) (qual : Str) (pm ct : Value) (oc o2 : Obj) (hs hs2 : Nat → Int) (ts ts2 tc : Nat → Tok) (r : List Nat) (t1 t2 : Tok) (fn : Int) (ks : List Deed) (base : List (Addr × Obj)) (i : Nat) (ys : List Value) (nw : List (Addr × Obj)) : Prop
  | mk (ms : MS) (os : List (Told × Int)) (pos : Nat) (st : St) (tst : Tok) (line : Int) (tl : Tok) (tok : List Nat) (tt t3 : Tok) (dn : Int) (push : List (Nat × Tok)) (own : List (Addr × Obj)) : Trace ⟨r, 1, [], none⟩ (ks.take i) os ms → LS r ms pos st line tok push → RowsIn own ys os → (∀ q ∈ own, @LT.lt Nat _ f q.1) → nw = LLx P b sc x ld sio sd pb fs f c' cc qual pm ct oc o2 hs hs2 ts ts2 tc r t1 t2 fn pos st tst line tl tok tt t3 dn push (own ++ base) → RowJ P b sc x ld sio sd pb fs f c' cc qual pm ct oc o2 hs hs2 ts ts2 tc r t1 t2 fn ks base i ys nw
theorem row_end {P : Arguments} {b : Expr} {sc : Scope} {x ld sio sd pb fs f c' cc : Addr} {qual : Str} {pm ct : Value} {oc o2 : Obj} {hs hs2 : Nat → Int} {ts ts2 tc : Nat → Tok} {r : List Nat} {t1 t2 : Tok} {fn : Int} {ks : List Deed} {base own own1 rest : List (Addr × Obj)} {i : Nat} {ys : List Value} {ms ms' : MS} {os : List (Told × Int)} {pos pos' : Nat} {st st' : St} {tst tst' : Tok} {line line' : Int} {tl tl' : Tok} {tok tok' : List Nat} {tt tt' t3 t3' : Tok} {dn dn' : Int} {push push' : List (Nat × Tok)}
    {h₀ h : Heap} {L : Addr} {m : Str → Option Value} {s₁ : Shared} {I C D D9 : Addr} {oI oC oD : Obj} {S : List (Addr × Obj) → Prop} {v : Value} {td : Told} {k : Deed} {tk : Nat}
    (hTr : Trace ⟨r, 1, [], none⟩ (ks.take i) os ms) (hR : RowsIn own ys os) (hown : ∀ q ∈ own, @LT.lt Nat _ f q.1) (off : LCg.Off3 I C D (LLx P b sc x ld sio sd pb fs f c' cc qual pm ct oc o2 hs hs2 ts ts2 tc r t1 t2 fn pos st tst line tl tok tt t3 dn push (own ++ base)))
    (hk : ks[i]? = some k) (hst : StepT ms k td ms') (hLS : LS r ms' pos' st' line' tok' push') (hT : ToldIn own1 v td) (ho1 : ∀ q ∈ own1, @LT.lt Nat _ f q.1) (ho2 : ∀ q ∈ own1, ∀ p ∈ (I, oI) :: (C, oC) :: (D, oD) :: (own ++ base), @LT.lt Nat _ p.1 q.1)
    (hrest : rest = own1 ++ (I, oI) :: (C, oC) :: (D, oD) :: (own ++ base)) (hD9 : @LT.lt Nat _ f D9) (hD9r : ∀ q ∈ rest, @LT.lt Nat _ q.1 D9) (hS : ∀ nw', (∀ p ∈ base, p ∈ nw') → S nw')
    (F : Fr h₀ L h m) (N : News h₀ L h ((D9, tupO' [v, .int line' tl']) :: LLx P b sc x ld sio sd pb fs f c' cc qual pm ct oc o2 hs hs2 ts ts2 tc r t1 t2 fn pos' st' tst' line' tl' tok' tt' t3' dn' push' rest)) :
    LCg.CompEnd h₀ L m s₁ I oI C oC D oD S (fun y nw' => RowJ P b sc x ld sio sd pb fs f c' cc qual pm ct oc o2 hs hs2 ts ts2 tc r t1 t2 fn ks base (i + 1) (ys ++ [y]) nw') (.ref D9) { s₁ with heap := h, toks := tk } := by
  subst hrest
  refine ⟨h, tk, LLx P b sc x ld sio sd pb fs f c' cc qual pm ct oc o2 hs hs2 ts ts2 tc r t1 t2 fn pos' st' tst' line' tl' tok' tt' t3' dn' push' (((D9, tupO' [v, .int line' tl']) :: own1 ++ own) ++ base), rfl, F,
    News.sub N (mem_rowA (A := LLx P b sc x ld sio sd pb fs f c' cc qual pm ct oc o2 hs hs2 ts ts2 tc r t1 t2 fn pos' st' tst' line' tl' tok' tt' t3' dn' push' [])),
    off_row (A := LLx P b sc x ld sio sd pb fs f c' cc qual pm ct oc o2 hs hs2 ts ts2 tc r t1 t2 fn pos st tst line tl tok tt t3 dn push []) (A' := LLx P b sc x ld sio sd pb fs f c' cc qual pm ct oc o2 hs hs2 ts ts2 tc r t1 t2 fn pos' st' tst' line' tl' tok' tt' t3' dn' push' []) rfl off hD9r ho2, ?_, ?_⟩
  · exact hS _ fun p hp => List.mem_append_right (as := LLx P b sc x ld sio sd pb fs f c' cc qual pm ct oc o2 hs hs2 ts ts2 tc r t1 t2 fn pos' st' tst' line' tl' tok' tt' t3' dn' push' []) (bs := ((D9, tupO' [v, .int line' tl']) :: own1 ++ own) ++ base) (List.mem_append_right _ hp)
  · refine ⟨ms', os ++ [(td, ms'.line)], pos', st', tst', line', tl', tok', tt', t3', dn', push', (D9, tupO' [v, .int line' tl']) :: own1 ++ own, ?_, hLS, ?_, ?_, rfl⟩
    · rw [List.take_add_one, hk]
      exact hTr.snoc hst
    · have hl := hLS.hl
      rw [← hl]
      exact .snoc (a := D9) (t := tl') (hR.mono fun p hp => List.mem_append_right _ hp) (List.mem_append_left _ (.head _)) (hT.mono fun p hp => List.mem_append_left _ (.tail _ hp))
    · intro q hq
      rcases List.mem_append.mp hq with hq | hq
      · rcases List.mem_cons.mp hq with e | e
        · rw [e]; exact hD9
        · exact ho1 _ e
      · exact hown _ hq
theorem told_perm {P : Arguments} {b : Expr} {sc : Scope} {x ld sio sd pb fs f c' cc : Addr} {qual : Str} {pm ct : Value} {oc o2 : Obj} {hs hs2 : Nat → Int} {ts ts2 tc : Nat → Tok} {r : List Nat} {t1 t2 : Tok} {fn : Int} {pos : Nat} {st : St} {tst : Tok} {line : Int} {tl : Tok} {tok : List Nat} {tt t3 : Tok} {dn : Int} {push : List (Nat × Tok)} {own base : List (Addr × Obj)} {h₀ h : Heap} {L I C D : Addr} {oI oC oD : Obj}
    (N : News h₀ L h ((I, oI) :: (C, oC) :: (D, oD) :: LLx P b sc x ld sio sd pb fs f c' cc qual pm ct oc o2 hs hs2 ts ts2 tc r t1 t2 fn pos st tst line tl tok tt t3 dn push (own ++ base))) : News h₀ L h (LLx P b sc x ld sio sd pb fs f c' cc qual pm ct oc o2 hs hs2 ts ts2 tc r t1 t2 fn pos st tst line tl tok tt t3 dn push ((I, oI) :: (C, oC) :: (D, oD) :: (own ++ base))) :=
  News.sub N (mem_permA (A := LLx P b sc x ld sio sd pb fs f c' cc qual pm ct oc o2 hs hs2 ts ts2 tc r t1 t2 fn pos st tst line tl tok tt t3 dn push []))
theorem told_ne {P : Arguments} {b : Expr} {sc : Scope} {x ld sio sd pb fs f c' cc : Addr} {qual : Str} {pm ct : Value} {oc o2 : Obj} {hs hs2 : Nat → Int} {ts ts2 tc : Nat → Tok} {r : List Nat} {t1 t2 : Tok} {fn : Int} {pos : Nat} {st : St} {tst : Tok} {line : Int} {tl : Tok} {tok : List Nat} {tt t3 : Tok} {dn : Int} {push : List (Nat × Tok)} {own base : List (Addr × Obj)} {I C D : Addr} {oI oC oD : Obj}
    (off : LCg.Off3 I C D (LLx P b sc x ld sio sd pb fs f c' cc qual pm ct oc o2 hs hs2 ts ts2 tc r t1 t2 fn pos st tst line tl tok tt t3 dn push (own ++ base))) (hown : ∀ q ∈ own, @LT.lt Nat _ f q.1) (hb : ∀ q ∈ base, @LT.lt Nat _ q.1 cc)
    (hlt : @LT.lt Nat _ cc ld ∧ @LT.lt Nat _ ld x ∧ @LT.lt Nat _ x sd ∧ @LT.lt Nat _ sd sio ∧ @LT.lt Nat _ sio pb ∧ @LT.lt Nat _ pb fs ∧ @LT.lt Nat _ fs c' ∧ @LT.lt Nat _ c' f) :
    ∀ q ∈ (I, oI) :: (C, oC) :: (D, oD) :: (own ++ base), @Ne Nat q.1 ld ∧ @Ne Nat q.1 sd ∧ @Ne Nat q.1 pb := by
  have a := off.mem _ (.tail _ (.head _))
  have b := off.mem _ (.tail _ (.tail _ (.tail _ (.head _))))
  have c := off.mem _ (.tail _ (.tail _ (.tail _ (.tail _ (.head _)))))
  have z1 : @LT.lt Nat _ pb f := Nat.lt_trans hlt.2.2.2.2.2.1 (Nat.lt_trans hlt.2.2.2.2.2.2.1 hlt.2.2.2.2.2.2.2)
  have z2 : @LT.lt Nat _ sd pb := Nat.lt_trans hlt.2.2.2.1 hlt.2.2.2.2.1
  have z3 : @LT.lt Nat _ ld sd := Nat.lt_trans hlt.2.1 hlt.2.2.1
  have z4 : @LT.lt Nat _ cc sd := Nat.lt_trans hlt.1 z3
  intro q hq
  rcases List.mem_cons.mp hq with e | hq
  · rw [e]; exact ⟨Ne.symm a.1, Ne.symm b.1, Ne.symm c.1⟩
  rcases List.mem_cons.mp hq with e | hq
  · rw [e]; exact ⟨Ne.symm a.2.1, Ne.symm b.2.1, Ne.symm c.2.1⟩
  rcases List.mem_cons.mp hq with e | hq
  · rw [e]; exact ⟨Ne.symm a.2.2, Ne.symm b.2.2, Ne.symm c.2.2⟩
  rcases List.mem_append.mp hq with hq | hq
  · have := hown q hq
    exact ⟨Nat.ne_of_gt (Nat.lt_trans z3 (Nat.lt_trans z2 (Nat.lt_trans z1 this))), Nat.ne_of_gt (Nat.lt_trans z2 (Nat.lt_trans z1 this)), Nat.ne_of_gt (Nat.lt_trans z1 this)⟩
  · have := hb q hq
    exact ⟨Nat.ne_of_lt (Nat.lt_trans this hlt.1), Nat.ne_of_lt (Nat.lt_trans this z4), Nat.ne_of_lt (Nat.lt_trans this (Nat.lt_trans z4 z2))⟩
theorem rest_gen {P : Arguments} {b : Expr} {sc : Scope} {x ld sio sd pb fs f c' cc : Addr} {qual : Str} {pm ct : Value} {oc o2 : Obj} {hs hs2 : Nat → Int} {ts ts2 tc : Nat → Tok} {r : List Nat} {t1 t2 : Tok} {fn : Int} {pos : Nat} {st : St} {tst : Tok} {line : Int} {tl : Tok} {tok : List Nat} {tt t3 : Tok} {dn : Int} {push : List (Nat × Tok)} {own base : List (Addr × Obj)} {h₀ h : Heap} {L I C D : Addr} {oI oC oD : Obj}
    (N : News h₀ L h ((I, oI) :: (C, oC) :: (D, oD) :: LLx P b sc x ld sio sd pb fs f c' cc qual pm ct oc o2 hs hs2 ts ts2 tc r t1 t2 fn pos st tst line tl tok tt t3 dn push (own ++ base))) {Goal : Prop} (kk : ∀ rest0, rest0 = own ++ base → (∀ p ∈ base, p ∈ rest0) → News h₀ L h ((I, oI) :: (C, oC) :: (D, oD) :: LLx P b sc x ld sio sd pb fs f c' cc qual pm ct oc o2 hs hs2 ts ts2 tc r t1 t2 fn pos st tst line tl tok tt t3 dn push rest0) → Goal) : Goal :=
  kk _ rfl (fun p hp => List.mem_append_right _ hp) N
theorem rest_gen2 {P : Arguments} {b : Expr} {sc : Scope} {x ld sio sd pb fs f c' cc : Addr} {qual : Str} {pm ct : Value} {oc o2 : Obj} {hs hs2 : Nat → Int} {ts ts2 tc : Nat → Tok} {r : List Nat} {t1 t2 : Tok} {fn : Int} {pos : Nat} {st : St} {tst : Tok} {line : Int} {tl : Tok} {tok : List Nat} {tt t3 : Tok} {dn : Int} {push : List (Nat × Tok)} {own base : List (Addr × Obj)} {own1 : List (Addr × Obj)} {h₀ h : Heap} {L I C D : Addr} {oI oC oD : Obj}
    (N : News h₀ L h (LLx P b sc x ld sio sd pb fs f c' cc qual pm ct oc o2 hs hs2 ts ts2 tc r t1 t2 fn pos st tst line tl tok tt t3 dn push (own1 ++ (I, oI) :: (C, oC) :: (D, oD) :: (own ++ base)))) {Goal : Prop} (kk : ∀ rest, rest = own1 ++ (I, oI) :: (C, oC) :: (D, oD) :: (own ++ base) → (I, oI) ∈ rest → (C, oC) ∈ rest → (D, oD) ∈ rest → (∀ p ∈ base, p ∈ rest) → News h₀ L h (LLx P b sc x ld sio sd pb fs f c' cc qual pm ct oc o2 hs hs2 ts ts2 tc r t1 t2 fn pos st tst line tl tok tt t3 dn push rest) → Goal) : Goal :=
  kk _ rfl (by simp) (by simp) (by simp) (fun p hp => by simp [hp]) N
theorem ld_cell {M : Model} {A : Around} {E : Value → Shared → Prop} {s : Shared} {Q : Value → Shared → Prop} {h₀ : Heap} {L : Addr} {news : List (Addr × Obj)} {scope : Scope} {cl : List (Str × Addr)} {C c : Addr} {o : Obj} {v : Value} {env : Env} {x : Str} {pos : Pos}
    (N : News h₀ L s.heap news) (hc : cl.lookup x = some c) (hm : (c, o) ∈ news) (hd : o.data = .cell (some v)) (h : Q v s) (hk : (compEnvC scope cl C env).scope.kind = .function) (hx : (compEnvC scope cl C env).kindOf x = some .cell) (hb : (x == ("__debug__" : Str)) = false) :
    wpAny M A (eval (.Name x pos) (compEnvC scope cl C env)) Q E s := wpAny_Name (wpAny_loadName_cell hk hx hc ⟨o, N.get hm, hd⟩ h) hb
theorem rest_gen3 {P : Arguments} {b : Expr} {sc : Scope} {x ld sio sd pb fs f c' cc : Addr} {qual : Str} {pm ct : Value} {oc o2 : Obj} {hs hs2 : Nat → Int} {ts ts2 tc : Nat → Tok} {r : List Nat} {t1 t2 : Tok} {fn : Int} {pos : Nat} {st : St} {tst : Tok} {line : Int} {tl : Tok} {tok : List Nat} {tt t3 : Tok} {dn : Int} {push : List (Nat × Tok)} {own base : List (Addr × Obj)} {nw : List (Addr × Obj)} (N : nw = LLx P b sc x ld sio sd pb fs f c' cc qual pm ct oc o2 hs hs2 ts ts2 tc r t1 t2 fn pos st tst line tl tok tt t3 dn push (own ++ base)) {Goal : Prop} (kk : ∀ rest, rest = own ++ base → (∀ p ∈ base, p ∈ rest) → nw = LLx P b sc x ld sio sd pb fs f c' cc qual pm ct oc o2 hs hs2 ts ts2 tc r t1 t2 fn pos st tst line tl tok tt t3 dn push rest → Goal) : Goal :=
  kk _ rfl (fun p hp => List.mem_append_right _ hp) N
theorem name_cell {M : Model} {A : Around} {E : Value → Shared → Prop} {s : Shared} {Q : Value → Shared → Prop} {h₀ : Heap} {L a c : Addr} {news : List (Addr × Obj)} {cn : Str} {cs : Scope} {ccd : Value} {cl : List (Str × Addr)} {o : Obj} {v : Value} {x : Str} {pos : Pos}
    (N : News h₀ L s.heap news) (hc : cl.lookup x = some c) (hm : (c, o) ∈ news) (hd : o.data = .cell (some v)) (h : Q v s) (hk : cs.kind = .function) (hx : (envX cn cs L a ccd cl).kindOf x = some .cell) (hb : (x == ("__debug__" : Str)) = false) :
    wpAny M A (eval (.Name x pos) (envX cn cs L a ccd cl)) Q E s := nameX_C N hc hm hd h hk hx hb
theorem ra_top {w : World} {led : List (Addr × Obj)} {g : Obj → List (Addr × Obj)} {sio sd : Addr} {hs : Nat → Int} {ts : Nat → Tok} {r : List Nat} {pos : Nat} {t1 t2 t3 : Tok}
    {p : Program} {loose : List Str} {mean : ExcName → Option Value} {mg mb : Str → Option Value} {cn : Str} {cs : Scope} {a : Addr} {ccd : Value} {cl : List (Str × Addr)} {base h₀ : Heap} {L : Addr} {m : Str → Option Value} {s : Shared} {Q E : Value → Shared → Prop}
    (B : Below callerA base [] h₀) (F : Fr h₀ L s.heap m) (X : (Mine.KK w.params).In h₀) (N : News h₀ L s.heap led) (T' : Top p loose mean mg mb h₀) (hk : cs.kind = .function) (hm : (sio, instObj 608 sd) ∈ led) (U : UpdF sd (sioD hs ts (T r) pos t1 t2 t3) led g) (hne : @Ne Nat sio sd) (hp : pos ≤ r.length ∧ r.length < 10000)
    (ret : ∀ h' tk' t p' t', Fr h₀ L h' m → News h₀ L h' (g (sioD hs ts (T r) p' t1 t2 t')) → Q (.str (T (r.drop pos)) t) { s with heap := h', toks := tk' }) :
    wpAny (model PySem.Challenge.pw_in0151_01 w) (callerA.deeper (envX cn cs L a ccd cl)) (call (.ref 554) [.ref sio]) Q E s := by
  obtain ⟨pr, po, h1, h2, h3, h4⟩ := U.split
  refine Con.top (ra_spec (pr ++ po) sio sd hs ts r pos t1 t2 t3 (fun q hq => ?_) hne) B F X (News.sub N fun q hq => ?_) T' hk hp (by decide) (by decide) ?_ (fun _ _ h => h)
  · rcases List.mem_append.mp hq with h | h
    · exact h3 q h
    · exact h4 q h
  · simp only [List.mem_cons, List.mem_append] at hq
    rcases hq with e | e | e | e
    · rw [e]; exact hm
    · rw [e, h1]; exact List.mem_append_right _ (.head _)
    · rw [h1]; exact List.mem_append_left _ e
    · rw [h1]; exact List.mem_append_right _ (.tail _ e)
  · rintro v h' tk' n' ⟨t, p', t', rfl, rfl⟩ F' N'
    refine ret h' tk' t p' t' F' (News.sub N' fun q hq => ?_)
    rw [h2] at hq
    simp only [List.mem_append, List.mem_cons] at hq ⊢
    rcases hq with h | h | h
    · simp [h]
    · simp [h]
    · simp [h]
theorem rest_ne {own base rest : List (Addr × Obj)} {cc ld x sd sio pb fs c' f : Addr} (hrest : rest = own ++ base) (hown : ∀ q ∈ own, @LT.lt Nat _ f q.1) (hb : ∀ q ∈ base, @LT.lt Nat _ q.1 cc)
    (hlt : @LT.lt Nat _ cc ld ∧ @LT.lt Nat _ ld x ∧ @LT.lt Nat _ x sd ∧ @LT.lt Nat _ sd sio ∧ @LT.lt Nat _ sio pb ∧ @LT.lt Nat _ pb fs ∧ @LT.lt Nat _ fs c' ∧ @LT.lt Nat _ c' f) : ∀ q ∈ rest, q.1 ≠ sd := by
  have z1 : @LT.lt Nat _ pb f := Nat.lt_trans hlt.2.2.2.2.2.1 (Nat.lt_trans hlt.2.2.2.2.2.2.1 hlt.2.2.2.2.2.2.2)
  have z2 : @LT.lt Nat _ sd pb := Nat.lt_trans hlt.2.2.2.1 hlt.2.2.2.2.1
  intro q hq
  rw [hrest] at hq
  rcases List.mem_append.mp hq with hq | hq
  · exact Nat.ne_of_gt (Nat.lt_trans z2 (Nat.lt_trans z1 (hown q hq)))
  · exact Nat.ne_of_lt (Nat.lt_trans (hb q hq) (Nat.lt_trans hlt.1 (Nat.lt_trans hlt.2.1 hlt.2.2.1)))
end Mine

end
section
open Mine
namespace Mine
open PySem.SeqAt
section
variable {A : Around} {s : Shared}
theorem eqAt_bytes (l : Array UInt8) (t u : Tok) : EqAt A s (.bytes l t) (.bytes l u) true := fun prog w E Q h => by
  unfold eqBool
  refine wpAny_holding ?_
  refine wpAny_ite_split (fun _ => ?_) (fun _ => ?_)
  · exact wpAny_bind (wpAny_rule (wpAny_pure h))
  · have e : (l.toList == l.toList) = true := beq_self_eq_true _
    exact wpAny_bind (eq_bytes (prog := prog) (w := w) (A := A) (E := E) (s := s) (by rw [e]; exact wpAny_truthy_bool h))
theorem eqAt_str (x : Str) (t u : Tok) : EqAt A s (.str x t) (.str x u) true := by
  have := EqAt.str_str (A := A) (s := s) x t x u
  rwa [beq_self_eq_true] at this
theorem eqAt_int (x : Int) (t u : Tok) : EqAt A s (.int x t) (.int x u) true := by
  have := EqAt.int_int (A := A) (s := s) x t x u
  rwa [beq_self_eq_true] at this
theorem rc_tup2 {d d' : Addr} {a b a' b' : Value} {n n' : Nat} {dd dd' : Option Addr} {sl sl' : Array (Option Value)} (h : s.heap.get? d = some ⟨.type "tuple", dd, .seq #[a, b] n, sl⟩) (h' : s.heap.get? d' = some ⟨.type "tuple", dd', .seq #[a', b'] n', sl'⟩) (hu : A.units + 4 < cLine)
    (e1 : EqAt A.in1 s a a' true) (e2 : EqAt A.in1 s b b' true) : RcAt A s (.ref d) (.ref d') true := by
  have := RcAt.tuples (A := A) (s := s) (l := d) (b := d') (items := #[a, b]) (items2 := #[a', b']) (e := fun _ => true) ⟨_, h, rfl, _, rfl⟩ ⟨_, h', rfl, _, rfl⟩ (by omega) (fun j h1 h2 => by
    match j, h1, h2 with
    | 0, _, _ => exact e1
    | 1, _, _ => exact e2
    | j + 2, h1, _ => exact absurd h1 (by simp))
  exact this
theorem eqAt_tup2 {d d' : Addr} {a b a' b' : Value} {n n' : Nat} {dd dd' : Option Addr} {sl sl' : Array (Option Value)} (h : s.heap.get? d = some ⟨.type "tuple", dd, .seq #[a, b] n, sl⟩) (h' : s.heap.get? d' = some ⟨.type "tuple", dd', .seq #[a', b'] n', sl'⟩) (hu : A.units + 4 < cLine)
    (e1 : EqAt A.in1 s a a' true) (e2 : EqAt A.in1 s b b' true) : EqAt A s (.ref d) (.ref d') true := by
  by_cases e : d = d'
  · rw [e]; exact EqAt.same _
  · exact EqAt.of_refs e (rc_tup2 h h' hu e1 e2)
theorem told_eq {h₀ : Heap} {L : Addr} {n1 n2 : List (Addr × Obj)} (N1 : News h₀ L s.heap n1) (N2 : News h₀ L s.heap n2) {v v' : Value} {td : Told} (h : ToldIn n1 v td) (h' : ToldIn n2 v' td) (hu : A.units + 8 < cLine) : EqAt A s v v' true := by
  cases h with
  | none => cases h'; exact EqAt.same _
  | str x t => cases h'; exact eqAt_str _ _ _
  | int i t => cases h'; exact eqAt_int _ _ _
  | bytes l t _ => cases h'; exact eqAt_bytes _ _ _
  | refused d m tr tm hm =>
    cases h' with
    | refused d' _ tr' tm' hm' => exact eqAt_tup2 (N1 _ hm).1 (N2 _ hm').1 (by omega) (eqAt_str _ _ _) (eqAt_str _ _ _)
theorem rows_len {n : List (Addr × Obj)} {vs : List Value} {os : List (Told × Int)} (h : RowsIn n vs os) : vs.length = os.length := by
  induction h with
  | nil => rfl
  | snoc _ _ _ ih => simp [ih]
theorem rows_get {n : List (Addr × Obj)} {vs : List Value} {os : List (Told × Int)} (h : RowsIn n vs os) : ∀ (i : Nat) (v : Value), vs[i]? = some v → ∃ (a : Addr) (tv : Value) (td : Told) (k : Int) (t : Tok), v = .ref a ∧ os[i]? = some (td, k) ∧ (a, tupO' [tv, .int k t]) ∈ n ∧ ToldIn n tv td := by
  induction h with
  | nil => intro i v e; simp at e
  | snoc hr ha ht ih =>
    rename_i vs os a tv td k t
    intro i v e
    have hl := rows_len hr
    by_cases hi : i < vs.length
    · rw [List.getElem?_append_left hi] at e
      obtain ⟨a', tv', td', k', t', h1, h2, h3, h4⟩ := ih i v e
      exact ⟨a', tv', td', k', t', h1, by rw [List.getElem?_append_left (by omega)]; exact h2, h3, h4⟩
    · have hi' : i = vs.length := by
        have : i < (vs ++ [Value.ref a]).length := (List.getElem?_eq_some_iff.mp e).1
        simp at this
        omega
      subst hi'
      have e2 : v = .ref a := by simpa using e.symm
      exact ⟨a, tv, td, k, t, e2, by rw [hl]; simp, ha, ht⟩
theorem rows_eq {h₀ : Heap} {L : Addr} {n1 n2 : List (Addr × Obj)} (N1 : News h₀ L s.heap n1) (N2 : News h₀ L s.heap n2) {l l' : Addr} {vs vs' : List Value} {os : List (Told × Int)} (hl : s.heap.IsList l vs.toArray) (hl' : s.heap.IsList l' vs'.toArray)
    (h : RowsIn n1 vs os) (h' : RowsIn n2 vs' os) (hu : A.units + 16 < cLine) : EqAt A s (.ref l) (.ref l') true := by
  by_cases e : l = l'
  · rw [e]; exact EqAt.same _
  refine EqAt.of_refs e ?_
  have hlen : vs.length = vs'.length := (rows_len h).trans (rows_len h').symm
  have := RcAt.lists (A := A) (s := s) (e := fun _ => true) hl hl' (by simpa using hlen) (by omega) (fun j h1 h2 => by
    have h1' : j < vs.length := by simpa using h1
    have h2' : j < vs'.length := by simpa using h2
    obtain ⟨a, tv, td, k, t, e1, o1, m1, d1⟩ := rows_get h j vs[j] (List.getElem?_eq_getElem h1')
    obtain ⟨a', tv', td', k', t', e1', o1', m1', d1'⟩ := rows_get h' j vs'[j] (List.getElem?_eq_getElem h2')
    rw [o1] at o1'
    cases o1'
    have g1 : vs.toArray[j] = .ref a := by simpa using e1
    have g2 : vs'.toArray[j] = .ref a' := by simpa using e1'
    rw [g1, g2]
    exact eqAt_tup2 (N1 _ m1).1 (N2 _ m1').1 (by show A.units + 1 + 4 < cLine; omega) (told_eq N1 N2 d1 d1' (by show A.units + 1 + 1 + 8 < cLine; omega)) (eqAt_int _ _ _))
  have e3 : ((List.range vs.toArray.size).all fun _ => true) = true := List.all_eq_true.mpr fun _ _ => rfl
  rwa [e3] at this
theorem news_dup {h₀ h : Heap} {L : Addr} {led : List (Addr × Obj)} {p : Addr × Obj} (N : News h₀ L h led) (hm : p ∈ led) : News h₀ L h (p :: led) := News.sub N (List.forall_mem_cons.mpr ⟨hm, fun _ h => h⟩)
theorem eq_last {prog : Program} {w : World} {E : Value → Shared → Prop} {Q : Value → Shared → Prop} {h₀ : Heap} {L : Addr} {n1 n2 : List (Addr × Obj)} (N1 : News h₀ L s.heap n1) (N2 : News h₀ L s.heap n2) {d d' l l' : Addr} {vs vs' : List Value} {os : List (Told × Int)} {x x' : Str} {t t' : Tok} {k k' : Nat}
    (m1 : (d, tupO' [.ref l, .str x t]) ∈ n1) (m2 : (d', tupO' [.ref l', .str x' t']) ∈ n2) (hx : x = x') (m3 : (l, listOf vs.toArray k) ∈ n1) (m4 : (l', listOf vs'.toArray k') ∈ n2) (h : RowsIn n1 vs os) (h' : RowsIn n2 vs' os) (hu : A.units + 32 < cLine)
    (hQ : Q (.bool true) s) : wpAny (model prog w) A (compareOp .Eq (.ref d) (.ref d')) Q E s := by
  subst hx
  exact rc_tup2 (N1 _ m1).1 (N2 _ m2).1 (by omega) (rows_eq N1 N2 ⟨_, (N1 _ m3).1, rfl, _, rfl⟩ ⟨_, (N2 _ m4).1, rfl, _, rfl⟩ h h' (by show A.units + 1 + 16 < cLine; omega)) (eqAt_str _ _ _) prog w E Q hQ
end
end Mine

end
section
open Mine
theorem Mine.pre_La : PySem.Challenge.rw_in0151_01 = PySem.Challenge.rw_in0151_01 ∧ Mine.KK = Mine.KK := by
  k_with_none
  k_fill
  k_with "om" => (first | with_reducible assumption | exact Nat.le_of_ble_eq_true rfl | with_reducible exact Nat.ne_of_lt (by assumption) | with_reducible exact Nat.ne_of_gt (by assumption) | with_reducible exact Nat.le_of_lt (by assumption) | with_reducible exact Nat.le_refl _ | with_reducible exact Nat.le_add_right _ _ | with_reducible exact Nat.lt_add_one _ | with_reducible exact Nat.succ_le_of_lt (by assumption) | with_reducible exact Nat.lt_of_succ_le (by assumption) | with_reducible exact Int.ofNat_lt.mpr (by assumption) | with_reducible exact Int.natCast_nonneg _ | with_reducible exact Mine.o_n (by assumption) | with_reducible exact Mine.o_l (by assumption) | with_reducible exact Mine.o_i (by assumption) (by assumption) | with_reducible exact Mine.o_k (by assumption) (by assumption) | with_reducible exact Mine.o_m (by assumption) (by assumption) | with_reducible exact Mine.o_w (by assumption) | with_reducible exact Mine.o_v (by assumption) (by assumption) (by assumption) | with_reducible exact Mine.o_s (by assumption) | with_reducible exact Mine.o_t (by assumption) | with_reducible exact Mine.o_17 (by assumption) | with_reducible exact Mine.o_y (by assumption) (by assumption) | with_reducible exact Mine.o_z (by assumption) (by assumption) | with_reducible exact Mine.o_y2 (by assumption) (by assumption) | exact Mine.o_a (a := 10000) (by with_reducible assumption) rfl | exact Mine.o_a (a := 9000) (by with_reducible assumption) rfl | exact Mine.o_a (a := 256) (by with_reducible assumption) rfl | exact Mine.o_a (a := 300) (by with_reducible assumption) rfl | exact Mine.o_a (by with_reducible assumption) rfl | exact Mine.o_b (a := 10000) (by with_reducible assumption) rfl | exact Mine.o_b (a := 9000) (by with_reducible assumption) rfl | exact Mine.o_b (a := 256) (by with_reducible assumption) rfl | exact Mine.o_b (by with_reducible assumption) rfl | exact Mine.o_c (by with_reducible assumption) rfl | exact Mine.o_d (by with_reducible assumption) rfl | exact Mine.o_e (by with_reducible assumption) rfl | exact Mine.o_f (by with_reducible assumption) rfl | exact Mine.o_g (by with_reducible assumption) rfl | exact Mine.o_h (by with_reducible assumption) rfl | exact Mine.o_1 (by with_reducible assumption) rfl | exact Mine.o_2 (by with_reducible assumption) rfl | exact Mine.o_3 (by with_reducible assumption) rfl | exact Mine.o_4 (by with_reducible assumption) rfl | with_reducible exact Mine.o_5 (by assumption) | exact Mine.o_6 (by with_reducible assumption) rfl | exact Mine.o_7 (by with_reducible assumption) rfl | exact Mine.o_12 (by with_reducible assumption) (by with_reducible assumption) rfl | exact Mine.o_13 (by with_reducible assumption) (by with_reducible assumption) rfl | exact Mine.o_14 (by with_reducible assumption) (by with_reducible assumption) rfl | exact Mine.o_15 (by with_reducible assumption) (by with_reducible assumption) rfl | with_reducible exact Mine.o_18 (by assumption) (by assumption) | with_reducible exact Mine.o_11 (by assumption) (by assumption) | with_reducible exact Mine.o_x (by assumption) (by assumption) | with_reducible exact Nat.ne_of_lt (Nat.lt_trans (by assumption) (by assumption)) | with_reducible exact Nat.ne_of_gt (Nat.lt_trans (by assumption) (by assumption)) | with_reducible exact Mine.o_r (by assumption) (by assumption) | with_reducible exact Mine.o_o (by assumption) (by assumption) | with_reducible exact Mine.o_p (by assumption) (by assumption) | with_reducible exact Mine.o_q (by assumption) (by assumption) | with_reducible exact Mine.o_u (by assumption) (by assumption) | with_reducible exact Mine.o_j (by assumption) (by assumption) | with_reducible exact Mine.o_20 (by assumption) | with_reducible exact Mine.o_21 (by assumption) | with_reducible exact Mine.o_22 (by assumption) | with_reducible exact Mine.o_23 (by assumption) | with_reducible exact Mine.o_24 (by assumption) | with_reducible exact Mine.o_28 (by assumption) | with_reducible exact Mine.o_29 (by assumption) | with_reducible exact Mine.o_31 (by assumption) | with_reducible exact Mine.o_25 (by assumption) (by assumption) (by assumption) | with_reducible exact Mine.o_26 (by assumption) (by assumption) (by assumption) | with_reducible exact Mine.o_27 (by assumption) (by assumption) | with_reducible exact Mine.o_30 (by assumption) (by assumption) | exact Mine.o_19 (by with_reducible assumption) (by with_reducible assumption) rfl | fail "om")
  k_with "my enter" => (refine' code_def ?k1_z ?k2_z ?k3_z ?k4_z ?k5_z ?kA_z ?kF_z ?kK_z ?k6_z ?k7_z ?k8_z ?k9_z ?kB_z ?_ ?c2_z ?c3_z ?c4_z ?c5_z; (case kA_z => exact rfl); (case kF_z => exact rfl); (case kK_z => first | exact rfl | assumption); (case k1_z => k_asm); (case k2_z => k_asm); (case k3_z => k_asm); (case k4_z => k_asm); (case k5_z => k_asm); (case k6_z => k_is); (case k7_z => k_is); (case k8_z => ktr_room); (case k9_z => first | exact BindsTo.of_eq rfl | exact binds_K (by k_in) rfl (by k_is) rfl rfl rfl); (case c5_z => decide); (case kB_z => exact locs rfl); (case c2_z => exact rfl); (case c3_z => exact rfl); (case c4_z => exact rfl); k_whole; intro G LL h1 FG F1 N1 B1 X1 T1; (try dsimp only); (try k_lift B1); (try k_fold))
  k_with "call builtin:str.find" => (refine Mine.find4 (by first | rfl | omega) ?_)
  k_with "truthy str" => ((with_reducible show wpAny _ _ (PySem.truthy (Value.str (Str.mk (List.toArray _)) _)) _ _ _); (refine Mine.truthy_T (by first | assumption | omega) ?_); intro _)
  k_with "truthy str" => ((with_reducible show wpAny _ _ (PySem.truthy (Value.str (Str.mk (List.toArray [_])) _)) _ _ _); (refine Mine.truthy_one ?_); intro _)
  k_with "compareOp In str str" => ((with_reducible show wpAny _ _ (compareOp CmpOp.In (Value.str (Str.mk (List.toArray [_])) _) _) _ _ _); first | refine Mine.in_ws ?_ | refine Mine.in_cm ?_ | refine Mine.in_es ?_ | refine Mine.in_dt ?_ | refine Mine.in_wc ?_ | refine Mine.in_none ?_ | refine Mine.in_qs ?_)
  k_with "inplaceOp Add str str" => ((with_reducible show wpAny _ _ (inplaceOp _ (Value.str (Str.mk (List.toArray _)) _) (Value.str (Str.mk (List.toArray _)) _)) _ _ _); (refine Mine.iadd_T (by first | omega | (simp only [List.length_append, List.length_cons, List.length_nil] at *; omega)) ?_); intro _ _)
  k_with "compareOp Eq str str" => ((with_reducible show wpAny _ _ (compareOp CmpOp.Eq (Value.str (Str.mk (List.toArray [_])) _) _) _ _ _); ((with_reducible first | refine Mine.eq_nl ?_ ?_ | refine Mine.eq_sp ?_ ?_ | refine Mine.eq_lc ?_ ?_ | refine Mine.eq_hs ?_ ?_ | refine Mine.eq_dq ?_ ?_ | refine Mine.eq_bs ?_ ?_ | refine Mine.eq_dd ?_ ?_) <;> (intro hspz; first | (exfalso; revert hspz; decide) | (subst hspz) | skip)))
  k_with "compareOp NotEq str str" => ((with_reducible show wpAny _ _ (compareOp CmpOp.NotEq (Value.str (Str.mk (List.toArray [_])) _) _) _ _ _); ((with_reducible refine Mine.ne_dd ?_ ?_) <;> (intro hspz; first | (exfalso; revert hspz; decide) | (subst hspz) | skip)))
  k_with "exec If" => refine wpAny_If ?_
  k_with "call type:ValueError" => (k_dflt (refine Mine.raise_VE ?_); intro h'z ez hmxz)
  k_with "leaving ref" => (k_dflt (refine' leave_raiseS ?k1_z (Heap.MadeExc.of ?k2_z) ?k3_z ?k4_z ?_; (case k1_z => assumption); (case k2_z => assumption); (case k3_z => assumption); (case k4_z => assumption)); intro h'z t'z R1z R2z U1z)
  k_with "subscriptTail Name Name str int" => (k_dflt (refine Mine.item_T (by omega) (by omega) ?_; intro cz s'z hsufz tkz kz))
  k_with "subscriptTail Name Name str int" => (k_dflt (refine Mine.item_H (by assumption) (by omega) ?_; intro tkz kz))
  k_with "call ref" => (k_here; (with_reducible show wpAny _ _ (call (Value.ref 554) [Value.ref _, Value.int _ _]) _ _ _); k_dflt (refine' Mine.rd1_at ?k1_z ?k2_z ?k3_z ?k4_z ?k5_z ?kK_z ?km_z ?kU_z ?kn_z ?kp_z ?kd_z ?ku_z ?_ ?_; (case k1_z => k_asm); (case k2_z => k_asm); (case k3_z => k_asm); (case k4_z => k_asm); (case k5_z => k_asm); (case kK_z => first | exact rfl | assumption); (case km_z => k_mem); (case kU_z => k_updF); (case kn_z => omega); (case kp_z => constructor <;> omega); (case kd_z => ktr_room); (case ku_z => ktr_units); all_goals (intro cz s'z hsufz h'z tk'z tz t'z F'z N'z; (try dsimp only at N'z); (try k_sweep))))
  k_with "call ref" => (k_here; (try simp only [List.nil_append, List.cons_append, List.append_nil]); (with_reducible show wpAny _ _ (call (Value.ref 562) [Value.ref _]) _ _ _); k_dflt (refine' Mine.rl_at ?k1_z ?k2_z ?k3_z ?k4_z ?k5_z ?kK_z ?km_z ?kU_z ?kn_z ?kp_z ?kd_z ?ku_z ?_; (case k1_z => k_asm); (case k2_z => k_asm); (case k3_z => k_asm); (case k4_z => k_asm); (case k5_z => k_asm); (case kK_z => first | exact rfl | assumption); (case km_z => k_mem); (case kU_z => k_updF); (case kn_z => omega); (case kp_z => constructor <;> omega); (case kd_z => ktr_room); (case ku_z => ktr_units); (intro xz h'z tk'z tz t'z F'z N'z; (try dsimp only at N'z); (try k_sweep))))
  k_with "exec While Constant cons nil" => refine Mine.Halt.out ?_
  k_with "KswEnd" => refine Mine.Halt.out ?_
  k_with "truthy ref" => (k_here; k_dflt (refine' Mine.dq_truthy_N ?N_z ?m_z ?f_z ?_; (case N_z => k_asm); (case m_z => k_mem); (case f_z => first | decide | omega | (simp only [List.length_cons, List.length_nil]; omega)); k_whole); intro _; (try simp only [List.isEmpty_cons, List.isEmpty_nil, Bool.not_false, Bool.not_true]))
  k_with "getMethod ref" => (k_here; (with_reducible show wpAny _ _ (getMethod (Value.ref _) (PySem.Str.ofString "appendleft") _) _ _ _); k_dflt (refine' Mine.dq_method ?N_z ?m_z Mine.slot_dq_appendleft Mine.type_dq_appendleft ?_; (case N_z => k_asm); (case m_z => k_mem)))
  k_with "getMethod ref" => (k_here; (with_reducible show wpAny _ _ (getMethod (Value.ref _) (PySem.Str.ofString "popleft") _) _ _ _); k_dflt (refine' Mine.dq_method ?N_z ?m_z Mine.slot_dq_popleft Mine.type_dq_popleft ?_; (case N_z => k_asm); (case m_z => k_mem)))
  k_with "call builtin:collections.deque.appendleft" => (k_here; k_dflt (refine' Mine.dq_appendleft ?k1_z ?k2_z ?k3_z ?z_z ?_; (case k1_z => k_asm); (case k2_z => k_asm); (case k3_z => k_upd); (case z_z => first | decide | omega)); intro h'z F'z N'z; (try k_sweep))
  k_with "call builtin:collections.deque.popleft" => (k_here; k_dflt (refine' Mine.dq_popleft ?k1_z ?k2_z ?k3_z ?z_z ?_; (case k1_z => k_asm); (case k2_z => k_asm); (case k3_z => k_upd); (case z_z => first | decide | omega)); intro h'z F'z N'z; (try k_sweep))
  k_with "compareOp In str str" => ((with_reducible show wpAny _ _ (compareOp CmpOp.In (Value.str (Mine.ES.str _) _) _) _ _ _); (rename Mine.ES => ezz; cases ezz <;> dsimp only [Mine.ES.str] at *))
  k_with "compareOp In str str" => ((with_reducible show wpAny _ _ (compareOp CmpOp.In (Value.str (Mine.ES.str _) _) _) _ _ _); (rename Mine.ES => ezz; cases ezz <;> dsimp only [Mine.ES.str] at *); all_goals (try (exfalso; (have hqz := (by assumption : Mine.ES.sp = Mine.ES.sp → _ ≤ _) rfl); omega)))
  k_with "call ref" => (k_here; (try simp only [List.nil_append, List.cons_append, List.append_nil]); (with_reducible show wpAny _ _ (call (Value.ref 711) [Value.ref _]) _ _ _); k_dflt (refine' Mine.Con.use (Mine.rt_spec _ _ _ _ _ _ _ _ _ _ _ _ _ _ _ _ _ _ _ _ _ _ _ _ _ ?a1_z ?a2_z ?a3_z ?a4_z ?a5_z ?a6_z ?a7_z) ?k1_z ?k2_z ?k3_z ?k4_z ?k5_z ?kK_z ?kp_z ?kd_z ?ku_z ?_ ?_; (case k1_z => k_asm); (case k2_z => k_asm); (case k3_z => k_asm); (case k4_z => k_asm); (case k5_z => k_asm); (case kK_z => first | exact rfl | assumption); (case a1_z => k_all); (case a2_z => k_all); (case a3_z => k_all); (case a4_z => omega); (case a5_z => omega); (case a6_z => omega); (case a7_z => omega); (case kp_z => assumption); (case kd_z => ktr_room); (case ku_z => ktr_units)); k_dflt (all_goals first
    | (rintro vz h'z tk'z n'z ⟨cz, pushz, dn'z, tvz, hRz, hpz, e1z, e2z⟩ F'z N'z; (subst e1z); (subst e2z); rcases cz with ⟨a0z, a1z, a2z, a3z, a4z, a5z, a6z, a7z, a8z, a9z, a10z⟩; dsimp only at hRz hpz N'z ⊢; (by_cases hvz : a4z = false ∧ a2z = []) <;> (first | rw [if_pos hvz] | rw [if_neg hvz]) <;> (try k_sweep))
    | (rintro ez tz g'z h'z tk'z esz n'z ⟨kz, cz, tmz, hRz, hpz, e1z, e2z⟩ F'z R1z R2z U1z; (subst e1z); (subst e2z); rcases cz with ⟨a0z, a1z, a2z, a3z, a4z, a5z, a6z, a7z, a8z, a9z, a10z⟩; dsimp only at hRz hpz R1z R2z ⊢)))
  k_with "leaving ref" => (k_dflt (refine' leave_onS ?k1_z ?k2_z ?k3_z ?k4_z ?_; (case k1_z => assumption); (case k3_z => assumption); (case k2_z => assumption); (case k4_z => assumption)); intro h'z R1z R2z U1z)
  k_with "CompSrc" => refine Mine.Halt.out ?_
  k_with "SrcLP" => refine Mine.Halt.out ?_
  k_with "CompEnd" => (k_dflt (refine' Mine.comp_end ?F_z ?N_z ?off_z ?S_z ?_; (case F_z => assumption); (case N_z => assumption); (case off_z => assumption); (case S_z => first | exact True.intro | exact Or.inr ⟨_, by k_mem, rfl, _, rfl⟩)))
  k_with "binaryOp Mod int int" => ((with_reducible show wpAny _ _ (binaryOp Operator.Mod (Value.int _ _) (Value.int _ _)) _ _ _); refine Mine.dig_mod (by decide) ?_; intro d'z t'z k'z hd0'z hd1'z)
  k_with "binaryOp Add ref ref" => (k_dflt (refine' Mine.add_ls ?F_z ?N_z ?ma_z ?mb_z ?z_z ?_; (case F_z => k_asm); (case N_z => k_asm); (case ma_z => k_mem); (case mb_z => k_mem); (case z_z => (simp only [List.length_cons, List.length_nil, List.length_append]; omega)); intro D'z h'z F'z N'z l1z; (try k_lt l1z); (try k_sweep)))
  k_with "call ref" => ((try simp only [List.nil_append, List.cons_append, List.append_nil]); (with_reducible show wpAny _ _ (call (Value.ref 752) [Value.int _ _]) _ _ _); k_dflt (refine' Mine.Con.top (Mine.pc_spec _ _ _) ?B_z ?F_z ?X_z ?N_z ?T_z ?hk_z ?hp_z ?hd_z ?hu_z ?_ ?exc_z; (case B_z => k_asm); (case F_z => assumption); (case X_z => k_asm); (case N_z => assumption); (case T_z => k_asm); (case hk_z => exact rfl); (case hp_z => assumption); (case hd_z => decide); (case hu_z => decide); (case exc_z => exact fun _ _ h => h); intro v'z h'z tk'z n'z hR'z F'z N'z))
  k_with "binaryOp Pow int int" => (refine Mine.pow_108 ?_; intro t'z k'z)
  k_with "call builtin:str.join" => (k_dflt (refine' Mine.join_n ?N_z ?m_z ?i_z ?b_z ?n_z ?_; (case N_z => k_asm); (case m_z => k_mem); (case i_z => assumption); (case b_z => assumption); (case n_z => first | assumption | omega)); intro S'z t'z k'z hS'z)
  k_with "call builtin:sum" => (k_dflt (refine' Mine.sum_n ?F_z ?N_z ?h_z ?m_z ?i_z ?_; (case F_z => k_asm); (case N_z => k_asm); (case h_z => rfl); (case m_z => first | k_mem | exact List.mem_cons_of_mem _ (by assumption) | exact List.mem_cons_of_mem _ (List.mem_cons_of_mem _ (by assumption))); (case i_z => assumption)); intro d'z h'z tk'z t'z F'z N'z)
  k_with "call builtin:len" => (k_dflt (refine Mine.len_tx (by assumption) (by decide) ?_); intro t'z k'z)
  k_with "binaryOp Mod int int" => ((with_reducible show wpAny _ _ (binaryOp Operator.Mod (Value.int _ _) (Value.int _ _)) _ _ _); refine Mine.dig_mod (by first | decide | omega) ?_; intro d'z t'z k'z hd0'z hd1'z)
  k_with "exec Assign" => ((with_reducible show wpAny _ _ (exec (Stmt.Assign [Expr.Name _ _] (Expr.IfExp _ _ _ _) _) _) _ _ _); (fail_if_success (with_reducible show wpAny _ _ _ (Mine.SetEnd _ _ _ _ _ _ _) _ _)); k_dflt (refine' Mine.st_set (Str.ofString "row") 3000 ?F_z ?N_z ?_ ?_; (case F_z => k_asm); (case N_z => k_asm)); rotate_left; (intro h'z tk'z S'z t'z hS'z F'z N'z; (try k_sweep)); rotate_left)
  k_with "SetEnd" => (k_dflt (exact Mine.SetEnd.set (by assumption) (by assumption) (by assumption)))
  k_with "subscriptTail Name Slice str ref" => ((with_reducible rename Fr _ _ _ _ => F'z); (with_reducible rename News _ _ _ _ => N'z); (k_dflt (refine' Mine.slice_ns_tx F'z N'z ?hx_z ?hB_z ?_; (case hx_z => assumption); (case hB_z => decide); intro S'z h'z t'z kz hS'z F'z N'z)))
  k_with "eval ListComp" => ((with_reducible show wpAny _ _ (eval (Expr.ListComp _ [_, _] _ _) _) _ _ _); refine Mine.Halt.out ?_)
  k_with "call ref" => ((try simp only [List.nil_append, List.cons_append, List.append_nil]); (with_reducible first | show wpAny _ _ (call (Value.ref 759) _) _ _ _ | show wpAny _ _ (call (Value.ref 766) _) _ _ _ | show wpAny _ _ (call (Value.ref 811) _) _ _ _); refine Mine.Halt.out ?_)
  k_with "eval Name" => ((with_reducible show wpAny _ _ (eval (Expr.Name (Str.ofString "lexer") _) (compEnvC _ _ _ _)) _ _ _); k_dflt (refine' Mine.ld_cell ?N_z ?c_z ?m_z ?d_z ?_ ?k_z ?x_z ?b_z; (case N_z => assumption); (case c_z => exact rfl); (case m_z => repeat' first | assumption | apply List.mem_cons_of_mem); (case d_z => assumption); (case k_z => exact rfl); (case x_z => exact rfl); (case b_z => decide)))
  k_with "eval Name" => ((with_reducible show wpAny _ _ (eval (Expr.Name (Str.ofString "lexer") _) (envOfC _ _ _ _ _)) _ _ _); k_dflt (refine' Mine.name_cell ?N_z ?c_z ?m_z ?d_z ?_ ?k_z ?x_z ?b_z; (case N_z => assumption); (case c_z => exact rfl); (case m_z => repeat' first | assumption | apply List.mem_cons_of_mem); (case d_z => assumption); (case k_z => exact rfl); (case x_z => exact rfl); (case b_z => decide)))
  k_with "call ref" => ((try simp only [List.nil_append, List.cons_append, List.append_nil]); (with_reducible show wpAny _ _ (call (Value.ref 554) [Value.ref _]) _ _ _); k_dflt (refine' Mine.ra_top ?B_z ?F_z ?X_z ?N_z ?T_z ?hk_z ?m_z ?U_z ?ne_z ?hp_z ?_; (case B_z => k_asm); (case F_z => assumption); (case X_z => k_asm); (case N_z => assumption); (case T_z => k_asm); (case hk_z => exact rfl); (case m_z => k_mem); (case U_z => k_updF); (case ne_z => k_ne); (case hp_z => exact ⟨Mine.LS.hp (by assumption), by omega⟩)); intro h'z tk'z t'z p'z t2'z F'z N'z)
  exact ⟨rfl, rfl⟩

namespace Mine
end Mine
set_option maxRecDepth 100000 in
theorem PySem.Challenge.cw_in0151_01_holds : PySem.Challenge.rw_in0151_01.Holds := by
  w_on
  refine holds_law Mine.well1 fun said => ?_
  refine holds_open (q := Mine.q1) (loose := Mine.loose1) (Xt := fun s => xlAt Mine.q1 [] s && recOk (RowW.records PySem.Challenge.rw_in0151_01.row.toRowW) s) (XP := XL Mine.q1 []) (Yf := Hook.obs Mine.hook) (Ya := Hook.val Mine.hook) (YP := Hook.says Mine.hook) (N := 10374) Mine.left1 (Hook.of Mine.hook) (Hook.keeps Mine.hook) (fun s e => xl_of s (Bool.and_eq_true_iff.mp e).1) XL.keeps (by rfl) (by rfl) (by rfl) (fun s e => recFacts_of (Bool.and_eq_true_iff.mp e).2) (by rfl) (by first | assumption | decide +kernel) (by decide +kernel) ⟨rfl, rfl, rfl, rfl, rfl, by decide +kernel⟩ ?hw ?hc
  case hw => w_witness2
  clear said
  w_strict (
    k_go0
    (all_goals try k_fold)
    k_steps
    unfold Mine.Halt
    have hL9 := Mine.ints_len (by assumption : IntsAre _ (List.take 12 _))
    k_dflt (refine' LCg.CompSrc.ledger ?h1 ?h2 ?h3 ?h4 ?h5 ?_)
    case h1 => rfl
    case h2 => k_asm
    case h3 => k_asm
    case h4 => k_mem
    case h5 => (simp only [List.size_toArray]; rw [PySem.sizeLine_eq]; exact Nat.le_trans (Nat.le_of_eq hL9) (Nat.le_trans (List.length_take_le _ _) (Nat.le_of_ble_eq_true rfl)))
    intro g'
    refine Mine.comp_inv (Mine.NumJ _) Mine.NumJ.nil ?step ?fin
    case step =>
      intro i ys nw hi hJ v I oI C oC D m₂ h tk E' hv hC hx F N off ne
      refine Mine.ints_atK (by assumption) hv fun k9 t9 e9 => ?_
      subst e9
      have e9 := hJ.1
      subst e9
      k_steps
      exact Mine.NumJ.step hJ (by assumption) (by assumption)
    case fin =>
      intro ys nw hJ
      refine hJ.out fun ns e9 hJ1 hJ2 hJ3 => ?_
      subst e9
      have hl12 := hJ1.length
      simp only [List.size_toArray] at hJ2
      have hys : ys.length ≤ 12 := Nat.le_trans (Nat.le_of_eq (hl12.trans (hJ2.trans hL9))) (List.length_take_le _ _)
      k_steps
      unfold Mine.Halt
      k_dflt (refine' LCg.CompSrc.ledger ?h1 ?h2 ?h3 ?h4 ?h5 ?_)
      case h1 => rfl
      case h2 => k_asm
      case h3 => k_asm
      case h4 => k_mem
      case h5 => (simp only [List.size_toArray, List.length_append, List.length_cons, List.length_nil]; rw [PySem.sizeLine_eq]; exact Nat.le_trans (Nat.add_le_add_left hys _) (Nat.le_of_ble_eq_true rfl))
      have hI9 : ∀ t1 t2 t3 t4 : Tok, IntsAre ([Value.int 60100 t1, Value.int 271333 t2, Value.int 402442 t3, Value.int 1390971 t4] ++ ys) ([60100, 271333, 402442, 1390971] ++ ns) := fun _ _ _ _ => IntsAre.append (.cons _ _ (.cons _ _ (.cons _ _ (.cons _ _ .nil)))) hJ1
      have hB9 : ∀ k ∈ [60100, 271333, 402442, 1390971] ++ ns, (0 : Int) ≤ k ∧ k < 100000000 := by
        intro k hk
        rcases List.mem_append.mp hk with hk | hk
        · simp only [List.mem_cons, List.not_mem_nil, or_false] at hk
          rcases hk with rfl | rfl | rfl | rfl <;> decide
        · exact hJ3 k hk
      intro g'
      refine Mine.comp_inv (Mine.PieceJ _) Mine.PieceJ.nil ?step2 ?fin2
      case step2 =>
        intro i ys nw hi hJ v I oI C oC D m₂ h tk E' hv hC hx F N off ne
        refine Mine.ints_inK (hI9 _ _ _ _) hv fun k9 t9 e9 hk9 => ?_
        subst e9
        have hp8 := hB9 k9 hk9
        have hp9 : 0 ≤ k9 ∧ k9 < 10 ^ 8 := ⟨hp8.1, Mine.o_9 hp8.2 rfl⟩
        k_steps
        exact Mine.piece_end hJ (by assumption) (by assumption) (by assumption) (by assumption) (fun nw' hs => Or.inr ⟨_, hs _ (.head _), rfl, _, rfl⟩)
      case fin2 =>
        intro ys2 nw hJ
        refine hJ.out fun ls kss hsub hlen2 hPs => ?_
        have hm754 := hsub (754, tabObj #[]) (.tail _ (.tail _ (.tail _ (.tail _ (.tail _ (.head _))))))
        have hmc := hsub (_, _) (.tail _ (.tail _ (.tail _ (.tail _ (.head _)))))
        have hlen3 : ys2.length ≤ 16 := by
          simp only [List.size_toArray, List.length_append, List.length_cons, List.length_nil] at hlen2
          exact Nat.le_trans (Nat.le_of_eq hlen2) (Nat.add_le_add_left hys _)
        k_steps
        unfold Mine.Halt
        k_dflt (refine' LCp.SrcLP.ledger ?h1 ?h2 ?h3 ?h4 ?h5 ?_)
        case h1 => rfl
        case h2 => k_asm
        case h3 => k_asm
        case h4 => k_mem
        case h5 => (simp only [List.size_toArray]; rw [PySem.sizeLine_eq]; exact Mine.o_c hlen3 rfl)
        intro g'
        refine Mine.comp_invP (Mine.WrJ _) Mine.WrJ.nil ?step3 ?fin3
        case step3 =>
          intro i ys nw' hi hJ v hv
          refine hPs.out (by simpa using hv) fun D9 W9 l9 tl9 e9 hm9 hl9 hc9 => ?_
          have e8 := hJ.1
          subst e8
          refine ⟨D9, _, _, _, _, e9, .tail _ hm9, rfl, rfl, ?_⟩
          intro I oI C oC D m₂ h tk E' hC hx hx2 F N off ne
          k_steps
          exact Mine.WrJ.step hJ hl9 hc9
        case fin3 =>
          intro ys3 nw' hJ
          refine hJ.out fun ls4 e8 hlen4 hS4 hb4 => ?_
          subst e8
          have hn3 : ys3.length ≤ 20 := by
            simp only [List.size_toArray] at hlen4
            exact Nat.le_trans (Nat.le_of_eq hlen4) (Mine.o_c hlen3 rfl)
          have hmn : (_, LCg.lst ys) ∈ nw := hsub _ (.tail _ (.tail _ (.head _)))
          k_steps
          unfold Mine.Halt
          k_dflt (refine' Mine.ListComp_2 ?F ?hh ?cl ?cell ?kind ?names ?x ?x2 ?y ?xx ?d ?d2 ?_)
          case F => k_asm
          case hh => rfl
          case cl => with_unfolding_all rfl
          case cell => decide
          case kind => rfl
          case names => decide
          case x => rfl
          case x2 => rfl
          case y => rfl
          case xx => decide
          case d => decide
          case d2 => decide
          k_steps
          k_dflt (refine' Mine.Src2.intro ?F ?N ?m ?P ?l ?_)
          case F => k_asm
          case N => k_asm
          case m => k_mem
          case P => exact hPs.mono (fun p hp => by repeat' first | exact hp | apply List.mem_cons_of_mem)
          case l => exact Mine.o_c hlen3 rfl
          intro D5 h5 tk5 kv kk hkv hkl F5 N5 hlt5
          have hkv9 : kv.length ≤ 4 * 16 := Nat.le_trans hkl (Nat.mul_le_mul_left 4 hlen3)
          have h754 : @LT.lt Nat _ 754 D5 := hlt5 _ (by repeat' first | exact hm754 | apply List.mem_cons_of_mem)
          have hcell5 := hlt5 (_, _) (by repeat' first | exact hmc | apply List.mem_cons_of_mem)
          replace hcell5 : @LT.lt Nat _ _ _ := hcell5
          k_lt hlt5
          k_steps
          unfold Mine.Halt
          refine Mine.TxS.out ‹Mine.TxS 3000 _› fun r e9 hr1 hr2 => ?_
          subst e9
          refine' Mine.lx_top [(_, W.listOf _ 0), (_, _)] r _ ?hn0 ?B ?F ?X ?N ?T ?C ?hk ?hr ?_
          case N => exact News.sub (by assumption) (List.forall_mem_cons.mpr ⟨by repeat' first | exact hm754 | apply List.mem_cons_of_mem, List.forall_mem_cons.mpr ⟨.head _, List.forall_mem_cons.mpr ⟨by repeat' first | exact hmc | apply List.mem_cons_of_mem, List.forall_mem_nil _⟩⟩⟩)
          case hn0 => exact List.forall_mem_cons.mpr ⟨Nat.ne_of_gt (by omega), List.forall_mem_cons.mpr ⟨Nat.ne_of_gt (by omega), List.forall_mem_nil _⟩⟩
          case B => k_asm
          case F => k_asm
          case X => k_asm
          case T => k_asm
          case C => assumption
          case hk => rfl
          case hr => exact Mine.o_d hr1 rfl
          intro v6 h6 tk6 n6 hR6 F6 N6
          obtain ⟨x, ld, sio, sd, pb, fs, f, c', cc, P, b, sc, qual, pm, ct, oc, o2, vs, tq, hs, hs2, ts, ts2, tc, t1, t2, t3, tst, tl, tt, ps, hl, rfl, hoc, hvs, ho2, hlt0, hnlt, rfl⟩ := hR6
          have w1 := hlt0.1
          have hlt9 := hlt0.2
          have w2 := hlt9.1
          have w3 := hlt9.2.1
          have w4 := hlt9.2.2.1
          have w5 := hlt9.2.2.2.1
          have w6 := hlt9.2.2.2.2.1
          have w7 := hlt9.2.2.2.2.2.1
          have w8 := hlt9.2.2.2.2.2.2.1
          have w9 := hlt9.2.2.2.2.2.2.2
          have hnlt2 := hnlt
          have hcc9 := hnlt2 _ (.tail _ (.head _))
          dsimp only at hcc9
          have v1 := Nat.lt_trans hcc9 w2
          have v2 := Nat.lt_trans v1 w3
          have v3 := Nat.lt_trans v2 w4
          have v4 := Nat.lt_trans v3 w5
          have v5 := Nat.lt_trans v4 w6
          have v6 := Nat.lt_trans v5 w7
          have v7 := Nat.lt_trans v6 w8
          have v8 := Nat.lt_trans v7 w9
          have u1 := Nat.lt_trans w5 w6
          have u2 := Nat.lt_trans u1 w7
          have u3 := Nat.lt_trans u2 w8
          have u4 := Nat.lt_trans u3 w9
          have u5 := Nat.lt_trans w3 w4
          have u6 := Nat.lt_trans w2 u5
          k_lt hnlt
          rw [show Str.ofString " " = Mine.T [32] by decide +kernel, show Str.ofString "" = Mine.T [] by decide +kernel] at N6
          k_dflt (refine' storeX_C ?F ?N ?c ?U ?d ?_)
          case F => k_asm
          case N => k_asm
          case c => exact rfl
          case U => k_updF
          case d => assumption
          intro h7 o7 F7 N7 hd7
          k_steps
          unfold Mine.Halt
          have hDA : ∀ a1 a2 a3 a4 a5 : Tok, Mine.DeedsAre (kv ++ [Value.str (Str.ofString "word") a1, Value.str (Str.ofString "bytes") a2, Value.str (Str.ofString "word") a3, Value.str (Str.ofString "octet") a4, Value.str (Str.ofString "word") a5]) (kk ++ [.word, .byt, .word, .oct, .word]) := fun _ _ _ _ _ => Mine.DeedsAre.app hkv (.w (.b (.w (.o (.w .nil)))))
          k_dflt (refine' LCg.CompSrc.ledger ?h1 ?h2 ?h3 ?h4 ?h5 ?_)
          case h1 => rfl
          case h2 => k_asm
          case h3 => k_asm
          case h4 => k_mem
          case h5 => (simp only [List.size_toArray, List.length_append, List.length_cons, List.length_nil]; rw [PySem.sizeLine_eq]; exact Nat.le_trans (Nat.add_le_add_right hkv9 _) (Nat.le_of_ble_eq_true rfl))
          intro g'
          have hLS0 : Mine.LS r ⟨r, 1, [], none⟩ 0 .ws 1 [] [] := ⟨rfl, Nat.zero_le _, Mine.o_d hr1 rfl, rfl, rfl, by simp, fun _ => ⟨rfl, .inl rfl⟩, (fun k h => by cases h), by simp⟩
          refine Mine.comp_inv (Mine.RowJ P b sc x ld sio sd pb fs f c' cc qual pm ct oc o2 hs hs2 ts ts2 tc r t1 t2 0 (kk ++ [.word, .byt, .word, .oct, .word]) [(754, tabObj ps), (_, W.listOf _ 0), (_, o7)]) ⟨⟨r, 1, [], none⟩, [], 0, .ws, tst, 1, tl, [], tt, t3, 0, [], [], .nil, hLS0, .nil, List.forall_mem_nil _, rfl⟩ ?step ?fin
          case step =>
            intro i ys nw8 hi hJ v I oI C oC D m₂ h tk E' hv hC hx F N off ne
            obtain ⟨ms, os, pos, st, tst8, line, tl8, tok, tt8, t38, dn, push, own, hTr, hLS, hR, hown, rfl⟩ := hJ
            refine (hDA _ _ _ _ _).out (by simpa using hv) fun k kt hk e9 => ?_
            subst e9
            have N0 : True ∧ _ := ⟨trivial, N⟩
            refine Mine.rest_gen N fun rest0 hr0 hb0 N' => ?_
            clear N
            have mc := hb0 (_, o7) (.tail _ (.tail _ (.head _)))
            dsimp only [Mine.LLx] at N'
            k_steps
            unfold Mine.Halt
            clear N'
            have N9 := N0.2
            clear N0
            refine Mine.told_top _ hl x ld sio sd pb fs f c' cc qual pm ct oc o2 vs tq hs hs2 ts ts2 tc r pos k kt ms st line tok t1 t2 t38 tst8 tl8 tt8 dn 0 push hoc hvs ho2 (Mine.told_ne off hown (List.forall_mem_cons.mpr ⟨w1, List.forall_mem_cons.mpr ⟨hnlt2 _ (.head _), List.forall_mem_cons.mpr ⟨hcc9, List.forall_mem_nil _⟩⟩⟩) hlt9) hr2 hlt9 hLS (by k_asm) F (by k_asm) (Mine.told_perm N9) (by k_asm) (by k_asm) (by k_asm) rfl ?_
            intro v8 h8 tk8 td ms8 pos8 st8 line8 tok8 push8 dn8 tst9 tl9 tt9 t39 own1 hst8 hLS8 hT8 ho1 ho2' F8 N8
            refine Mine.rest_gen2 N8 fun rest hrest mI mC mD hbr N8' => ?_
            clear N8 mc N9 hb0 F
            have mc2 := hbr (_, o7) (.tail _ (.tail _ (.head _)))
            dsimp only [Mine.LLx] at N8'
            k_steps
            exact Mine.row_end hTr hR hown off hk hst8 hLS8 hT8 ho1 ho2' hrest (by omega) (kst_ltOf (by with_reducible assumption : _ ∧ _ ∧ _ ∧ _ ∧ _ ∧ _ ∧ _ ∧ _ ∧ _ ∧ AllLt _ rest).2.2.2.2.2.2.2.2.2) (fun nw' hs => Or.inr ⟨_, hs _ (.tail _ (.head _)), rfl, _, rfl⟩) (by assumption) (by assumption)
          case fin =>
            intro ys9 nw8 hJ
            obtain ⟨ms, os, pos, st, tst8, line, tl8, tok, tt8, t38, dn, push, own, hTr, hLS, hR, hown, hnw8⟩ := hJ
            refine Mine.rest_gen3 hnw8 fun rest hrest hbr hnw9 => ?_
            have mc2 := hbr (_, o7) (.tail _ (.tail _ (.head _)))
            clear hnw8
            have hnr := Mine.rest_ne hrest hown (List.forall_mem_cons.mpr ⟨w1, List.forall_mem_cons.mpr ⟨hnlt2 _ (.head _), List.forall_mem_cons.mpr ⟨hcc9, List.forall_mem_nil _⟩⟩⟩) hlt9
            dsimp only [Mine.LLx] at hnw9
            subst hnw9
            have hmk := hbr (_, _) (.tail _ (.head _))
            have hmt := hbr (754, tabObj ps) (.head _)
            have hkl9 := (hDA 0 0 0 0 0).length
            have hTr9 : Mine.Trace ⟨r, 1, [], none⟩ (kk ++ [.word, .byt, .word, .oct, .word]) os ms := by
              rw [List.take_of_length_le (by simp only [List.length_append, List.length_cons, List.length_nil, List.size_toArray] at hkl9 ⊢; exact Nat.le_of_eq hkl9.symm)] at hTr
              exact hTr
            k_steps
            unfold Mine.Halt
            refine' Mine.Con.top (Mine.wa_spec _ r _ _ _ 0 (kk ++ [.word, .byt, .word, .oct, .word]) hr2 (hDA _ _ _ _ _) ?hlen) ?B ?F ?X ?N ?T ?hk ?hp ?hd ?hu ?_ ?exc
            case N => exact Mine.news_dup (by assumption) (by repeat' first | exact hmk | apply List.mem_cons_of_mem)
            case hlen => (simp only [List.length_append, List.length_cons, List.length_nil]; exact Nat.lt_of_le_of_lt (Nat.add_le_add_right hkv9 _) (Nat.le_of_ble_eq_true rfl))
            case B => k_asm
            case F => assumption
            case X => k_asm
            case T => k_asm
            case hk => rfl
            case hp => exact Mine.o_d hr1 rfl
            case hd => decide
            case hu => decide
            case exc => exact fun _ _ h => h
            intro v9 h9 tk9 n9 hR9 F9 N9
            obtain ⟨D2, R2, vs2, n2, tl2, ms2, os2, tr2, hTr2, hR2, hb2, rfl, rfl⟩ := hR9
            obtain ⟨e1, e2⟩ := Mine.Trace.det hTr9 hTr2
            subst e1 e2
            refine' Mine.eq_last N9 N9 ?m1 ?m2 ?hx ?m3 ?m4 ?h ?h' ?hu ?_
            case m1 => exact .tail _ (.tail _ (hb2 _ (.tail _ (.head _))))
            case m2 => exact .head _
            case m3 => exact .tail _ (.tail _ (hb2 _ (.tail _ (.tail _ (.head _)))))
            case m4 => exact .tail _ (.head _)
            case hx => rw [hLS.hs]
            case h => exact hR.mono (fun p hp => .tail _ (.tail _ (hb2 _ (.tail _ (by
              have hp9 : p ∈ rest := hrest ▸ List.mem_append_left _ hp
              repeat' first | exact hp9 | apply List.mem_cons_of_mem)))))
            case h' => exact hR2.mono (fun p hp => .tail _ (.tail _ hp))
            case hu => (show 7 + 32 < cLine; decide)
            refine ⟨?_, GrownAt.of N9 (.tail _ (.tail _ (hb2 _ (.tail _ (by repeat' first | exact hmt | apply List.mem_cons_of_mem))))), trivial⟩
            clear hTr9 hR hR2 hLS hnr hown hrest hbr hPs hJ1 hS4
            refine goodW_bool F9 ?g9 (raisesW_false ?r9) ?p9
            case g9 => first | assumption | (dsimp only; assumption)
            case r9 => wrow_none_raised
            case p9 => (refine postW_of (by wrow_shape) (w_eq_bool (w_res rfl) w_lit) ?_; rfl))

end
