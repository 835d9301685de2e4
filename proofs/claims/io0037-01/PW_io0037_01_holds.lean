import PyProof.Rows.All
import Wide.All
import OpenK.AllK
import Wide.FinOn
import PySem.Challenge.RW_io0037_01
set_option Elab.async false
set_option maxRecDepth 100000
set_option linter.unusedVariables false
set_option linter.unusedSimpArgs false
namespace Mine
section
open PySem PySem.W PyProof.Rows
/-! The head: the top's run, in one check by the kernel over a tree of objects; what the walk needs of the heap is K. -/

noncomputable def topS (p : Program) (i : Nat) : Stmt := (p.main.body[i]?).getD (.Pass default)
noncomputable def clsS (st : Stmt) (j : Nat) : Stmt := match st with
  | .ClassDef _ _ _ b _ _ _ _ _ _ _ => (b[j]?).getD (.Pass default)
  | s => s
noncomputable def argS (st : Stmt) : Arguments := match st with
  | .FunctionDef _ a _ _ _ _ _ _ _ _ => a
  | _ => ⟨[], [], none, [], [], none, []⟩
noncomputable def bodyS (st : Stmt) : List Stmt := match st with
  | .FunctionDef _ _ b _ _ _ _ _ _ _ => b
  | _ => []
noncomputable def scopeS (st : Stmt) : Scope := match st with
  | .FunctionDef _ _ _ _ _ _ sc _ _ _ => sc
  | _ => { kind := .module, names := [], isGenerator := false, isCoroutine := false, more := [] }
noncomputable def fnS (name qual : Str) (st : Stmt) (dV kV doc pm : Value) (an : Option Addr) (cdv ct : Value) : FuncData :=
  fnOf name qual (argS st) (bodyS st) (scopeS st) dV kV doc pm an cdv ct
noncomputable def kE (P : Params) (x : Str) (t : Tok) (v : Value) : DictEntry := ⟨PyData.keyHash P x, .str x t, v⟩

noncomputable def o2 (p : Program) (P : Params) : Obj := ⟨.none, none, (.dict (kE P "type.__subclasses__.OSError.0" 287 (.int (88) 0) :: kE P "type.__subclasses__.OSError.n" 288 (.int (1) 0) :: []).toArray 2), ([]).toArray⟩
noncomputable def o3 (p : Program) (P : Params) : Obj := ⟨(.type "dict"), none, (.dict (kE P "__name__" 165 (.str (PySem.Str.ofString "law_io0037_01") 917) :: kE P "__doc__" 166 .none :: kE P "__package__" 167 .none :: kE P "__loader__" 168 (.builtin "__main__.__loader__#opaque") :: kE P "__spec__" 169 .none :: kE P "__annotations__" 170 (.ref (nat_lit 6)) :: kE P "__builtins__" 171 (.ref (nat_lit 4)) :: kE P "__file__" 173 (.str (PySem.Str.ofString "/claim/cut.py") 172) :: kE P "__cached__" 174 .none :: kE P "_wall" 193 (.ref (nat_lit 21)) :: kE P "FileWrapper" 243 (.ref (nat_lit 53)) :: kE P "guess_scheme" 250 (.ref (nat_lit 64)) :: kE P "_whence" 260 (.ref (nat_lit 71)) :: kE P "_index" 268 (.ref (nat_lit 78)) :: kE P "UnsupportedOperation" 290 (.ref (nat_lit 88)) :: kE P "IOBase" 322 (.ref (nat_lit 108)) :: kE P "BufferedIOBase" 340 (.ref (nat_lit 123)) :: kE P "TextIOBase" 358 (.ref (nat_lit 135)) :: kE P "BytesIO" 620 (.ref (nat_lit 365)) :: kE P "StringIO" 907 (.ref (nat_lit 612)) :: kE P "setup_testing_defaults" 916 (.ref (nat_lit 621)) :: kE P "law" 924 (.ref (nat_lit 626)) :: []).toArray 22), ([]).toArray⟩
noncomputable def o29 (p : Program) (P : Params) : Obj := ⟨(.type "tuple"), none, (.seq ((.int (8192) 208) :: []).toArray 0), ([]).toArray⟩
noncomputable def o35 (p : Program) (P : Params) : Obj := ⟨(.type "code"), none, (.fields ((.str (PySem.Str.ofString "__init__") 209) :: (.str (PySem.Str.ofString "FileWrapper.__init__") 210) :: (.str (PySem.Str.ofString "/claim/cut.py") 211) :: (.int (7) 0) :: (.int (3) 0) :: (.int (0) 0) :: (.int (0) 0) :: (.int (3) 0) :: (.ref (nat_lit 30)) :: (.bool true) :: (.int (181) 0) :: (.ref (nat_lit 31)) :: .none :: (.ref (nat_lit 32)) :: (.ref (nat_lit 33)) :: (.ref (nat_lit 34)) :: (.int (215) 0) :: (.int (7) 0) :: (.str (PySem.Str.ofString "/claim/cut.py") 216) :: []).toArray), ([]).toArray⟩
noncomputable def o36 (p : Program) (P : Params) : Obj := ⟨(.type "function"), none, (.func (fnS (PySem.Str.ofString "__init__") (PySem.Str.ofString "FileWrapper.__init__") (clsS (topS p 2) 0) (.ref (nat_lit 29)) .none .none (.str (PySem.Str.ofString "cpy313.wsgiref.util") 194) none (.ref (nat_lit 35)) .none)), ([]).toArray⟩
noncomputable def o42 (p : Program) (P : Params) : Obj := ⟨(.type "code"), none, (.fields ((.str (PySem.Str.ofString "__iter__") 218) :: (.str (PySem.Str.ofString "FileWrapper.__iter__") 219) :: (.str (PySem.Str.ofString "/claim/cut.py") 220) :: (.int (13) 0) :: (.int (1) 0) :: (.int (0) 0) :: (.int (0) 0) :: (.int (3) 0) :: (.ref (nat_lit 37)) :: (.bool true) :: (.int (181) 0) :: (.ref (nat_lit 38)) :: .none :: (.ref (nat_lit 39)) :: (.ref (nat_lit 40)) :: (.ref (nat_lit 41)) :: (.int (222) 0) :: (.int (13) 0) :: (.str (PySem.Str.ofString "/claim/cut.py") 223) :: []).toArray), ([]).toArray⟩
noncomputable def o43 (p : Program) (P : Params) : Obj := ⟨(.type "function"), none, (.func (fnS (PySem.Str.ofString "__iter__") (PySem.Str.ofString "FileWrapper.__iter__") (clsS (topS p 2) 1) .none .none .none (.str (PySem.Str.ofString "cpy313.wsgiref.util") 194) none (.ref (nat_lit 42)) .none)), ([]).toArray⟩
noncomputable def o49 (p : Program) (P : Params) : Obj := ⟨(.type "code"), none, (.fields ((.str (PySem.Str.ofString "__next__") 225) :: (.str (PySem.Str.ofString "FileWrapper.__next__") 226) :: (.str (PySem.Str.ofString "/claim/cut.py") 227) :: (.int (16) 0) :: (.int (1) 0) :: (.int (0) 0) :: (.int (0) 0) :: (.int (3) 0) :: (.ref (nat_lit 44)) :: (.bool true) :: (.int (181) 0) :: (.ref (nat_lit 45)) :: .none :: (.ref (nat_lit 46)) :: (.ref (nat_lit 47)) :: (.ref (nat_lit 48)) :: (.int (230) 0) :: (.int (16) 0) :: (.str (PySem.Str.ofString "/claim/cut.py") 231) :: []).toArray), ([]).toArray⟩
noncomputable def o50 (p : Program) (P : Params) : Obj := ⟨(.type "function"), none, (.func (fnS (PySem.Str.ofString "__next__") (PySem.Str.ofString "FileWrapper.__next__") (clsS (topS p 2) 2) .none .none .none (.str (PySem.Str.ofString "cpy313.wsgiref.util") 194) none (.ref (nat_lit 49)) .none)), ([]).toArray⟩
noncomputable def o52 (p : Program) (P : Params) : Obj := ⟨(.type "dict"), none, (.dict (kE P "__module__" 203 (.str (PySem.Str.ofString "cpy313.wsgiref.util") 194) :: kE P "__firstlineno__" 207 (.int (5) 206) :: kE P "__init__" 217 (.ref (nat_lit 36)) :: kE P "__iter__" 224 (.ref (nat_lit 43)) :: kE P "__next__" 232 (.ref (nat_lit 50)) :: kE P "__static_attributes__" 236 (.ref (nat_lit 51)) :: kE P "__dict__" 238 (.ref (nat_lit 54)) :: kE P "__weakref__" 240 (.ref (nat_lit 55)) :: kE P "__doc__" 241 .none :: []).toArray 4), ([]).toArray⟩
noncomputable def o53 (p : Program) (P : Params) : Obj := ⟨(.type "type"), none, (.cls { name := (PySem.Str.ofString "FileWrapper"), bases := ((.type "object") :: []), mro := ((.ref (nat_lit 53)) :: (.type "object") :: []), ns := (nat_lit 52), qualname := (PySem.Str.ofString "FileWrapper"), hasDict := true, slotNames := ([]), subclasses := ([]), abstract := false, collection := none, hasDel := false }), (none :: none :: (some (.str (PySem.Str.ofString "FileWrapper") 196)) :: (some (.str (PySem.Str.ofString "FileWrapper") 204)) :: (some (.builtin "object.__new__")) :: (some (.bool true)) :: []).toArray⟩
noncomputable def o63 (p : Program) (P : Params) : Obj := ⟨(.type "code"), none, (.fields ((.str (PySem.Str.ofString "guess_scheme") 244) :: (.str (PySem.Str.ofString "guess_scheme") 245) :: (.str (PySem.Str.ofString "/claim/cut.py") 246) :: (.int (21) 0) :: (.int (1) 0) :: (.int (0) 0) :: (.int (0) 0) :: (.int (3) 0) :: (.ref (nat_lit 58)) :: (.bool true) :: (.int (181) 0) :: (.ref (nat_lit 59)) :: .none :: (.ref (nat_lit 60)) :: (.ref (nat_lit 61)) :: (.ref (nat_lit 62)) :: (.int (248) 0) :: (.int (21) 0) :: (.str (PySem.Str.ofString "/claim/cut.py") 249) :: []).toArray), ([]).toArray⟩
noncomputable def o64 (p : Program) (P : Params) : Obj := ⟨(.type "function"), none, (.func (fnS (PySem.Str.ofString "guess_scheme") (PySem.Str.ofString "guess_scheme") (topS p 3) .none .none .none (.str (PySem.Str.ofString "cpy313.wsgiref.util") 194) none (.ref (nat_lit 63)) .none)), ([]).toArray⟩
noncomputable def o70 (p : Program) (P : Params) : Obj := ⟨(.type "code"), none, (.fields ((.str (PySem.Str.ofString "_whence") 253) :: (.str (PySem.Str.ofString "_whence") 254) :: (.str (PySem.Str.ofString "/claim/cut.py") 255) :: (.int (27) 0) :: (.int (2) 0) :: (.int (0) 0) :: (.int (0) 0) :: (.int (3) 0) :: (.ref (nat_lit 65)) :: (.bool true) :: (.int (181) 0) :: (.ref (nat_lit 66)) :: .none :: (.ref (nat_lit 67)) :: (.ref (nat_lit 68)) :: (.ref (nat_lit 69)) :: (.int (258) 0) :: (.int (27) 0) :: (.str (PySem.Str.ofString "/claim/cut.py") 259) :: []).toArray), ([]).toArray⟩
noncomputable def o71 (p : Program) (P : Params) : Obj := ⟨(.type "function"), none, (.func (fnS (PySem.Str.ofString "_whence") (PySem.Str.ofString "_whence") (topS p 5) .none .none .none (.str (PySem.Str.ofString "io") 251) none (.ref (nat_lit 70)) .none)), ([]).toArray⟩
noncomputable def o77 (p : Program) (P : Params) : Obj := ⟨(.type "code"), none, (.fields ((.str (PySem.Str.ofString "_index") 261) :: (.str (PySem.Str.ofString "_index") 262) :: (.str (PySem.Str.ofString "/claim/cut.py") 263) :: (.int (32) 0) :: (.int (2) 0) :: (.int (0) 0) :: (.int (0) 0) :: (.int (3) 0) :: (.ref (nat_lit 72)) :: (.bool true) :: (.int (181) 0) :: (.ref (nat_lit 73)) :: .none :: (.ref (nat_lit 74)) :: (.ref (nat_lit 75)) :: (.ref (nat_lit 76)) :: (.int (266) 0) :: (.int (32) 0) :: (.str (PySem.Str.ofString "/claim/cut.py") 267) :: []).toArray), ([]).toArray⟩
noncomputable def o78 (p : Program) (P : Params) : Obj := ⟨(.type "function"), none, (.func (fnS (PySem.Str.ofString "_index") (PySem.Str.ofString "_index") (topS p 6) .none .none .none (.str (PySem.Str.ofString "io") 251) none (.ref (nat_lit 77)) .none)), ([]).toArray⟩
noncomputable def o104 (p : Program) (P : Params) : Obj := ⟨(.type "code"), none, (.fields ((.str (PySem.Str.ofString "__new__") 305) :: (.str (PySem.Str.ofString "IOBase.__new__") 306) :: (.str (PySem.Str.ofString "/claim/cut.py") 307) :: (.int (44) 0) :: (.int (1) 0) :: (.int (1) 0) :: (.int (0) 0) :: (.int (15) 0) :: (.ref (nat_lit 99)) :: (.bool true) :: (.int (181) 0) :: (.ref (nat_lit 100)) :: .none :: (.ref (nat_lit 101)) :: (.ref (nat_lit 102)) :: (.ref (nat_lit 103)) :: (.int (311) 0) :: (.int (44) 0) :: (.str (PySem.Str.ofString "/claim/cut.py") 312) :: []).toArray), ([]).toArray⟩
noncomputable def o105 (p : Program) (P : Params) : Obj := ⟨(.type "function"), none, (.func (fnS (PySem.Str.ofString "__new__") (PySem.Str.ofString "IOBase.__new__") (clsS (topS p 8) 1) .none .none .none (.str (PySem.Str.ofString "io") 251) none (.ref (nat_lit 104)) .none)), ([]).toArray⟩
noncomputable def o107 (p : Program) (P : Params) : Obj := ⟨(.type "dict"), none, (.dict (kE P "__module__" 298 (.str (PySem.Str.ofString "io") 303) :: kE P "__firstlineno__" 302 (.int (41) 301) :: kE P "__new__" 313 (.ref (nat_lit 109)) :: kE P "__static_attributes__" 314 (.ref (nat_lit 106)) :: kE P "__dict__" 317 (.ref (nat_lit 110)) :: kE P "__weakref__" 319 (.ref (nat_lit 111)) :: kE P "__doc__" 320 .none :: []).toArray 4), ([]).toArray⟩
noncomputable def o108 (p : Program) (P : Params) : Obj := ⟨(.type "type"), none, (.cls { name := (PySem.Str.ofString "IOBase"), bases := ((.type "object") :: []), mro := ((.ref (nat_lit 108)) :: (.type "object") :: []), ns := (nat_lit 107), qualname := (PySem.Str.ofString "IOBase"), hasDict := true, slotNames := ([]), subclasses := ((.ref (nat_lit 123)) :: (.ref (nat_lit 135)) :: []), abstract := false, collection := none, hasDel := false }), (none :: none :: (some (.str (PySem.Str.ofString "IOBase") 291)) :: (some (.str (PySem.Str.ofString "IOBase") 299)) :: (some .none) :: (some (.bool true)) :: []).toArray⟩
noncomputable def o109 (p : Program) (P : Params) : Obj := ⟨(.type "staticmethod"), none, (.fields ((.ref (nat_lit 105)) :: []).toArray), ([]).toArray⟩
noncomputable def o122 (p : Program) (P : Params) : Obj := ⟨(.type "dict"), none, (.dict (kE P "__module__" 330 (.str (PySem.Str.ofString "io") 335) :: kE P "__firstlineno__" 334 (.int (48) 333) :: kE P "__static_attributes__" 337 (.ref (nat_lit 121)) :: kE P "__doc__" 338 .none :: []).toArray 2), ([]).toArray⟩
noncomputable def o123 (p : Program) (P : Params) : Obj := ⟨(.type "type"), none, (.cls { name := (PySem.Str.ofString "BufferedIOBase"), bases := ((.ref (nat_lit 108)) :: []), mro := ((.ref (nat_lit 123)) :: (.ref (nat_lit 108)) :: (.type "object") :: []), ns := (nat_lit 122), qualname := (PySem.Str.ofString "BufferedIOBase"), hasDict := true, slotNames := ([]), subclasses := ((.ref (nat_lit 365)) :: []), abstract := false, collection := none, hasDel := false }), ((some (.ref (nat_lit 114))) :: none :: (some (.str (PySem.Str.ofString "BufferedIOBase") 323)) :: (some (.str (PySem.Str.ofString "BufferedIOBase") 331)) :: (some .none) :: (some (.bool true)) :: []).toArray⟩
noncomputable def o134 (p : Program) (P : Params) : Obj := ⟨(.type "dict"), none, (.dict (kE P "__module__" 348 (.str (PySem.Str.ofString "io") 353) :: kE P "__firstlineno__" 352 (.int (50) 351) :: kE P "__static_attributes__" 355 (.ref (nat_lit 133)) :: kE P "__doc__" 356 .none :: []).toArray 2), ([]).toArray⟩
noncomputable def o135 (p : Program) (P : Params) : Obj := ⟨(.type "type"), none, (.cls { name := (PySem.Str.ofString "TextIOBase"), bases := ((.ref (nat_lit 108)) :: []), mro := ((.ref (nat_lit 135)) :: (.ref (nat_lit 108)) :: (.type "object") :: []), ns := (nat_lit 134), qualname := (PySem.Str.ofString "TextIOBase"), hasDict := true, slotNames := ([]), subclasses := ((.ref (nat_lit 612)) :: []), abstract := false, collection := none, hasDel := false }), ((some (.ref (nat_lit 126))) :: none :: (some (.str (PySem.Str.ofString "TextIOBase") 341)) :: (some (.str (PySem.Str.ofString "TextIOBase") 349)) :: (some .none) :: (some (.bool true)) :: []).toArray⟩
noncomputable def o145 (p : Program) (P : Params) : Obj := ⟨(.type "tuple"), none, (.seq (.none :: []).toArray 0), ([]).toArray⟩
noncomputable def o151 (p : Program) (P : Params) : Obj := ⟨(.type "code"), none, (.fields ((.str (PySem.Str.ofString "__init__") 373) :: (.str (PySem.Str.ofString "BytesIO.__init__") 374) :: (.str (PySem.Str.ofString "/claim/cut.py") 375) :: (.int (55) 0) :: (.int (2) 0) :: (.int (0) 0) :: (.int (0) 0) :: (.int (3) 0) :: (.ref (nat_lit 146)) :: (.bool true) :: (.int (181) 0) :: (.ref (nat_lit 147)) :: .none :: (.ref (nat_lit 148)) :: (.ref (nat_lit 149)) :: (.ref (nat_lit 150)) :: (.int (378) 0) :: (.int (55) 0) :: (.str (PySem.Str.ofString "/claim/cut.py") 379) :: []).toArray), ([]).toArray⟩
noncomputable def o152 (p : Program) (P : Params) : Obj := ⟨(.type "function"), none, (.func (fnS (PySem.Str.ofString "__init__") (PySem.Str.ofString "BytesIO.__init__") (clsS (topS p 11) 1) (.ref (nat_lit 145)) .none .none (.str (PySem.Str.ofString "io") 251) none (.ref (nat_lit 151)) .none)), ([]).toArray⟩
noncomputable def o158 (p : Program) (P : Params) : Obj := ⟨(.type "code"), none, (.fields ((.str (PySem.Str.ofString "__check") 381) :: (.str (PySem.Str.ofString "BytesIO.__check") 382) :: (.str (PySem.Str.ofString "/claim/cut.py") 383) :: (.int (61) 0) :: (.int (1) 0) :: (.int (0) 0) :: (.int (0) 0) :: (.int (3) 0) :: (.ref (nat_lit 153)) :: (.bool true) :: (.int (181) 0) :: (.ref (nat_lit 154)) :: .none :: (.ref (nat_lit 155)) :: (.ref (nat_lit 156)) :: (.ref (nat_lit 157)) :: (.int (385) 0) :: (.int (61) 0) :: (.str (PySem.Str.ofString "/claim/cut.py") 386) :: []).toArray), ([]).toArray⟩
noncomputable def o159 (p : Program) (P : Params) : Obj := ⟨(.type "function"), none, (.func (fnS (PySem.Str.ofString "__check") (PySem.Str.ofString "BytesIO.__check") (clsS (topS p 11) 2) .none .none .none (.str (PySem.Str.ofString "io") 251) none (.ref (nat_lit 158)) .none)), ([]).toArray⟩
noncomputable def o180 (p : Program) (P : Params) : Obj := ⟨(.type "code"), none, (.fields ((.str (PySem.Str.ofString "close") 407) :: (.str (PySem.Str.ofString "BytesIO.close") 408) :: (.str (PySem.Str.ofString "/claim/cut.py") 409) :: (.int (82) 0) :: (.int (1) 0) :: (.int (0) 0) :: (.int (0) 0) :: (.int (3) 0) :: (.ref (nat_lit 175)) :: (.bool true) :: (.int (181) 0) :: (.ref (nat_lit 176)) :: .none :: (.ref (nat_lit 177)) :: (.ref (nat_lit 178)) :: (.ref (nat_lit 179)) :: (.int (411) 0) :: (.int (82) 0) :: (.str (PySem.Str.ofString "/claim/cut.py") 412) :: []).toArray), ([]).toArray⟩
noncomputable def o181 (p : Program) (P : Params) : Obj := ⟨(.type "function"), none, (.func (fnS (PySem.Str.ofString "close") (PySem.Str.ofString "BytesIO.close") (clsS (topS p 11) 5) .none .none .none (.str (PySem.Str.ofString "io") 251) none (.ref (nat_lit 180)) .none)), ([]).toArray⟩
noncomputable def o264 (p : Program) (P : Params) : Obj := ⟨(.type "code"), none, (.fields ((.str (PySem.Str.ofString "tell") 492) :: (.str (PySem.Str.ofString "BytesIO.tell") 493) :: (.str (PySem.Str.ofString "/claim/cut.py") 494) :: (.int (123) 0) :: (.int (1) 0) :: (.int (0) 0) :: (.int (0) 0) :: (.int (3) 0) :: (.ref (nat_lit 259)) :: (.bool true) :: (.int (181) 0) :: (.ref (nat_lit 260)) :: .none :: (.ref (nat_lit 261)) :: (.ref (nat_lit 262)) :: (.ref (nat_lit 263)) :: (.int (496) 0) :: (.int (123) 0) :: (.str (PySem.Str.ofString "/claim/cut.py") 497) :: []).toArray), ([]).toArray⟩
noncomputable def o265 (p : Program) (P : Params) : Obj := ⟨(.type "function"), none, (.func (fnS (PySem.Str.ofString "tell") (PySem.Str.ofString "BytesIO.tell") (clsS (topS p 11) 17) .none .none .none (.str (PySem.Str.ofString "io") 251) none (.ref (nat_lit 264)) .none)), ([]).toArray⟩
noncomputable def o266 (p : Program) (P : Params) : Obj := ⟨(.type "tuple"), none, (.seq ((.int (0) 499) :: []).toArray 0), ([]).toArray⟩
noncomputable def o272 (p : Program) (P : Params) : Obj := ⟨(.type "code"), none, (.fields ((.str (PySem.Str.ofString "seek") 500) :: (.str (PySem.Str.ofString "BytesIO.seek") 501) :: (.str (PySem.Str.ofString "/claim/cut.py") 502) :: (.int (127) 0) :: (.int (3) 0) :: (.int (3) 0) :: (.int (0) 0) :: (.int (3) 0) :: (.ref (nat_lit 267)) :: (.bool true) :: (.int (181) 0) :: (.ref (nat_lit 268)) :: .none :: (.ref (nat_lit 269)) :: (.ref (nat_lit 270)) :: (.ref (nat_lit 271)) :: (.int (506) 0) :: (.int (127) 0) :: (.str (PySem.Str.ofString "/claim/cut.py") 507) :: []).toArray), ([]).toArray⟩
noncomputable def o273 (p : Program) (P : Params) : Obj := ⟨(.type "function"), none, (.func (fnS (PySem.Str.ofString "seek") (PySem.Str.ofString "BytesIO.seek") (clsS (topS p 11) 18) (.ref (nat_lit 266)) .none .none (.str (PySem.Str.ofString "io") 251) none (.ref (nat_lit 272)) .none)), ([]).toArray⟩
noncomputable def o282 (p : Program) (P : Params) : Obj := ⟨(.type "tuple"), none, (.seq ((.int (-1) 518) :: []).toArray 0), ([]).toArray⟩
noncomputable def o288 (p : Program) (P : Params) : Obj := ⟨(.type "code"), none, (.fields ((.str (PySem.Str.ofString "read") 519) :: (.str (PySem.Str.ofString "BytesIO.read") 520) :: (.str (PySem.Str.ofString "/claim/cut.py") 521) :: (.int (147) 0) :: (.int (2) 0) :: (.int (2) 0) :: (.int (0) 0) :: (.int (3) 0) :: (.ref (nat_lit 283)) :: (.bool true) :: (.int (181) 0) :: (.ref (nat_lit 284)) :: .none :: (.ref (nat_lit 285)) :: (.ref (nat_lit 286)) :: (.ref (nat_lit 287)) :: (.int (526) 0) :: (.int (147) 0) :: (.str (PySem.Str.ofString "/claim/cut.py") 527) :: []).toArray), ([]).toArray⟩
noncomputable def o289 (p : Program) (P : Params) : Obj := ⟨(.type "function"), none, (.func (fnS (PySem.Str.ofString "read") (PySem.Str.ofString "BytesIO.read") (clsS (topS p 11) 20) (.ref (nat_lit 282)) .none .none (.str (PySem.Str.ofString "io") 251) none (.ref (nat_lit 288)) .none)), ([]).toArray⟩
noncomputable def o347 (p : Program) (P : Params) : Obj := ⟨(.type "code"), none, (.fields ((.str (PySem.Str.ofString "write") 590) :: (.str (PySem.Str.ofString "BytesIO.write") 591) :: (.str (PySem.Str.ofString "/claim/cut.py") 592) :: (.int (201) 0) :: (.int (2) 0) :: (.int (2) 0) :: (.int (0) 0) :: (.int (3) 0) :: (.ref (nat_lit 342)) :: (.bool true) :: (.int (181) 0) :: (.ref (nat_lit 343)) :: .none :: (.ref (nat_lit 344)) :: (.ref (nat_lit 345)) :: (.ref (nat_lit 346)) :: (.int (597) 0) :: (.int (201) 0) :: (.str (PySem.Str.ofString "/claim/cut.py") 598) :: []).toArray), ([]).toArray⟩
noncomputable def o348 (p : Program) (P : Params) : Obj := ⟨(.type "function"), none, (.func (fnS (PySem.Str.ofString "write") (PySem.Str.ofString "BytesIO.write") (clsS (topS p 11) 28) .none .none .none (.str (PySem.Str.ofString "io") 251) none (.ref (nat_lit 347)) .none)), ([]).toArray⟩
noncomputable def o364 (p : Program) (P : Params) : Obj := ⟨(.type "dict"), none, (.dict (kE P "__module__" 366 (.str (PySem.Str.ofString "_io") 371) :: kE P "__firstlineno__" 370 (.int (52) 369) :: kE P "__init__" 380 (.ref (nat_lit 152)) :: kE P "_BytesIO__check" 387 (.ref (nat_lit 159)) :: kE P "_BytesIO__line" 398 (.ref (nat_lit 166)) :: kE P "closed" 406 (.ref (nat_lit 174)) :: kE P "close" 413 (.ref (nat_lit 181)) :: kE P "__enter__" 420 (.ref (nat_lit 188)) :: kE P "__exit__" 428 (.ref (nat_lit 195)) :: kE P "readable" 435 (.ref (nat_lit 202)) :: kE P "writable" 442 (.ref (nat_lit 209)) :: kE P "seekable" 449 (.ref (nat_lit 216)) :: kE P "isatty" 456 (.ref (nat_lit 223)) :: kE P "flush" 463 (.ref (nat_lit 230)) :: kE P "fileno" 470 (.ref (nat_lit 237)) :: kE P "detach" 477 (.ref (nat_lit 244)) :: kE P "getvalue" 484 (.ref (nat_lit 251)) :: kE P "getbuffer" 491 (.ref (nat_lit 258)) :: kE P "tell" 498 (.ref (nat_lit 265)) :: kE P "seek" 508 (.ref (nat_lit 273)) :: kE P "truncate" 516 (.ref (nat_lit 281)) :: kE P "read" 528 (.ref (nat_lit 289)) :: kE P "read1" 538 (.ref (nat_lit 297)) :: kE P "readinto" 548 (.ref (nat_lit 304)) :: kE P "readinto1" 556 (.ref (nat_lit 311)) :: kE P "readline" 566 (.ref (nat_lit 319)) :: kE P "readlines" 574 (.ref (nat_lit 327)) :: kE P "__iter__" 581 (.ref (nat_lit 334)) :: kE P "__next__" 589 (.ref (nat_lit 341)) :: kE P "write" 599 (.ref (nat_lit 348)) :: kE P "writelines" 607 (.ref (nat_lit 355)) :: kE P "__repr__" 614 (.ref (nat_lit 362)) :: kE P "__static_attributes__" 617 (.ref (nat_lit 363)) :: kE P "__doc__" 618 .none :: []).toArray 2), ([]).toArray⟩
noncomputable def o365 (p : Program) (P : Params) : Obj := ⟨(.type "type"), none, (.cls { name := (PySem.Str.ofString "BytesIO"), bases := ((.ref (nat_lit 123)) :: []), mro := ((.ref (nat_lit 365)) :: (.ref (nat_lit 123)) :: (.ref (nat_lit 108)) :: (.type "object") :: []), ns := (nat_lit 364), qualname := (PySem.Str.ofString "BytesIO"), hasDict := true, slotNames := ([]), subclasses := ([]), abstract := false, collection := none, hasDel := false }), ((some (.ref (nat_lit 138))) :: none :: (some (.str (PySem.Str.ofString "BytesIO") 359)) :: (some (.str (PySem.Str.ofString "BytesIO") 367)) :: (some .none) :: (some (.bool true)) :: []).toArray⟩
noncomputable def o375 (p : Program) (P : Params) : Obj := ⟨(.type "tuple"), none, (.seq ((.str (PySem.Str.ofString "") 635) :: (.str (PySem.Str.ofString "\n") 636) :: []).toArray 0), ([]).toArray⟩
noncomputable def o381 (p : Program) (P : Params) : Obj := ⟨(.type "code"), none, (.fields ((.str (PySem.Str.ofString "__init__") 637) :: (.str (PySem.Str.ofString "StringIO.__init__") 638) :: (.str (PySem.Str.ofString "/claim/cut.py") 639) :: (.int (225) 0) :: (.int (3) 0) :: (.int (0) 0) :: (.int (0) 0) :: (.int (3) 0) :: (.ref (nat_lit 376)) :: (.bool true) :: (.int (181) 0) :: (.ref (nat_lit 377)) :: .none :: (.ref (nat_lit 378)) :: (.ref (nat_lit 379)) :: (.ref (nat_lit 380)) :: (.int (643) 0) :: (.int (225) 0) :: (.str (PySem.Str.ofString "/claim/cut.py") 644) :: []).toArray), ([]).toArray⟩
noncomputable def o382 (p : Program) (P : Params) : Obj := ⟨(.type "function"), none, (.func (fnS (PySem.Str.ofString "__init__") (PySem.Str.ofString "StringIO.__init__") (clsS (topS p 12) 1) (.ref (nat_lit 375)) .none .none (.str (PySem.Str.ofString "io") 251) none (.ref (nat_lit 381)) .none)), ([]).toArray⟩
noncomputable def o388 (p : Program) (P : Params) : Obj := ⟨(.type "code"), none, (.fields ((.str (PySem.Str.ofString "__translated") 646) :: (.str (PySem.Str.ofString "StringIO.__translated") 647) :: (.str (PySem.Str.ofString "/claim/cut.py") 648) :: (.int (238) 0) :: (.int (2) 0) :: (.int (0) 0) :: (.int (0) 0) :: (.int (3) 0) :: (.ref (nat_lit 383)) :: (.bool true) :: (.int (181) 0) :: (.ref (nat_lit 384)) :: .none :: (.ref (nat_lit 385)) :: (.ref (nat_lit 386)) :: (.ref (nat_lit 387)) :: (.int (652) 0) :: (.int (238) 0) :: (.str (PySem.Str.ofString "/claim/cut.py") 653) :: []).toArray), ([]).toArray⟩
noncomputable def o389 (p : Program) (P : Params) : Obj := ⟨(.type "function"), none, (.func (fnS (PySem.Str.ofString "__translated") (PySem.Str.ofString "StringIO.__translated") (clsS (topS p 12) 2) .none .none .none (.str (PySem.Str.ofString "io") 251) none (.ref (nat_lit 388)) .none)), ([]).toArray⟩
noncomputable def o611 (p : Program) (P : Params) : Obj := ⟨(.type "dict"), none, (.dict (kE P "__module__" 628 (.str (PySem.Str.ofString "_io") 633) :: kE P "__firstlineno__" 632 (.int (222) 631) :: kE P "__init__" 645 (.ref (nat_lit 382)) :: kE P "_StringIO__translated" 654 (.ref (nat_lit 389)) :: kE P "_StringIO__check" 661 (.ref (nat_lit 396)) :: kE P "_StringIO__check_dot" 668 (.ref (nat_lit 403)) :: kE P "_StringIO__line" 683 (.ref (nat_lit 410)) :: kE P "closed" 691 (.ref (nat_lit 418)) :: kE P "line_buffering" 699 (.ref (nat_lit 426)) :: kE P "newlines" 707 (.ref (nat_lit 434)) :: kE P "encoding" 715 (.ref (nat_lit 442)) :: kE P "errors" 723 (.ref (nat_lit 450)) :: kE P "close" 730 (.ref (nat_lit 457)) :: kE P "__enter__" 737 (.ref (nat_lit 464)) :: kE P "__exit__" 745 (.ref (nat_lit 471)) :: kE P "readable" 752 (.ref (nat_lit 478)) :: kE P "writable" 759 (.ref (nat_lit 485)) :: kE P "seekable" 766 (.ref (nat_lit 492)) :: kE P "isatty" 773 (.ref (nat_lit 499)) :: kE P "flush" 780 (.ref (nat_lit 506)) :: kE P "fileno" 787 (.ref (nat_lit 513)) :: kE P "detach" 794 (.ref (nat_lit 520)) :: kE P "getvalue" 801 (.ref (nat_lit 527)) :: kE P "tell" 808 (.ref (nat_lit 534)) :: kE P "seek" 818 (.ref (nat_lit 542)) :: kE P "truncate" 826 (.ref (nat_lit 550)) :: kE P "read" 838 (.ref (nat_lit 558)) :: kE P "readline" 848 (.ref (nat_lit 566)) :: kE P "readlines" 858 (.ref (nat_lit 574)) :: kE P "__iter__" 865 (.ref (nat_lit 581)) :: kE P "__next__" 873 (.ref (nat_lit 588)) :: kE P "write" 885 (.ref (nat_lit 595)) :: kE P "writelines" 893 (.ref (nat_lit 602)) :: kE P "__repr__" 900 (.ref (nat_lit 609)) :: kE P "__static_attributes__" 904 (.ref (nat_lit 610)) :: kE P "__doc__" 905 .none :: []).toArray 2), ([]).toArray⟩
noncomputable def o612 (p : Program) (P : Params) : Obj := ⟨(.type "type"), none, (.cls { name := (PySem.Str.ofString "StringIO"), bases := ((.ref (nat_lit 135)) :: []), mro := ((.ref (nat_lit 612)) :: (.ref (nat_lit 135)) :: (.ref (nat_lit 108)) :: (.type "object") :: []), ns := (nat_lit 611), qualname := (PySem.Str.ofString "StringIO"), hasDict := true, slotNames := ([]), subclasses := ([]), abstract := false, collection := none, hasDel := false }), ((some (.ref (nat_lit 368))) :: none :: (some (.str (PySem.Str.ofString "StringIO") 621)) :: (some (.str (PySem.Str.ofString "StringIO") 629)) :: (some .none) :: (some (.bool true)) :: []).toArray⟩
noncomputable def o620 (p : Program) (P : Params) : Obj := ⟨(.type "code"), none, (.fields ((.str (PySem.Str.ofString "setup_testing_defaults") 910) :: (.str (PySem.Str.ofString "setup_testing_defaults") 911) :: (.str (PySem.Str.ofString "/claim/cut.py") 912) :: (.int (428) 0) :: (.int (1) 0) :: (.int (0) 0) :: (.int (0) 0) :: (.int (3) 0) :: (.ref (nat_lit 615)) :: (.bool true) :: (.int (181) 0) :: (.ref (nat_lit 616)) :: .none :: (.ref (nat_lit 617)) :: (.ref (nat_lit 618)) :: (.ref (nat_lit 619)) :: (.int (914) 0) :: (.int (428) 0) :: (.str (PySem.Str.ofString "/claim/cut.py") 915) :: []).toArray), ([]).toArray⟩
noncomputable def o621 (p : Program) (P : Params) : Obj := ⟨(.type "function"), none, (.func (fnS (PySem.Str.ofString "setup_testing_defaults") (PySem.Str.ofString "setup_testing_defaults") (topS p 14) .none .none .none (.str (PySem.Str.ofString "cpy313.wsgiref.util") 908) none (.ref (nat_lit 620)) .none)), ([]).toArray⟩
noncomputable def o625 (p : Program) (P : Params) : Obj := ⟨(.type "code"), none, (.fields ((.str (PySem.Str.ofString "law") 919) :: (.str (PySem.Str.ofString "law") 920) :: (.str (PySem.Str.ofString "/claim/cut.py") 921) :: (.int (449) 0) :: (.int (1) 0) :: (.int (0) 0) :: (.int (0) 0) :: (.int (3) 0) :: (.ref (nat_lit 622)) :: (.bool true) :: (.int (181) 0) :: (.ref (nat_lit 623)) :: .none :: .none :: .none :: (.ref (nat_lit 624)) :: (.int (922) 0) :: (.int (449) 0) :: (.str (PySem.Str.ofString "/claim/cut.py") 923) :: []).toArray), ([]).toArray⟩
noncomputable def o626 (p : Program) (P : Params) : Obj := ⟨(.type "function"), none, (.func (fnS (PySem.Str.ofString "law") (PySem.Str.ofString "law") (topS p 16) .none .none .none (.str (PySem.Str.ofString "law_io0037_01") 917) none (.ref (nat_lit 625)) .none)), ([]).toArray⟩
noncomputable def KF (p : Program) (P : Params) : Frag :=
  (nat_lit 2, o2 p P) :: (nat_lit 3, o3 p P) :: (nat_lit 29, o29 p P) :: (nat_lit 35, o35 p P) :: (nat_lit 36, o36 p P) :: (nat_lit 42, o42 p P) :: (nat_lit 43, o43 p P) :: (nat_lit 49, o49 p P) :: (nat_lit 50, o50 p P) :: (nat_lit 52, o52 p P) :: (nat_lit 53, o53 p P) :: (nat_lit 63, o63 p P) :: (nat_lit 64, o64 p P) :: (nat_lit 70, o70 p P) :: (nat_lit 71, o71 p P) :: (nat_lit 77, o77 p P) :: (nat_lit 78, o78 p P) :: (nat_lit 104, o104 p P) :: (nat_lit 105, o105 p P) :: (nat_lit 107, o107 p P) :: (nat_lit 108, o108 p P) :: (nat_lit 109, o109 p P) :: (nat_lit 122, o122 p P) :: (nat_lit 123, o123 p P) :: (nat_lit 134, o134 p P) :: (nat_lit 135, o135 p P) :: (nat_lit 145, o145 p P) :: (nat_lit 151, o151 p P) :: (nat_lit 152, o152 p P) :: (nat_lit 158, o158 p P) :: (nat_lit 159, o159 p P) :: (nat_lit 180, o180 p P) :: (nat_lit 181, o181 p P) :: (nat_lit 264, o264 p P) :: (nat_lit 265, o265 p P) :: (nat_lit 266, o266 p P) :: (nat_lit 272, o272 p P) :: (nat_lit 273, o273 p P) :: (nat_lit 282, o282 p P) :: (nat_lit 288, o288 p P) :: (nat_lit 289, o289 p P) :: (nat_lit 347, o347 p P) :: (nat_lit 348, o348 p P) :: (nat_lit 364, o364 p P) :: (nat_lit 365, o365 p P) :: (nat_lit 375, o375 p P) :: (nat_lit 381, o381 p P) :: (nat_lit 382, o382 p P) :: (nat_lit 388, o388 p P) :: (nat_lit 389, o389 p P) :: (nat_lit 611, o611 p P) :: (nat_lit 612, o612 p P) :: (nat_lit 620, o620 p P) :: (nat_lit 621, o621 p P) :: (nat_lit 625, o625 p P) :: (nat_lit 626, o626 p P) :: []
noncomputable def K (P : Params) : Frag :=
  (nat_lit 2, o2 PySem.Challenge.pw_io0037_01 P) :: (nat_lit 3, o3 PySem.Challenge.pw_io0037_01 P) :: (nat_lit 29, o29 PySem.Challenge.pw_io0037_01 P) :: (nat_lit 35, o35 PySem.Challenge.pw_io0037_01 P) :: (nat_lit 36, o36 PySem.Challenge.pw_io0037_01 P) :: (nat_lit 42, o42 PySem.Challenge.pw_io0037_01 P) :: (nat_lit 43, o43 PySem.Challenge.pw_io0037_01 P) :: (nat_lit 49, o49 PySem.Challenge.pw_io0037_01 P) :: (nat_lit 50, o50 PySem.Challenge.pw_io0037_01 P) :: (nat_lit 52, o52 PySem.Challenge.pw_io0037_01 P) :: (nat_lit 53, o53 PySem.Challenge.pw_io0037_01 P) :: (nat_lit 63, o63 PySem.Challenge.pw_io0037_01 P) :: (nat_lit 64, o64 PySem.Challenge.pw_io0037_01 P) :: (nat_lit 70, o70 PySem.Challenge.pw_io0037_01 P) :: (nat_lit 71, o71 PySem.Challenge.pw_io0037_01 P) :: (nat_lit 77, o77 PySem.Challenge.pw_io0037_01 P) :: (nat_lit 78, o78 PySem.Challenge.pw_io0037_01 P) :: (nat_lit 104, o104 PySem.Challenge.pw_io0037_01 P) :: (nat_lit 105, o105 PySem.Challenge.pw_io0037_01 P) :: (nat_lit 107, o107 PySem.Challenge.pw_io0037_01 P) :: (nat_lit 108, o108 PySem.Challenge.pw_io0037_01 P) :: (nat_lit 109, o109 PySem.Challenge.pw_io0037_01 P) :: (nat_lit 122, o122 PySem.Challenge.pw_io0037_01 P) :: (nat_lit 123, o123 PySem.Challenge.pw_io0037_01 P) :: (nat_lit 134, o134 PySem.Challenge.pw_io0037_01 P) :: (nat_lit 135, o135 PySem.Challenge.pw_io0037_01 P) :: (nat_lit 145, o145 PySem.Challenge.pw_io0037_01 P) :: (nat_lit 151, o151 PySem.Challenge.pw_io0037_01 P) :: (nat_lit 152, o152 PySem.Challenge.pw_io0037_01 P) :: (nat_lit 158, o158 PySem.Challenge.pw_io0037_01 P) :: (nat_lit 159, o159 PySem.Challenge.pw_io0037_01 P) :: (nat_lit 180, o180 PySem.Challenge.pw_io0037_01 P) :: (nat_lit 181, o181 PySem.Challenge.pw_io0037_01 P) :: (nat_lit 264, o264 PySem.Challenge.pw_io0037_01 P) :: (nat_lit 265, o265 PySem.Challenge.pw_io0037_01 P) :: (nat_lit 266, o266 PySem.Challenge.pw_io0037_01 P) :: (nat_lit 272, o272 PySem.Challenge.pw_io0037_01 P) :: (nat_lit 273, o273 PySem.Challenge.pw_io0037_01 P) :: (nat_lit 282, o282 PySem.Challenge.pw_io0037_01 P) :: (nat_lit 288, o288 PySem.Challenge.pw_io0037_01 P) :: (nat_lit 289, o289 PySem.Challenge.pw_io0037_01 P) :: (nat_lit 347, o347 PySem.Challenge.pw_io0037_01 P) :: (nat_lit 348, o348 PySem.Challenge.pw_io0037_01 P) :: (nat_lit 364, o364 PySem.Challenge.pw_io0037_01 P) :: (nat_lit 365, o365 PySem.Challenge.pw_io0037_01 P) :: (nat_lit 375, o375 PySem.Challenge.pw_io0037_01 P) :: (nat_lit 381, o381 PySem.Challenge.pw_io0037_01 P) :: (nat_lit 382, o382 PySem.Challenge.pw_io0037_01 P) :: (nat_lit 388, o388 PySem.Challenge.pw_io0037_01 P) :: (nat_lit 389, o389 PySem.Challenge.pw_io0037_01 P) :: (nat_lit 611, o611 PySem.Challenge.pw_io0037_01 P) :: (nat_lit 612, o612 PySem.Challenge.pw_io0037_01 P) :: (nat_lit 620, o620 PySem.Challenge.pw_io0037_01 P) :: (nat_lit 621, o621 PySem.Challenge.pw_io0037_01 P) :: (nat_lit 625, o625 PySem.Challenge.pw_io0037_01 P) :: (nat_lit 626, o626 PySem.Challenge.pw_io0037_01 P) :: []
noncomputable def KA : List Addr := [2, 3, 29, 35, 36, 42, 43, 49, 50, 52, 53, 63, 64, 70, 71, 77, 78, 104, 105, 107, 108, 109, 122, 123, 134, 135, 145, 151, 152, 158, 159, 180, 181, 264, 265, 266, 272, 273, 282, 288, 289, 347, 348, 364, 365, 375, 381, 382, 388, 389, 611, 612, 620, 621, 625, 626]
theorem K_eq (P : Params) : KF PySem.Challenge.pw_io0037_01 P = K P := rfl

noncomputable def runG (ok : Thread → Bool) (st : SharedT → Thread → Option (SharedT × Thread)) : Nat → SharedT → Thread → Option SharedT
  | 0, _, _ => none
  | n + 1, s, t => match through t with
    | true => some s
    | false => match ok t with
      | false => none
      | true => match st s t with
        | some (s', t') => runG ok st n s' t'
        | none => none

theorem runG_top {tb : String → Option Builtin} {p : Program} {w : World} {n₀ : Nat} {ann : Option Value} : ∀ (n : Nat) (s s' : SharedT) (t : Thread),
    runG (stepOk n₀ ann) (stepT (denote tb) p w) n s t = some s' → topRun tb p w n₀ ann n s.abs t = some s'.abs
  | 0, _, _, _, h => by cases h
  | n + 1, s, s', t, h => by
    unfold runG at h
    unfold topRun
    cases e1 : through t with
    | true => rw [e1] at h; cases h; rfl
    | false =>
      rw [e1] at h
      cases e2 : stepOk n₀ ann t with
      | false => rw [e2] at h; cases h
      | true =>
        rw [e2] at h
        cases e3 : stepT (denote tb) p w s t with
        | none => rw [e3] at h; cases h
        | some r =>
          obtain ⟨s2, t2⟩ := r
          rw [e3] at h
          rw [stepT_spec e3]
          exact runG_top n s2 s' t2 h

noncomputable def layT : List Obj → Nat → BT → BT
  | [], _, t => t
  | o :: r, n, t => layT r (n + 1) (t.ins n o)
noncomputable def S0 (w : World) (os : OsState) : SharedT := ⟨layT (boot_heap w.params).objs.toList 0 .nil, 11, (boot_heap w.params).life, Array.mk [], boot_drawn, boot_toks, os⟩
theorem S0_abs (w : World) (os : OsState) : (S0 w os).abs = ⟨boot_heap w.params, Array.mk [], boot_drawn, boot_toks, os⟩ := by kernel_rfl

noncomputable def looseS : List Str := ["_wall", "FileWrapper", "guess_scheme", "_whence", "_index", "UnsupportedOperation", "IOBase", "BufferedIOBase", "TextIOBase", "BytesIO", "StringIO", "setup_testing_defaults"]

theorem check : ∀ w : World, (fun os => (runG (stepOk 11 (some (.ref 6))) (stepT (denote treeTable) PySem.Challenge.pw_io0037_01 w) 4400 (S0 w os) (topStub PySem.Challenge.pw_io0037_01)).map fun s =>
      ((staticsOk (importedModules PySem.Challenge.pw_io0037_01.main.body) (boot_heap w.params) s.abs.heap && namesBound PySem.Challenge.pw_io0037_01 s.abs.heap && gensDone s.abs && laidKept (boot_heap w.params) s.abs.heap),
        openSeen (view PySem.Challenge.pw_io0037_01 [16]) looseS (importedModules PySem.Challenge.pw_io0037_01.main.body) (fun _ => true) true s.abs,
        KA.map s.abs.heap.get?)) =
    fun _ => some (true, openGood (view PySem.Challenge.pw_io0037_01 [16]) looseS, (KF PySem.Challenge.pw_io0037_01 w.params).map fun p => some p.2) := by
  rw [PySem.W.Fast.te14364793385576792824, PySem.W.Fast.te11892475500146522536, PySem.W.Fast.te10156331382660048174, PySem.W.Fast.te6613529449190102663, PySem.W.Fast.te4187177175401517315, PySem.W.Fast.te5923862056798008813]
  intro w
  kernel_rfl
end

section
open PySem PySem.W PyProof.Rows
noncomputable def Yv (w : World) : List (Option Obj) := (K w.params).map fun p => some p.2
noncomputable def Yo (s : Shared) : List (Option Obj) := KA.map s.heap.get?

theorem leftZ (w : World) : ((boot_heap w.params).isNs mainGlobals && (Array.mk ([] : List GenState)).size == 0) = true := by kernel_rfl
theorem leftZ2 (w : World) : (boot_heap w.params).objs.size = 11 := by kernel_rfl
theorem leftZ3 (w : World) : (boot_heap w.params).nsMap mainGlobals "__annotations__" = some (.ref 6) := by kernel_rfl
theorem leftB (w : World) : ∃ os, fencedOpening treeTable PySem.Challenge.pw_io0037_01 w 4400 = some ⟨boot_heap w.params, Array.mk [], boot_drawn, boot_toks, os⟩ := by
  obtain ⟨s0, e, e'⟩ := Option.map_eq_some_iff.mp (boot_open (p := PySem.Challenge.pw_io0037_01) (N := 4400) (by kernel_rfl) (by decide +kernel) (fun s => by kernel_rfl) w)
  obtain ⟨h, gs, d, k, os⟩ := s0
  simp only [Prod.mk.injEq] at e'
  obtain ⟨rfl, rfl, rfl, rfl⟩ := e'
  exact ⟨os, e⟩
theorem leftG {p q : Program} {w : World} {N : Nat} {loose : List Str} {s0 : Shared} {sT : Shared} {n₀ : Nat} {ann : Option Value}
    (e : fencedOpening treeTable p w N = some s0) (z : (s0.heap.isNs mainGlobals && s0.gens.size == 0) = true) (z2 : s0.heap.objs.size = n₀) (z3 : s0.heap.nsMap mainGlobals "__annotations__" = ann)
    (r : topRun treeTable p w n₀ ann N s0 (topStub p) = some sT)
    (o1 : (staticsOk (importedModules p.main.body) s0.heap sT.heap && namesBound p sT.heap && gensDone sT && laidKept s0.heap sT.heap) = true)
    (o2 : openSeen q loose (importedModules p.main.body) (fun _ => true) true sT = openGood q loose) (o3 : Yo sT = Yv w) :
    (openEnds treeTable p w N).map (fun s => (openSeen q loose (importedModules p.main.body) (fun _ => true) true s, Yo s)) = some (openGood q loose, Yv w) := by
  unfold openEnds
  rw [e, Option.bind_some]
  unfold topFrom
  rw [z, z2, z3, r]
  simp only [Option.bind_some]
  rw [o1]
  simp only [Option.map_some]
  rw [o2, o3]
theorem left : LeftO PySem.Challenge.pw_io0037_01 (view PySem.Challenge.pw_io0037_01 [16]) looseS (fun _ => true) Yo Yv 4400 := fun w => by
  obtain ⟨os, e⟩ := leftB w
  obtain ⟨sT, hr, ho⟩ := Option.map_eq_some_iff.mp (congrFun (check w) os)
  have r := runG_top _ _ _ _ hr
  rw [S0_abs] at r
  generalize sT.abs = sA at ho r
  obtain ⟨o1, o23⟩ := Prod.mk.inj ho
  obtain ⟨o2, o3⟩ := Prod.mk.inj o23
  exact leftG e (leftZ w) (leftZ2 w) (leftZ3 w) r o1 o2 o3

theorem KA_eq (P : Params) : KA = (K P).map (·.1) := by kernel_rfl

theorem saysK (w : World) (s : Shared) (e : Yo s = Yv w) : InK K w s.heap := InK.of KA_eq w s e

/-- What the top's run leaves, as the walk uses it. -/
noncomputable abbrev qv : Program := view PySem.Challenge.pw_io0037_01 [16]
noncomputable abbrev Lz : List Str := looseW qv looseS

theorem lawAt (P : Params) : nsIn (K P) mainGlobals "law" = some (some (.ref 626)) := by kernel_rfl


end

section
open PySem PySem.W PyProof.Rows
noncomputable abbrev pwS : Program := PySem.Challenge.pw_io0037_01

theorem fillK : (fun (_ : OpenLaw) (_ : Params → Frag) => True) PySem.Challenge.rw_io0037_01 K := by
  k_fill
  trivial

/-- the BytesIO object's own dict -/
noncomputable abbrev sD (P : Params) (BA : Addr) (p : Int) (t1 t2 t3 : Tok) : Obj :=
  dictOf [⟨PyData.keyHash P "_BytesIO__buf", .str "_BytesIO__buf" t1, .ref BA⟩, ⟨PyData.keyHash P "_BytesIO__pos", .str "_BytesIO__pos" t2, .int p t3⟩] 2

theorem news_more {h₀ h : Heap} {L : Addr} {news : List (Addr × Obj)} {x : Addr × Obj} (N : News h₀ L h news) (hx : x ∈ news) : News h₀ L h (x :: news) :=
  fun q hq => (List.mem_cons.mp hq).elim (fun e => e ▸ N x hx) (N q)
theorem news_less {h₀ h : Heap} {L : Addr} {news : List (Addr × Obj)} {x : Addr × Obj} (N : News h₀ L h (x :: news)) : News h₀ L h news :=
  fun q hq => N q (List.mem_cons_of_mem _ hq)

section
variable {w : World} {mean : ExcName → Option Value} {mg mb : Str → Option Value} {dp un : Nat} {gd : Option (List Code)} {cn : Str} {cs : Scope} {a : Addr} {ccd : Value} {cl : List (Str × Addr)} {outer : List Env} {A₀ : Around} {base h₀ : Heap} {L : Addr} {m : Str → Option Value} {s : Shared} {Q E : Value → Shared → Prop}
  (B : Below A₀ base outer h₀) (X : (K w.params).In h₀) (T : Top qv Lz mean mg mb h₀) (hk : cs.kind = .function) (hd : dp + 5 < recursionLimit) (hu : un + 40 < cLine) (F : Fr h₀ L s.heap m)
  {rest : List (Addr × Obj)} {S DS BA : Addr} {p : Int} {t1 t2 t3 : Tok}
include B X T hk hd hu F

set_option maxHeartbeats 1000000 in
theorem check_spec {news : List (Addr × Obj)} (hS : (S, instObj 365 DS) ∈ news) (hD : (DS, sD w.params BA p t1 t2 t3) ∈ news) (N : News h₀ L s.heap news)
    (hret : ∀ h' tk', Fr h₀ L h' m → News h₀ L h' news → Q .none { s with heap := h', toks := tk' }) :
    wpAny (model pwS w) (ktrTop dp un gd cn cs L a ccd cl outer) (call (.ref 159) [.ref S]) Q E s := by
  replace N := news_more (news_more N hS) (List.mem_cons_of_mem _ hD)
  refine wpAny_call ?_
  k_dflt cell_enter
  k_steps
  all_goals exact hret _ _ (by assumption) (news_less (news_less (by assumption)))

set_option maxHeartbeats 1000000 in
theorem index_spec {n : Int} {t4 t5 : Tok} {x : Str} (h1 : -1099511627776 ≤ n) (h2 : n ≤ 1099511627776) (N : News h₀ L s.heap rest)
    (hret : ∀ h' tk' t', Fr h₀ L h' m → News h₀ L h' rest → Q (.int n t') { s with heap := h', toks := tk' }) :
    wpAny (model pwS w) (ktrTop dp un gd cn cs L a ccd cl outer) (call (.ref 78) [.int n t4, .str x t5]) Q E s := by
  refine wpAny_call ?_
  k_dflt cell_enter
  k_steps
  all_goals exact hret _ _ _ (by assumption) (by assumption)
end
end

section
open PySem PySem.W PyProof.Rows
local macro_rules | `(tactic| walk_at "call ref") => `(tactic| (k_here; k_dflt (refine' check_spec ?B ?X ?T ?hk ?hd ?hu ?F ?hS ?hD ?N ?_; (case B => k_asm); (case X => k_asm); (case T => k_asm); (case hk => first | exact rfl | assumption); (case F => k_asm); (case N => k_asm); (case hS => k_mem); (case hD => k_mem); (case hd => dsimp only [ktrTop]; omega); (case hu => dsimp only [ktrTop]; omega)); intro h' tk' F' N'; (try dsimp only)))
local macro_rules | `(tactic| walk_at "call ref") => `(tactic| (k_here; k_dflt (refine' index_spec ?B ?X ?T ?hk ?hd ?hu ?F ?h1 ?h2 ?N ?_; (case B => k_asm); (case X => k_asm); (case T => k_asm); (case hk => first | exact rfl | assumption); (case F => k_asm); (case N => k_asm); (case h1 => omega); (case h2 => omega); (case hd => dsimp only [ktrTop]; omega); (case hu => dsimp only [ktrTop]; omega)); intro h' tk' t' F' N'; (try dsimp only)))

section
variable {w : World} {mean : ExcName → Option Value} {mg mb : Str → Option Value} {dp un : Nat} {gd : Option (List Code)} {cn : Str} {cs : Scope} {a : Addr} {ccd : Value} {cl : List (Str × Addr)} {outer : List Env} {A₀ : Around} {base h₀ : Heap} {L : Addr} {m : Str → Option Value} {s : Shared} {Q E : Value → Shared → Prop}
  (B : Below A₀ base outer h₀) (X : (K w.params).In h₀) (T : Top qv Lz mean mg mb h₀) (hk : cs.kind = .function) (hd : dp + 6 < recursionLimit) (hu : un + 50 < cLine) (F : Fr h₀ L s.heap m)
  {rest : List (Addr × Obj)} {S DS BA : Addr} {p : Int} {t1 t2 t3 : Tok}
include B X T hk hd hu F

set_option maxHeartbeats 1000000 in
theorem tell_spec {news : List (Addr × Obj)} (hS : (S, instObj 365 DS) ∈ news) (hD : (DS, sD w.params BA p t1 t2 t3) ∈ news) (N : News h₀ L s.heap news)
    (hret : ∀ h' tk' t', Fr h₀ L h' m → News h₀ L h' news → Q (.int p t') { s with heap := h', toks := tk' }) :
    wpAny (model pwS w) (ktrTop dp un gd cn cs L a ccd cl outer) (call (.ref 265) [.ref S]) Q E s := by
  replace N := news_more (news_more N hS) (List.mem_cons_of_mem _ hD)
  refine wpAny_call ?_
  k_dflt cell_enter
  k_steps
  rw [Int.add_zero]
  exact hret _ _ _ (by assumption) (news_less (news_less (by assumption)))

set_option maxHeartbeats 1000000 in
theorem whence_spec {n : Int} {t4 t5 : Tok} {x : Str} (h1 : -2147483648 ≤ n) (h2 : n ≤ 2147483647) (N : News h₀ L s.heap rest)
    (hret : ∀ h' tk' t', Fr h₀ L h' m → News h₀ L h' rest → Q (.int n t') { s with heap := h', toks := tk' }) :
    wpAny (model pwS w) (ktrTop dp un gd cn cs L a ccd cl outer) (call (.ref 71) [.int n t4, .str x t5]) Q E s := by
  refine wpAny_call ?_
  k_dflt cell_enter
  k_steps
  all_goals exact hret _ _ _ (by assumption) (by assumption)
end
end

section
open PySem PySem.W PyProof.Rows
local macro_rules | `(tactic| walk_at "call ref") => `(tactic| (k_here; k_dflt (refine' check_spec ?B ?X ?T ?hk ?hd ?hu ?F ?hS ?hD ?N ?_; (case B => k_asm); (case X => k_asm); (case T => k_asm); (case hk => first | exact rfl | assumption); (case F => k_asm); (case N => k_asm); (case hS => k_mem); (case hD => k_mem); (case hd => dsimp only [ktrTop]; omega); (case hu => dsimp only [ktrTop]; omega)); intro h' tk' F' N'; (try dsimp only)))
local macro_rules | `(tactic| walk_at "call ref") => `(tactic| (k_here; k_dflt (refine' index_spec ?B ?X ?T ?hk ?hd ?hu ?F ?h1 ?h2 ?N ?_; (case B => k_asm); (case X => k_asm); (case T => k_asm); (case hk => first | exact rfl | assumption); (case F => k_asm); (case N => k_asm); (case h1 => omega); (case h2 => omega); (case hd => dsimp only [ktrTop]; omega); (case hu => dsimp only [ktrTop]; omega)); intro h' tk' t' F' N'; (try dsimp only)))
local macro_rules | `(tactic| k_all) => `(tactic| assumption)
local macro_rules | `(tactic| walk_at "my enter") => `(tactic| (refine' code_def ?k1 ?k2 ?k3 ?k4 ?k5 ?kA ?kF ?kK ?k6 ?k7 ?k8 ?k9 ?kB ?_ ?c2 ?c3 ?c4 ?c5; (case kA => exact rfl); (case kF => exact rfl); (case kK => assumption); (case k1 => k_asm); (case k2 => k_asm); (case k3 => k_asm); (case k4 => k_asm); (case k5 => k_asm); (case k6 => k_is); (case k7 => k_is); (case k8 => dsimp only [ktrTop]; omega); (case k9 => first | exact BindsTo.of_eq rfl | exact binds_K (by k_in) rfl (by k_is) rfl rfl rfl); (case c5 => decide); (case kB => exact locs rfl); (case c2 => exact rfl); (case c3 => exact rfl); (case c4 => exact rfl); k_whole; intro g' L' h' FG' F' N' B' X' T'; (try dsimp only); (try k_lift B'); (try k_fold)))
section
open PySem PySem.W PyProof.Rows

local macro_rules | `(tactic| walk_at "call ref") => `(tactic| (k_here; k_dflt (refine' whence_spec ?B ?X ?T ?hk ?hd ?hu ?F ?h1 ?h2 ?N ?_; (case B => k_asm); (case X => k_asm); (case T => k_asm); (case hk => first | exact rfl | assumption); (case F => k_asm); (case N => k_asm); (case h1 => omega); (case h2 => omega); (case hd => dsimp only [ktrTop]; omega); (case hu => dsimp only [ktrTop]; omega)); intro h' tk' t' F' N'; (try dsimp only)))


theorem news_in {h₀ h : Heap} {L : Addr} {rest : List (Addr × Obj)} {x y : Addr × Obj} (N : News h₀ L h (x :: rest)) (hy : y ∈ rest) : News h₀ L h (x :: y :: rest) := fun q hq => by
  rcases List.mem_cons.mp hq with rfl | hq
  · exact N _ (.head _)
  · rcases List.mem_cons.mp hq with rfl | hq
    · exact N _ (.tail _ hy)
    · exact N _ (.tail _ hq)
theorem news_swap {h₀ h : Heap} {L : Addr} {rest : List (Addr × Obj)} {x y : Addr × Obj} (N : News h₀ L h (x :: y :: rest)) : News h₀ L h (x :: rest) := fun q hq => by
  rcases List.mem_cons.mp hq with rfl | hq
  · exact N _ (.head _)
  · exact N _ (.tail _ (.tail _ hq))

section
variable {w : World} {mean : ExcName → Option Value} {mg mb : Str → Option Value} {dp un : Nat} {gd : Option (List Code)} {cn : Str} {cs : Scope} {a : Addr} {ccd : Value} {cl : List (Str × Addr)} {outer : List Env} {A₀ : Around} {base h₀ : Heap} {L : Addr} {m : Str → Option Value} {s : Shared} {Q E : Value → Shared → Prop}
  (B : Below A₀ base outer h₀) (X : (K w.params).In h₀) (T : Top qv Lz mean mg mb h₀) (hk : cs.kind = .function) (hd : dp + 7 < recursionLimit) (hu : un + 60 < cLine) (F : Fr h₀ L s.heap m)
  {rest : List (Addr × Obj)} {S DS BA : Addr} {p : Int} {t1 t2 t3 : Tok}
include B X T hk hd hu F


set_option maxHeartbeats 2000000 in
theorem seek_spec {n : Int} {t4 : Tok} (h1 : 0 ≤ n) (h2 : n ≤ 1000000) (hS : (S, instObj 365 DS) ∈ rest) (hne : ∀ q ∈ rest, q.1 ≠ DS) (N : News h₀ L s.heap ((DS, sD w.params BA p t1 t2 t3) :: rest))
    (hret : ∀ h' tk' t' t3', Fr h₀ L h' m → News h₀ L h' ((DS, sD w.params BA n t1 t2 t3') :: rest) → Q (.int n t') { s with heap := h', toks := tk' }) :
    wpAny (model pwS w) (ktrTop dp un gd cn cs L a ccd cl outer) (call (.ref 273) [.ref S, .int n t4]) Q E s := by
  have hSD : S ≠ DS := hne _ hS
  replace N := news_in N hS
  refine wpAny_call ?_
  k_dflt (walk_at "my enter")
  k_steps
  rw [Int.add_zero]
  exact hret _ _ _ _ (by assumption) (news_swap (by assumption))

end
end

section
open PySem PySem.W PyProof.Rows PySem.Calls
/-! Rules for bytearray -/
noncomputable abbrev baO (d : Array UInt8) : Obj := { cls := .type "bytearray", data := .bytearray d 0 }

theorem slot_ba_len : Slot "bytearray" "__len__" "bytearray.__len__" :=
  .of (owner := "bytearray") (n := "__len__") (by rw [typeLookup_type, builtinLookup_eq_fast]; kernel_rfl) (by decide +kernel) (by decide +kernel) (by decide +kernel)
    (by first | exact .inl (by decide +kernel) | exact .inr (by decide +kernel)) (by rw [isSubtype_type]; kernel_rfl)
theorem entry_ba_len : entryFor table "bytearray.__len__" = some Builtin.«bytearray.__len__» := by first | exact entryFor_of_fast (by kernel_rfl) | exact entryFor_of_tree (by kernel_rfl)
theorem args_ba_len (a : Value) : argsOk "bytearray.__len__" ⟨[a], []⟩ := by unfold argsOk; kernel_rfl
theorem ba_no_bytes : typeLookup (.type "bytearray") "__bytes__" = pure none := by rw [typeLookup_type, builtinLookup_eq_fast]; kernel_rfl
theorem ba_no_index : typeLookup (.type "bytearray") "__index__" = pure none := by rw [typeLookup_type, builtinLookup_eq_fast]; kernel_rfl
theorem ba_buffer : typeLookup (.type "bytearray") "__buffer__" = pure (some (.builtin "bytearray.__buffer__")) := by rw [typeLookup_type, builtinLookup_eq_fast]; kernel_rfl
theorem ba_release : typeLookup (.type "bytearray") "__release_buffer__" = pure (some (.builtin "bytearray.__release_buffer__")) := by rw [typeLookup_type, builtinLookup_eq_fast]; kernel_rfl
theorem ba_sub : isSubtype (.type "bytearray") (.type "bytearray") = pure true := by rw [isSubtype_type]; kernel_rfl

section
variable {prog : Program} {w : World} {A : Around} {E : Value → Shared → Prop} {s : Shared} {a : Addr} {d : Array UInt8}
theorem ba_T (h : s.heap.get? a = some (baO d)) : s.TypeIs (.ref a) "bytearray" := ⟨_, h, rfl⟩
theorem ba_payload {Q : Array UInt8 → Shared → Prop} (h : s.heap.get? a = some (baO d)) (q : Q d s) : wpAny (model prog w) A (Builtin.Bytes.payload (.ref a)) Q E s := by
  unfold Builtin.Bytes.payload Builtin.Bytes.payload?
  exact wpAny_bind (wpAny_bind (wpAny_load h (wpAny_pure (wpAny_pure q))))
theorem ba_len {Q : Value → Shared → Prop} (h : s.heap.get? a = some (baO d)) (hz : d.size < 2 ^ 62) (q : Q (.int d.size (s.toks + 1)) { s with toks := s.toks + 1 + 1 }) :
    wpAny (model prog w) A (call (.builtin "len") [.ref a]) Q E s := by
  refine call_len_slot (ba_T h) slot_ba_len (fun Q' q' => ?_) (by omega) (by omega) q
  refine wpAny_call_entry slot_ba_len (ba_T h) entry_ba_len ?_ (args_ba_len _)
  show wpAny _ _ (Builtin.Bytes.payload (.ref a) >>= _) _ _ _
  exact wpAny_bind (ba_payload h (wpAny_bind (wpAny_mkInt (wpAny_pure ⟨_, rfl, q'⟩))))
theorem ba_own {n id : String} {Q : Bool → Shared → Prop} (h : s.heap.get? a = some (baO d)) (hl : typeLookup (.type "bytearray") (Str.ofString n) = pure (some (.builtin id))) (hid : (!id.endsWith ("." ++ n)) = false) (ho : id.dropRight (n.length + 1) = "bytearray") (q : Q true s) :
    wpAny (model prog w) A (Builtin.Bytes.slotIsOwn (.ref a) n) Q E s := by
  unfold Builtin.Bytes.slotIsOwn
  refine wpAny_bind (wpAny_specialOf (ba_T h) hl ?_)
  refine bm_if_false hid ?_
  rw [ho]
  exact wpAny_isInstance (ba_T h) ba_sub q
theorem ba_ownRel {Q : Bool → Shared → Prop} (h : s.heap.get? a = some (baO d)) (q : Q false s) : wpAny (model prog w) A (Builtin.Bytes.ownRelease (.ref a)) Q E s := by
  unfold Builtin.Bytes.ownRelease
  exact wpAny_bind (ba_own (n := "__release_buffer__") h ba_release (by decide +kernel) (by decide +kernel) (wpAny_pure q))
theorem ba_bufferQ {id : String} {full : Bool} {Q : Option (Array UInt8) → Shared → Prop} (h : s.heap.get? a = some (baO d)) (q : Q (some d) s) :
    wpAny (model prog w) A (Builtin.Bytes.buffer? id (.ref a) full) Q E s := by
  unfold Builtin.Bytes.buffer?
  refine wpAny_bind (wpAny_specialOf (ba_T h) ba_buffer ?_)
  dsimp only
  refine wpAny_bind (ba_own (n := "__buffer__") h ba_buffer (by decide +kernel) (by decide +kernel) ?_)
  refine bm_if_false rfl ?_
  refine wpAny_bind (wpAny_specialOf (ba_T h) ba_buffer ?_)
  refine wpAny_bind (ba_ownRel h ?_)
  refine bm_if_false rfl ?_
  exact wpAny_bind (ba_payload h (wpAny_pure q))
theorem bytes_of_ba {Q : Value → Shared → Prop} (h : s.heap.get? a = some (baO d)) (hz : d.size ≤ sizeLine) (q : ∀ t k, Q (.bytes d t) { s with toks := k }) :
    wpAny (model prog w) A (call (.type "bytes") [.ref a]) Q E s := by
  refine callType_codes (Q₁ := fun obj s₁ => s₁.TypeIs obj "bytes" ∧ Q obj s₁) F.bm_called (F.bm_typeCall _) F.entry_object_init ?_ fun obj s₁ h₁ => ?_
  · refine codeAny_of_tree ?_
    show wpAny _ A.in1.in1 (do checkBuiltinCall "bytes.__new__" ⟨[.type "bytes", .ref a], []⟩; again (.builtin "bytes.__new__" ⟨[.type "bytes", .ref a], []⟩)) _ _ s
    refine wpAny_bind (wpAny_of_eq (F.bm_newCall _) (wpAny_pure ⟨plainId_quiet F.bm_plain _, codeAny_builtin F.bm_entry ?_⟩))
    rw [Around.under_plainId F.bm_plain _]
    unfold Builtin.«bytes.__new__»
    refine wpAny_bind (wpAny_of_eq (a := true) rfl ?_)
    refine bm_if_false rfl ?_
    refine wpAny_bind (wpAny_of_eq F.bm_sub ?_)
    refine bm_if_false rfl ?_
    refine wpAny_bind (wpAny_of_eq (F.bm_bind _) ?_)
    refine wpAny_bind (wpAny_of_eq (a := ()) rfl ?_)
    refine wpAny_bind (wpAny_of_eq (a := ()) rfl ?_)
    refine bm_if_false rfl ?_
    refine wpAny_bind (wpAny_specialOf (ba_T h) ba_no_bytes ?_)
    refine wpAny_bind (wpAny_bind ?_)
    show wpAny _ _ (load a >>= _) _ _ _
    refine wpAny_bind (wpAny_load h ?_)
    refine wpAny_pure (wpAny_pure ?_)
    refine bm_if_false rfl ?_
    refine wpAny_bind (wpAny_specialOf (ba_T h) ba_no_index ?_)
    refine bm_if_true rfl ?_
    first
      | show wpAny _ _ (Builtin.Bytes.buffer? "bytes.__new__" (.ref a) true >>= _) _ _ _
      | (refine wpAny_bind ?_; show wpAny _ _ (Builtin.Bytes.buffer? "bytes.__new__" (.ref a) true >>= _) _ _ _)
    refine wpAny_bind (ba_bufferQ h ?_)
    refine wpAny_bind (wpAny_rule ?_)
    refine wpAny_bind (wpAny_mkBytes ?_ hz)
    show wpAny _ _ (if (Value.type "bytes" == Value.type "bytes") = true then _ else _) _ _ _
    refine bm_if_true (by decide) ?_
    first
      | exact wpAny_pure ⟨_, rfl, PySem.W.typeIs_bytes _ _ _, q _ _⟩
      | exact wpAny_pure ⟨PySem.W.typeIs_bytes _ _ _, q _ _⟩
      | exact wpAny_bind (wpAny_pure (wpAny_pure ⟨PySem.W.typeIs_bytes _ _ _, q _ _⟩))
      | trace_state
  · exact ⟨h₁.1, F.args_object_init_2 obj _, object_init_meets F.bm_called.init.lookup F.bm_called.made (by decide) prog w A.in1 _ s₁ ⟨h₁.1, rfl, h₁.2⟩⟩
end
end

section
open PySem PySem.W PyProof.Rows PySem.Calls
theorem slot_ba_get : Slot "bytearray" "__getitem__" "bytearray.__getitem__" :=
  .of (owner := "bytearray") (n := "__getitem__") (by rw [typeLookup_type, builtinLookup_eq_fast]; kernel_rfl) (by decide +kernel) (by decide +kernel) (by decide +kernel)
    (by first | exact .inl (by decide +kernel) | exact .inr (by decide +kernel)) (by rw [isSubtype_type]; kernel_rfl)
theorem entry_ba_get : entryFor table "bytearray.__getitem__" = some Builtin.«bytearray.__getitem__» := by first | exact entryFor_of_fast (by kernel_rfl) | exact entryFor_of_tree (by kernel_rfl)
theorem args_ba_get (a b : Value) : argsOk "bytearray.__getitem__" ⟨[a, b], []⟩ := by unfold argsOk; kernel_rfl

theorem ext_range {α : Type} (d : Array α) : ∀ (k x : Nat), x + k ≤ d.size → ((List.range k).map (x + ·)).filterMap (d[·]?) = (d.toList.drop x).take k
  | 0, x, _ => by simp
  | k + 1, x, h => by
    rw [List.range_succ_eq_map, List.map_cons, List.filterMap_cons]
    have hx : x < d.size := by omega
    rw [Nat.add_zero, Array.getElem?_eq_getElem hx]
    have e : (d.toList.drop x) = d[x] :: d.toList.drop (x + 1) := by
      rw [List.drop_eq_getElem_cons (by simpa using hx)]
      simp
    rw [e, List.take_succ_cons, ← ext_range d k (x + 1) (by omega)]
    have e2 : List.map (fun y => x + y) (List.map Nat.succ (List.range k)) = List.map (fun y => x + 1 + y) (List.range k) := by
      rw [List.map_map]
      apply List.map_congr_left
      intro a _
      simp only [Function.comp]
      omega
    rw [e2]
theorem sliced_extract (d : Array UInt8) {x y : Int} (hx : 0 ≤ x) (hxy : x ≤ y) (hy : y ≤ d.size) :
    Builtin.Bytes.sliced d (sliceBounds (some x) (some y) none d.size).1 (sliceBounds (some x) (some y) none d.size).2.1 (sliceBounds (some x) (some y) none d.size).2.2 = d.extract x.toNat y.toNat := by
  have e : sliceBounds (some x) (some y) none d.size = (((x.toNat : Nat) : Int), ((y.toNat : Nat) : Int), 1) := by
    simp only [sliceBounds, Option.getD_none, show (1 : Int) > 0 by decide, if_true, if_neg (show ¬ (x < 0) by omega), if_neg (show ¬ (y < 0) by omega)]
    congr 1
    · omega
    · congr 1
      omega
  rw [e]
  show Builtin.Bytes.sliced d ((x.toNat : Nat) : Int) ((y.toNat : Nat) : Int) 1 = _
  unfold Builtin.Bytes.sliced
  rw [sliceRange_one, ext_range d _ _ (by omega)]
  apply Array.ext'
  simp [List.extract]

section
variable {prog : Program} {w : World} {A : Around} {E : Value → Shared → Prop} {s : Shared} {a : Addr} {d : Array UInt8}
theorem ba_part {M : Model} {i : Int} {t : Tok} {Q : Value → Shared → Prop} (h : Q (rawInt i) s) :
    wpAny M A (if (Value.int i t == Value.none) = true then pure Value.none else do
      let z ← specialOf (.int i t) "__index__"
      if z.isNone = true then do rule "bytes.slice.part-no-index"; raiseError "TypeError" "slice indices must be integers or None or have an __index__ method"
      return rawInt (← asIndex (.int i t))) Q E s := by
  rw [if_neg (show ¬ ((Value.int i t == Value.none) = true) from Bool.false_ne_true)]
  refine wpAny_bind (wpAny_specialOf (T := "int") (typeIs_int s i t) int_index ?_)
  simp only [Option.isNone_some, Bool.false_eq_true, if_false]
  exact wpAny_bind (wpAny_of_eq (a := i) rfl (wpAny_pure h))

theorem ba_getItem_slice {sl : Addr} {x y : Int} {t u : Tok} {Q : Value → Shared → Prop} (h : s.heap.get? a = some (baO d))
    (hs : s.heap.IsSliceOf sl (.int x t) (.int y u) .none) (hx : 0 ≤ x) (hxy : x ≤ y) (hy : y ≤ d.size) (hz : d.size ≤ sizeLine)
    (q : Q (.ref s.heap.objs.size) { s with heap := s.heap.push (baO (d.extract x.toNat y.toNat)) }) :
    wpAny (model prog w) A (getItem (.ref a) (.ref sl)) Q E s := by
  obtain ⟨os, hos, hcs, hds⟩ := id hs
  have hTs : s.TypeIs (.ref sl) "slice" := ⟨os, hos, hcs⟩
  unfold getItem
  try with_reducible refine wpAny_holding ?_
  first | refine wpAny_bind (wpAny_pure ?_) | skip
  refine wpAny_bind (wpAny_sequenceKey (ba_T h) (by decide) ?_)
  refine wpAny_bind (wpAny_callSpecial?_slot (name := Str.ofString "__getitem__") (ba_T h) slot_ba_get
    (wpAny_call_entry slot_ba_get (ba_T h) entry_ba_get ?_ (args_ba_get _ _)))
  show wpAny _ _ (Builtin.Bytes.subscript? (.ref sl) >>= _) _ _ s
  refine wpAny_bind ?_
  unfold Builtin.Bytes.subscript?
  refine wpAny_bind (wpAny_specialOf hTs slice_no_index ?_)
  simp only [Option.isNone_none, if_true]
  refine wpAny_pure ?_
  refine wpAny_bind (wpAny_typeOf hTs ?_)
  rw [if_neg (by decide)]
  refine wpAny_bind ?_
  unfold Builtin.Bytes.sliceParts
  refine wpAny_bind (wpAny_field hos hds (x := .none) rfl ?_)
  refine wpAny_bind (wpAny_ite ?_)
  rw [if_pos (by decide)]
  refine wpAny_pure ?_
  rw [if_neg (show ¬ ((Value.none == rawInt 0) = true) from Bool.false_ne_true)]
  refine wpAny_bind (wpAny_field hos hds (x := .int x t) rfl ?_)
  refine wpAny_bind (ba_part ?_)
  refine wpAny_bind (wpAny_field hos hds (x := .int y u) rfl ?_)
  refine wpAny_bind (ba_part ?_)
  refine wpAny_pure ?_
  refine wpAny_bind (ba_payload h ?_)
  refine wpAny_bind (wpAny_of_eq (sliceIndices_raw (some x) (some y) none d.size (by simp)) ?_)
  rw [show (Builtin.Bytes.newBytearray (Builtin.Bytes.sliced d (sliceBounds (some x) (some y) none d.size).1 (sliceBounds (some x) (some y) none d.size).2.1 (sliceBounds (some x) (some y) none d.size).2.2)) = newObj (.type "bytearray") (.bytearray (d.extract x.toNat y.toNat)) from by rw [sliced_extract d hx hxy hy]; rfl]
  refine wpAny_bind (wpAny_newObj_type (wpAny_pure ⟨_, rfl, wpAny_pure q⟩) ?_)
  show (d.extract x.toNat y.toNat).size ≤ sizeLine
  rw [Array.size_extract]
  omega

theorem ba_slice {h₀ : Heap} {L : Addr} {m : Str → Option Value} {news : List (Addr × Obj)} {value slice : Expr} {x y : Int} {t u : Tok} {Q : Value → Shared → Prop}
    (F : Fr h₀ L s.heap m) (N : News h₀ L s.heap news) (h : (a, baO d) ∈ news) (hx : 0 ≤ x) (hxy : x ≤ y) (hy : y ≤ d.size) (hz : d.size ≤ sizeLine)
    (q : ∀ D h', Fr h₀ L h' m → News h₀ L h' ((D, baO (d.extract x.toNat y.toNat)) :: news) → (∀ p ∈ news, p.1 < D) → Q (.ref D) { s with heap := h' })
    (hs : subscripted slice false (.ref a) (.ref s.heap.objs.size) = operate [.ref s.heap.objs.size, .ref a] (getItem (.ref a) (.ref s.heap.objs.size)) := by with_unfolding_all rfl)
    (ht : ∀ r, letTemporaryGo value (.ref a) r = pure () := by intro _; with_unfolding_all rfl) :
    wpAny (model prog w) A (subscriptTail value slice (.ref a) (.ref s.heap.objs.size)) Q E { s with heap := s.heap.push { cls := .type "slice", data := .fields #[.int x t, .int y u, .none] } } := by
  have hg := N.get h
  refine subscriptTail_ops (ba_T (s := { s with heap := s.heap.push { cls := .type "slice", data := .fields #[.int x t, .int y u, .none] } }) (Heap.get?_push_of_some _ hg)) slot_ba_get.lookup
    (ba_getItem_slice (Heap.get?_push_of_some _ hg) (Heap.IsSliceOf.new ..) hx hxy hy hz ?_) hs ht
  have N1 := News.push (F.push { cls := .type "slice", data := .fields #[.int x t, .int y u, .none] }) (N.grown fun _ _ e => Heap.get?_push_of_some _ e) (baO (d.extract x.toNat y.toNat))
  rw [Heap.size_push] at N1
  show Q (.ref (s.heap.push _).objs.size) _
  rw [Heap.size_push]
  exact q _ _ ((F.push _).push _) N1 fun p hp => Nat.lt_succ_of_lt (Heap.lt_size (N p hp).1)
end
end

section
open PySem PySem.W PyProof.Rows

local macro_rules | `(tactic| walk_at "call ref") => `(tactic| (k_here; k_dflt (refine' whence_spec ?B ?X ?T ?hk ?hd ?hu ?F ?h1 ?h2 ?N ?_; (case B => k_asm); (case X => k_asm); (case T => k_asm); (case hk => first | exact rfl | assumption); (case F => k_asm); (case N => k_asm); (case h1 => omega); (case h2 => omega); (case hd => dsimp only [ktrTop]; omega); (case hu => dsimp only [ktrTop]; omega)); intro h' tk' t' F' N'; (try dsimp only)))



local macro_rules | `(tactic| walk_at "call builtin:len") => `(tactic| (k_here; (with_reducible show wpAny _ _ (call (Value.builtin "len") [Value.ref _]) _ _ _); (refine' ba_len ?h ?hz ?_; (case h => exact News.get (by k_asm) (by k_mem)); (case hz => omega))))
local macro_rules | `(tactic| walk_at "subscriptTail") => `(tactic| (k_here; (with_reducible show wpAny _ _ (subscriptTail _ (Expr.Slice (some _) (some _) none _) (Value.ref _) _) _ _ _); (with_unfolding_all refine' ba_slice ?F ?N ?h ?hx ?hxy ?hy ?hz ?_; (case F => k_asm); (case N => k_asm); (case h => k_mem); (case hx => omega); (case hxy => omega); (case hy => omega); (case hz => (try rw [sizeLine_eq]); omega)); intro D9 h9 F9 N9 l9; (try dsimp only)))
local macro_rules | `(tactic| walk_at "call type:bytes") => `(tactic| (k_here; (with_reducible show wpAny _ _ (call (Value.type "bytes") [Value.ref _]) _ _ _); (refine' bytes_of_ba ?h ?hz ?_; (case h => exact News.get (by k_asm) (by k_mem)); (case hz => (try rw [Array.size_extract]); (try rw [sizeLine_eq]); omega)); intro t9 k9; (try dsimp only)))

section
variable {w : World} {mean : ExcName → Option Value} {mg mb : Str → Option Value} {dp un : Nat} {gd : Option (List Code)} {cn : Str} {cs : Scope} {a : Addr} {ccd : Value} {cl : List (Str × Addr)} {outer : List Env} {A₀ : Around} {base h₀ : Heap} {L : Addr} {m : Str → Option Value} {s : Shared} {Q E : Value → Shared → Prop}
  (B : Below A₀ base outer h₀) (X : (K w.params).In h₀) (T : Top qv Lz mean mg mb h₀) (hk : cs.kind = .function) (hd : dp + 8 < recursionLimit) (hu : un + 70 < cLine) (F : Fr h₀ L s.heap m)
  {rest : List (Addr × Obj)} {S DS BA : Addr} {p : Int} {t1 t2 t3 : Tok}
include B X T hk hd hu F



omit B X T hk hd hu F in
theorem read_end {h' : Heap} {b b' : Array UInt8} {pp p' : Int} {t tt : Tok} {tk : Nat} {s : Shared} {Q : Value → Shared → Prop} (hret : ∀ h' tk' t' t3', Fr h₀ L h' m → News h₀ L h' ((DS, sD w.params BA pp t1 t2 t3') :: rest) → Q (.bytes b t') { s with heap := h', toks := tk' })
    (hb : b' = b) (hp : p' = pp) (F : Fr h₀ L h' m) (N : News h₀ L h' ((DS, sD w.params BA p' t1 t2 tt) :: rest)) : Q (.bytes b' t) { s with heap := h', toks := tk } := by
  subst hb hp
  exact hret _ _ _ _ F N

set_option maxHeartbeats 2000000 in
theorem read_spec {d : Array UInt8} {n : Int} {t4 : Tok} (h1 : 0 ≤ n) (h2 : n ≤ 1000000) (hp : 0 ≤ p) (hp2 : p ≤ d.size) (hsz : d.size ≤ 1000000) (hS : (S, instObj 365 DS) ∈ rest) (hB : (BA, baO d) ∈ rest) (hne : ∀ q ∈ rest, q.1 ≠ DS) (N : News h₀ L s.heap ((DS, sD w.params BA p t1 t2 t3) :: rest))
    (hret : ∀ h' tk' t' t3', Fr h₀ L h' m → News h₀ L h' ((DS, sD w.params BA (min (p + n) d.size) t1 t2 t3') :: rest) → Q (.bytes (d.extract p.toNat (min (p + n) d.size).toNat) t') { s with heap := h', toks := tk' }) :
    wpAny (model pwS w) (ktrTop dp un gd cn cs L a ccd cl outer) (call (.ref 289) [.ref S, .int n t4]) Q E s := by
  have hSD : S ≠ DS := hne _ hS
  have hBD : BA ≠ DS := hne _ hB
  replace N := news_in (news_in N hS) (.tail _ hB)
  refine wpAny_call ?_
  k_dflt (walk_at "my enter")
  k_steps
  · rename News _ _ _ _ => N9
    refine read_end hret ?_ ?_ (by assumption) (news_swap (news_swap N9))
    · rw [Array.extract_empty_of_stop_le_start (by omega)]
    · omega
  · rename News _ _ _ _ => N9
    refine read_end hret ?_ ?_ (by assumption) (news_swap (news_swap (news_less N9)))
    · rw [show min (p + n) (d.size : Int) = p + n by omega]
    · omega
  · rename News _ _ _ _ => N9
    refine read_end hret ?_ ?_ (by assumption) (news_swap (news_swap (news_less N9)))
    · rw [show min (p + n) (d.size : Int) = d.size by omega]
    · omega
end
end

section
open PySem PySem.W PyProof.Rows
local macro_rules | `(tactic| walk_at "call ref") => `(tactic| (k_here; k_dflt (refine' read_spec ?B ?X ?T ?hk ?hd ?hu ?F ?h1 ?h2 ?hp ?hp2 ?hsz ?hS ?hB ?hne ?N ?_; (case B => k_asm); (case X => k_asm); (case T => k_asm); (case hk => first | exact rfl | assumption); (case F => k_asm); (case N => k_asm); (case hS => k_mem); (case hB => k_mem); (case hne => k_all); (case h1 => omega); (case h2 => omega); (case hp => omega); (case hp2 => omega); (case hsz => omega); (case hd => dsimp only [ktrTop]; omega); (case hu => dsimp only [ktrTop]; omega)); intro h' tk' t' t3' F' N'; (try dsimp only)))

theorem truthy_ext {prog : Program} {w : World} {A : Around} {E : Value → Shared → Prop} {s : Shared} {d : Array UInt8} {x y : Nat} {t : Tok} {Q : Bool → Shared → Prop} (hy : y ≤ d.size) (hz : d.size ≤ 1000000)
    (h : Q (decide (x < y)) { s with toks := s.toks + 1 + 1 }) : wpAny (model prog w) A (truthy (.bytes (d.extract x y) t)) Q E s := by
  refine truthy_bytes (by rw [Array.size_extract]; omega) ?_
  have e : (((d.extract x y).size : Int) != 0) = decide (x < y) := by
    rw [Array.size_extract, Nat.min_eq_left hy]
    by_cases hxy : x < y
    · rw [decide_eq_true hxy]; simp; omega
    · rw [decide_eq_false hxy]; simp; omega
  rw [e]; exact h
local macro_rules | `(tactic| walk_at "truthy bytes") => `(tactic| (k_here; (refine' truthy_ext ?hy ?hz ?_; (case hy => omega); (case hz => omega)); (try dsimp only)))

theorem my_stop {s : Shared} {outer : List Env} {h₀ h : Heap} {L a e t : Addr} {m : Str → Option Value} {cn : Str} {cs : Scope} {ccd : Value} {cl : List (Str × Addr)} {vs : List Value} {news : List (Addr × Obj)}
    (R : RaisedK h₀ (envX cn cs L a ccd cl :: outer) e (.type "StopIteration") t vs news s.heap) (hsm : h.UpToSlots s.heap) (F : Fr h₀ L h m) :
    s.TypeIs (.ref e) "StopIteration" ∧ Fr h₀ L s.heap m ∧ News h₀ L s.heap news := by
  obtain ⟨⟨B, hB, hl, hfl, _⟩, _⟩ := R
  have hL : B.get? L = none := by
    obtain ⟨_, ⟨L', _, hf, hn', _⟩, _⟩ := hfl.2.2.1
    obtain rfl : L = L' := Option.some.inj hf
    exact hn'
  have hf' := flyingW_base hB hfl
  obtain ⟨ob, hob, hobc⟩ := hf'.there
  exact ⟨⟨ob, hob, hobc⟩, F.of_stays hf'.1 hsm, fun q hq => ⟨hfl.1 _ _ (hl q hq).1, (fun z => by have := (hl q hq).1; rw [z, hL] at this; cases this), (hl q hq).2⟩⟩

/-- the FileWrapper object's own dict -/
noncomputable abbrev fD (P : Params) (S : Addr) (n : Int) (M : Addr) (u1 u2 u3 u4 : Tok) : Obj :=
  dictOf [⟨PyData.keyHash P "filelike", .str "filelike" u1, .ref S⟩, ⟨PyData.keyHash P "blksize", .str "blksize" u2, .int n u3⟩, ⟨PyData.keyHash P "close", .str "close" u4, .ref M⟩] 3

/-- what stands fast while the wrapper is walked -/
structure HC (w : World) (rest : List (Addr × Obj)) (S DS BA H DH M : Addr) (d : Array UInt8) (n : Int) (u1 u2 u3 u4 : Tok) : Prop where
  h1 : 1 ≤ n
  h2 : n ≤ 1000000
  hsz : d.size ≤ 1000000
  hH : (H, instObj 53 DH) ∈ rest
  hDH : (DH, fD w.params S n M u1 u2 u3 u4) ∈ rest
  hS : (S, instObj 365 DS) ∈ rest
  hB : (BA, baO d) ∈ rest
  hne : ∀ q ∈ rest, q.1 ≠ DS
/-- the caller's ground -/
structure CL (w : World) (mean : ExcName → Option Value) (mg mb : Str → Option Value) (A₀ : Around) (outer : List Env) (h₀ : Heap) : Prop where
  B : Below A₀ h₀ outer h₀
  X : (K w.params).In h₀
  T : Top qv Lz mean mg mb h₀

section
variable {w : World} {mean : ExcName → Option Value} {mg mb : Str → Option Value} {dp un : Nat} {gd : Option (List Code)} {cn : Str} {cs : Scope} {a : Addr} {ccd : Value} {cl : List (Str × Addr)} {outer : List Env} {A₀ : Around} {h₀ : Heap} {L : Addr} {m : Str → Option Value} {s : Shared} {E : Value → Shared → Prop}
  {rest : List (Addr × Obj)} {S DS BA H DH M : Addr} {p : Int} {t1 t2 t3 : Tok} {d : Array UInt8} {n : Int} {u1 u2 u3 u4 : Tok}

set_option maxHeartbeats 2000000 in
theorem next_raw (CC : CL w mean mg mb A₀ outer h₀) (C : HC w rest S DS BA H DH M d n u1 u2 u3 u4) (hk : cs.kind = .function) (hd : dp + 9 < recursionLimit) (hu : un + 80 < cLine) (F : Fr h₀ L s.heap m)
    {Q : Option Value → Shared → Prop} (hp : 0 ≤ p) (hp2 : p ≤ d.size) (N : News h₀ L s.heap ((DS, sD w.params BA p t1 t2 t3) :: rest))
    (hsome : p < d.size → ∀ h' tk' t' t3', Fr h₀ L h' m → News h₀ L h' ((DS, sD w.params BA (min (p + n) d.size) t1 t2 t3') :: rest) → Q (some (.bytes (d.extract p.toNat (min (p + n) d.size).toNat) t')) { s with heap := h', toks := tk' })
    (hnone : p = d.size → ∀ e h' tk' t3', (⟨h', s.gens, s.drawn, tk', s.os⟩ : Shared).TypeIs (.ref e) "StopIteration" → Fr h₀ L h' m → News h₀ L h' ((DS, sD w.params BA p t1 t2 t3') :: rest) → E (.ref e) { s with heap := h', toks := tk' }) :
    wpAny (model pwS w) (ktrTop dp un gd cn cs L a ccd cl outer) (callSpecial? (.ref H) "__next__") Q E s := by
  obtain ⟨B, X, T⟩ := CC
  obtain ⟨h1, h2, hsz, hH, hDH, hS, hB, hne⟩ := C
  have hSD : S ≠ DS := hne _ hS
  have hBD : BA ≠ DS := hne _ hB
  have hHD : H ≠ DS := hne _ hH
  have hDHD : DH ≠ DS := hne _ hDH
  replace N := news_in (news_in (news_in (news_in N hH) (.tail _ hDH)) (.tail _ (.tail _ hS))) (.tail _ (.tail _ (.tail _ hB)))
  k_dflt (refine' special_fn (X.keeps F.keep) ?I ?hs ?hf ?_; (case I => k_inst); (case hs => k_is); (case hf => k_is))
  refine wpAny_call ?_
  k_dflt (walk_at "my enter")
  k_steps
  · rename News _ _ _ _ => N9
    exact hsome (by omega) _ _ _ _ (by assumption) (news_swap (news_swap (news_swap (news_swap N9))))
  · rename RaisedK _ _ _ _ _ _ _ _ => R9
    obtain ⟨T9, F9, N9⟩ := my_stop (s := ⟨_, s.gens, s.drawn, _, s.os⟩) R9 (by assumption) (by assumption)
    have e : min (p + n) (d.size : Int) = p := by omega
    rw [e] at N9
    exact hnone (by omega) _ _ _ _ T9 F9 (news_swap (news_swap (news_swap (news_swap N9))))

theorem next_spec (CC : CL w mean mg mb A₀ outer h₀) (C : HC w rest S DS BA H DH M d n u1 u2 u3 u4) (hk : cs.kind = .function) (hd : dp + 9 < recursionLimit) (hu : un + 80 < cLine) (F : Fr h₀ L s.heap m)
    {Q : Option Value → Shared → Prop} (hp : 0 ≤ p) (hp2 : p ≤ d.size) (N : News h₀ L s.heap ((DS, sD w.params BA p t1 t2 t3) :: rest))
    (hsome : p < d.size → ∀ h' tk' t' t3', Fr h₀ L h' m → News h₀ L h' ((DS, sD w.params BA (min (p + n) d.size) t1 t2 t3') :: rest) → Q (some (.bytes (d.extract p.toNat (min (p + n) d.size).toNat) t')) { s with heap := h', toks := tk' })
    (hnone : p = d.size → ∀ h' tk' t3', Fr h₀ L h' m → News h₀ L h' ((DS, sD w.params BA p t1 t2 t3') :: rest) → Q none { s with heap := h', toks := tk' }) :
    wpAny (model pwS w) (ktrTop dp un gd cn cs L a ccd cl outer) (pyNext (.ref H)) Q E s := by
  unfold pyNext
  refine wpAny_bind (wpAny_attempt (next_raw CC C hk hd hu F hp hp2 N (fun hlt h' tk' t' t3' F' N' => ?_) (fun he e h' tk' t3' T' F' N' => ?_)))
  · exact wpAny_pure (hsome hlt h' tk' t' t3' F' N')
  · refine wpAny_bind (wpAny_isInstance T' owsi_facts.sub ?_)
    show wpAny _ _ (if true = true then _ else _) _ _ _
    rw [if_pos rfl]
    exact wpAny_pure (hnone he h' tk' t3' F' N')
end
end

section
open PySem PySem.W PyProof.Rows

/-- the pieces that are left, from a place on -/
inductive Rem (d : Array UInt8) (n : Int) : Int → List (Array UInt8) → Prop
  | nil : Rem d n d.size []
  | cons {p : Int} {ps : List (Array UInt8)} : 0 ≤ p → p < d.size → Rem d n (min (p + n) d.size) ps → Rem d n p (d.extract p.toNat (min (p + n) d.size).toNat :: ps)

theorem Rem.lo {d : Array UInt8} {n p : Int} {ps : List (Array UInt8)} (R : Rem d n p ps) : 0 ≤ p ∧ p ≤ d.size := by
  cases R with
  | nil => omega
  | cons h0 h1 _ => omega

section
variable {w : World} {mean : ExcName → Option Value} {mg mb : Str → Option Value} {dp un : Nat} {gd : Option (List Code)} {cn : Str} {cs : Scope} {a : Addr} {ccd : Value} {cl : List (Str × Addr)} {outer : List Env} {A₀ : Around} {h₀ : Heap} {L : Addr} {m : Str → Option Value} {s : Shared} {E : Value → Shared → Prop}
  {rest : List (Addr × Obj)} {S DS BA H DH M : Addr} {p : Int} {t1 t2 t3 : Tok} {d : Array UInt8} {n : Int} {u1 u2 u3 u4 : Tok} {ps : List (Array UInt8)}

theorem rem_raw (CC : CL w mean mg mb A₀ outer h₀) (C : HC w rest S DS BA H DH M d n u1 u2 u3 u4) (hk : cs.kind = .function) (hd : dp + 9 < recursionLimit) (hu : un + 80 < cLine) (F : Fr h₀ L s.heap m)
    {Q : Option Value → Shared → Prop} (R : Rem d n p ps) (N : News h₀ L s.heap ((DS, sD w.params BA p t1 t2 t3) :: rest))
    (hsome : ∀ b qs p', ps = b :: qs → Rem d n p' qs → ∀ h' tk' t' t3', Fr h₀ L h' m → News h₀ L h' ((DS, sD w.params BA p' t1 t2 t3') :: rest) → Q (some (.bytes b t')) { s with heap := h', toks := tk' })
    (hnone : ps = [] → ∀ e h' tk' t3', (⟨h', s.gens, s.drawn, tk', s.os⟩ : Shared).TypeIs (.ref e) "StopIteration" → Fr h₀ L h' m → News h₀ L h' ((DS, sD w.params BA p t1 t2 t3') :: rest) → E (.ref e) { s with heap := h', toks := tk' }) :
    wpAny (model pwS w) (ktrTop dp un gd cn cs L a ccd cl outer) (callSpecial? (.ref H) "__next__") Q E s := by
  have hl := R.lo
  refine next_raw CC C hk hd hu F hl.1 hl.2 N (fun hlt h' tk' t' t3' F' N' => ?_) (fun he => hnone ?_)
  · cases R with
    | nil => omega
    | cons h0 h1 R' => exact hsome _ _ _ rfl R' _ _ _ _ F' N'
  · cases R with
    | nil => rfl
    | cons h0 h1 R' => omega
theorem rem_next (CC : CL w mean mg mb A₀ outer h₀) (C : HC w rest S DS BA H DH M d n u1 u2 u3 u4) (hk : cs.kind = .function) (hd : dp + 9 < recursionLimit) (hu : un + 80 < cLine) (F : Fr h₀ L s.heap m)
    {Q : Option Value → Shared → Prop} (R : Rem d n p ps) (N : News h₀ L s.heap ((DS, sD w.params BA p t1 t2 t3) :: rest))
    (hsome : ∀ b qs p', ps = b :: qs → Rem d n p' qs → ∀ h' tk' t' t3', Fr h₀ L h' m → News h₀ L h' ((DS, sD w.params BA p' t1 t2 t3') :: rest) → Q (some (.bytes b t')) { s with heap := h', toks := tk' })
    (hnone : ps = [] → ∀ h' tk' t3', Fr h₀ L h' m → News h₀ L h' ((DS, sD w.params BA p t1 t2 t3') :: rest) → Q none { s with heap := h', toks := tk' }) :
    wpAny (model pwS w) (ktrTop dp un gd cn cs L a ccd cl outer) (pyNext (.ref H)) Q E s := by
  have hl := R.lo
  refine next_spec CC C hk hd hu F hl.1 hl.2 N (fun hlt h' tk' t' t3' F' N' => ?_) (fun he => hnone ?_)
  · cases R with
    | nil => omega
    | cons h0 h1 R' => exact hsome _ _ _ rfl R' _ _ _ _ F' N'
  · cases R with
    | nil => rfl
    | cons h0 h1 R' => omega

set_option maxHeartbeats 2000000 in
theorem iter_spec (CC : CL w mean mg mb A₀ outer h₀) (hk : cs.kind = .function) (hd : dp + 9 < recursionLimit) (hu : un + 80 < cLine) (F : Fr h₀ L s.heap m)
    {news : List (Addr × Obj)} {od : Obj} {Q : Value → Shared → Prop} (hH : (H, instObj 53 DH) ∈ news) (hDH : (DH, od) ∈ news) (N : News h₀ L s.heap news)
    (hret : ∀ h' tk', Fr h₀ L h' m → News h₀ L h' news → Q (.ref H) { s with heap := h', toks := tk' }) :
    wpAny (model pwS w) (ktrTop dp un gd cn cs L a ccd cl outer) (pyIter (.ref H)) Q E s := by
  obtain ⟨B, X, T⟩ := CC
  replace N := news_more (news_more N hDH) (.tail _ hH)
  k_dflt (refine' owit_iter ?F ?X ?I ?hs ?hf ?_; (case F => k_asm); (case X => k_asm); (case I => k_inst); (case hs => k_is); (case hf => k_is))
  refine wpAny_call ?_
  k_dflt (walk_at "my enter")
  k_steps
  all_goals exact hret _ _ (by assumption) (news_less (news_less (by assumption)))

/-- a list of the call's own whose items are these -/
noncomputable abbrev loO (vs : List Value) (k : Nat) : Obj := { cls := .type "list", data := .seq vs.toArray k }

end
end
end

section
open PySem PySem.W PyProof.Rows PySem.Calls
theorem news_sub {h₀ h : Heap} {L : Addr} {l l' : List (Addr × Obj)} (N : News h₀ L h l) (hs : ∀ q ∈ l', q ∈ l) : News h₀ L h l' := fun q hq => N q (hs q hq)

/-- the arounds at which the caller's frame stands, with k units to spare -/
noncomputable def OkA (cn : Str) (cs : Scope) (L a : Addr) (ccd : Value) (cl : List (Str × Addr)) (outer : List Env) (k : Nat) (A : Around) : Prop :=
  ∃ dp un gd, A = ktrTop dp un gd cn cs L a ccd cl outer ∧ dp + 9 < recursionLimit ∧ un + 80 + k < cLine
theorem OkA.in1 {cn : Str} {cs : Scope} {L a : Addr} {ccd : Value} {cl : List (Str × Addr)} {outer : List Env} {k : Nat} {A : Around} (h : OkA cn cs L a ccd cl outer (k + 1) A) : OkA cn cs L a ccd cl outer k A.in1 := by
  obtain ⟨dp, un, gd, rfl, h1, h2⟩ := h
  exact ⟨dp, un + 1, gd, rfl, h1, by omega⟩
theorem OkA.le {cn : Str} {cs : Scope} {L a : Addr} {ccd : Value} {cl : List (Str × Addr)} {outer : List Env} {k j : Nat} {A : Around} (h : OkA cn cs L a ccd cl outer k A) (hj : j ≤ k) : OkA cn cs L a ccd cl outer j A := by
  obtain ⟨dp, un, gd, rfl, h1, h2⟩ := h
  exact ⟨dp, un, gd, rfl, h1, by omega⟩

/-- an iterator that hands on these, in order; W: what it writes -/
structure Itr {β : Type} (w : World) (h₀ : Heap) (L : Addr) (Ok : Nat → Around → Prop) (kk : Nat) (I : Addr) (W : Addr → Prop) (Item : β → Value → List (Addr × Obj) → Prop) (Led : List β → List (Addr × Obj) → Prop) (Fin : List (Addr × Obj) → Prop) : Prop where
  nx : ∀ A, Ok kk A → ∀ (m : Str → Option Value) (s : Shared) (xs : List β) (led extra : List (Addr × Obj)) (Q : Option Value → Shared → Prop) (E : Value → Shared → Prop),
    Led xs led → (∀ q ∈ extra, ¬ W q.1) → Fr h₀ L s.heap m → News h₀ L s.heap (led ++ extra) →
    (∀ x ys v own led' h' tk', xs = x :: ys → Item x v own → Led ys led' → (∀ l ∈ led', l.1 ∈ led.map (·.1) ∨ l ∈ own) → (∀ q ∈ own, ¬ W q.1) → Fr h₀ L h' m → News h₀ L h' (led' ++ (own ++ extra)) → Q (some v) { s with heap := h', toks := tk' }) →
    (xs = [] → ∀ led' h' tk', Fin led' → (∀ l ∈ led', l.1 ∈ led.map (·.1)) → Fr h₀ L h' m → News h₀ L h' (led' ++ extra) → Q none { s with heap := h', toks := tk' }) →
    wpAny (model pwS w) A (pyNext (.ref I)) Q E s
  tup : ∀ x v own, Item x v own → ∀ q ∈ own, q.2.cls = .type "tuple"
  it : ∀ A, Ok kk A → ∀ (m : Str → Option Value) (s : Shared) (xs : List β) (led extra : List (Addr × Obj)) (Q : Value → Shared → Prop) (E : Value → Shared → Prop),
    Led xs led → Fr h₀ L s.heap m → News h₀ L s.heap (led ++ extra) → (∀ h' tk', Fr h₀ L h' m → News h₀ L h' (led ++ extra) → Q (.ref I) { s with heap := h', toks := tk' }) → wpAny (model pwS w) A (pyIter (.ref I)) Q E s
  typ : ∃ T : Value, (T == .type "list") = false ∧ (T == .type "tuple") = false ∧ ∀ (A : Around) (m : Str → Option Value) (s : Shared) (xs : List β) (led extra : List (Addr × Obj)) (Q : Value → Shared → Prop) (E : Value → Shared → Prop),
    Led xs led → Fr h₀ L s.heap m → News h₀ L s.heap (led ++ extra) → Q T s → wpAny (model pwS w) A (typeOf (.ref I)) Q E s
  hint : ∀ (A : Around) (m : Str → Option Value) (s : Shared) (xs : List β) (led extra : List (Addr × Obj)) (Q : Bool → Shared → Prop) (E : Value → Shared → Prop),
    Led xs led → Fr h₀ L s.heap m → News h₀ L s.heap (led ++ extra) → Q true s → wpAny (model pwS w) A (Builtin.List.listLengthHint (.ref I)) Q E s
  here : ∀ xs led, Led xs led → ∃ o, (I, o) ∈ led
  wled : ∀ xs led, Led xs led → ∀ x, W x → x ∈ led.map (·.1)

/-- these items, as values, with what was made for them -/
inductive Its {β : Type} (Item : β → Value → List (Addr × Obj) → Prop) : List β → List Value → List (Addr × Obj) → Prop
  | nil : Its Item [] [] []
  | cons {x : β} {v : Value} {own ow : List (Addr × Obj)} {xs : List β} {vs : List Value} : Item x v own → Its Item xs vs ow → Its Item (x :: xs) (v :: vs) (ow ++ own)
theorem Its.length {β : Type} {Item : β → Value → List (Addr × Obj) → Prop} {xs : List β} {vs : List Value} {ow : List (Addr × Obj)} (h : Its Item xs vs ow) : vs.length = xs.length := by
  induction h with
  | nil => rfl
  | cons _ _ ih => simp [ih]

theorem ne_of_addrs {led led' own : List (Addr × Obj)} {S : Addr} (e : ∀ l ∈ led', l.1 ∈ led.map (·.1) ∨ l ∈ own) (h : ∀ l ∈ led, l.1 ≠ S) (ho : ∀ l ∈ own, l.1 ≠ S) : ∀ l ∈ led', l.1 ≠ S := fun l hl q => by
  rcases e l hl with h1 | h1
  · obtain ⟨l2, h2, e2⟩ := List.mem_map.mp h1
    exact h l2 h2 (e2.trans q)
  · exact ho l h1 q

section
variable {β : Type} {w : World} {h₀ : Heap} {L : Addr} {Ok : Nat → Around → Prop} {kk : Nat} {I : Addr} {W : Addr → Prop} {Item : β → Value → List (Addr × Obj) → Prop} {Led : List β → List (Addr × Obj) → Prop} {Fin : List (Addr × Obj) → Prop} {m : Str → Option Value}

theorem list_loop (T : Itr w h₀ L Ok kk I W Item Led Fin) (S : Addr) (hSW : ¬ W S) (res : Value) (A : Around) (hA : Ok kk A.in1) : ∀ (xs : List β) (s : Shared) (led extra : List (Addr × Obj)) (acc : List Value) (c : Nat) (R : Result → Shared → Prop),
    Led xs led → (∀ q ∈ extra, ¬ W q.1) → (∀ l ∈ led, l.1 ≠ S) → (∀ q ∈ extra, q.1 ≠ S) → acc.length + xs.length ≤ sizeLine → Fr h₀ L s.heap m → News h₀ L s.heap (led ++ ((S, loO acc c) :: extra)) →
    (∀ led' vs ow c' h' tk', Its Item xs vs ow → Fin led' → (∀ q ∈ ow, ¬ W q.1) → Fr h₀ L h' m → News h₀ L h' (led' ++ ((S, loO (acc ++ vs) c') :: (ow ++ extra))) → R (.ok (.ret res)) { s with heap := h', toks := tk' }) →
    codeAny (model pwS w) A (.builtin "list.extend.loop" ⟨[.ref S, .ref I, res], []⟩) R s := by
  intro xs
  induction xs with
  | nil =>
    intro s led extra acc c R hl hd hS hx hz F N hR
    refine codeAny_builtin PySem.F.entry_extend_loop ?_
    rw [Around.under_plainId PySem.F.plain_extend_loop _]
    show wpAny _ A.in1 (pyNext (.ref I) >>= _) _ _ s
    refine wpAny_bind (T.nx _ hA m s [] led ((S, loO acc c) :: extra) _ _ hl (fun q hq => ?_) F N (fun x ys v own led' h' tk' e => by cases e) (fun _ led' h' tk' hl' he F' N' => ?_))
    · rcases List.mem_cons.mp hq with rfl | hq
      · exact hSW
      · exact hd q hq
    · exact wpAny_pure (hR led' [] [] c h' tk' .nil hl' (fun q hq => nomatch hq) F' (by simpa using N'))
  | cons x xs ih =>
    intro s led extra acc c R hl hd hS hx hz F N hR
    refine codeAny_builtin PySem.F.entry_extend_loop ?_
    rw [Around.under_plainId PySem.F.plain_extend_loop _]
    show wpAny _ A.in1 (pyNext (.ref I) >>= _) _ _ s
    refine wpAny_bind (T.nx _ hA m s (x :: xs) led ((S, loO acc c) :: extra) _ _ hl (fun q hq => ?_) F N (fun x' ys v own led' h' tk' e hi hl' he ho F' N' => ?_) (fun e => by cases e))
    · rcases List.mem_cons.mp hq with rfl | hq
      · exact hSW
      · exact hd q hq
    · cases e
      have hSg : h'.get? S = some (loO acc c) := News.get (o := loO acc c) N' (by simp)
      have hoS : ∀ q ∈ own, q.1 ≠ S := fun q hq z => by
        have g := (N' q (by simp [hq])).1
        rw [z, hSg] at g
        have := T.tup _ _ _ hi q hq
        rw [← Option.some.inj g] at this
        exact absurd this (by simp [loO])
      have N2 : News h₀ L h' (led' ++ ((S, loO acc c) :: (own ++ extra))) := news_sub N' (fun q hq => by
        simp only [List.mem_append, List.mem_cons] at hq ⊢
        rcases hq with h | h | h | h <;> simp [h])
      obtain ⟨F3, N3⟩ := news_upd (f := Obj.mapSeq (·.push v)) (o' := loO (acc ++ [v]) (c + 1)) F' N2 (ne_of_addrs he hS hoS) (fun q hq => by
        rcases List.mem_append.mp hq with h | h
        · exact hoS q h
        · exact hx q h) (by simp [Obj.mapSeq, loO]) rfl
      show wpAny _ A.in1 (updateSeq S (·.push v) >>= _) _ _ _
      refine wpAny_bind ?_
      simp only [List.length_cons] at hz
      refine wpAny_updateSeq (xs := acc.toArray) (n := c) hSg rfl (wpAny_pure ⟨plainId_quiet PySem.F.plain_extend_loop _, ?_⟩) (by simp; omega) (by simp; omega)
      refine ih _ led' (own ++ extra) (acc ++ [v]) (c + 1) R hl' (fun q hq => ?_) (ne_of_addrs he hS hoS) (fun q hq => ?_) (by simp; omega) F3 N3 (fun led2 vs ow c' h2 tk2 his hl2 hw2 F2 N4 => ?_)
      · rcases List.mem_append.mp hq with h | h
        · exact ho q h
        · exact hd q h
      · rcases List.mem_append.mp hq with h | h
        · exact hoS q h
        · exact hx q h
      · refine hR led2 (v :: vs) (ow ++ own) c' h2 tk2 (.cons hi his) hl2 (fun q hq => ?_) F2 ?_
        · rcases List.mem_append.mp hq with h | h
          · exact hw2 q h
          · exact ho q h
        · simpa [List.append_assoc] using N4

theorem call_list_itr {A : Around} {s : Shared} {led extra : List (Addr × Obj)} {xs : List β} {Q : Value → Shared → Prop} {E : Value → Shared → Prop} (Tr : Itr w h₀ L Ok kk I W Item Led Fin) (hA : Ok kk A.in1.in1)
    (hl : Led xs led) (hd : ∀ q ∈ extra, ¬ W q.1) (hz : xs.length ≤ sizeLine) (F : Fr h₀ L s.heap m) (N : News h₀ L s.heap (led ++ extra))
    (hQ : ∀ S led' vs ow c' h' tk', Its Item xs vs ow → Fin led' → (∀ q ∈ ow, ¬ W q.1) → ¬ W S → Fr h₀ L h' m → News h₀ L h' (led' ++ ((S, loO vs c') :: (ow ++ extra))) → (∀ p ∈ led ++ extra, p.1 < S) → Q (.ref S) { s with heap := h', toks := tk' }) :
    wpAny (model pwS w) A (call (.type "list") [.ref I]) Q E s := by
  have hlt : ∀ p ∈ led ++ extra, p.1 < s.heap.objs.size := fun p hp => Heap.lt_size (N p hp).1
  have hSl : ∀ l ∈ led, l.1 ≠ s.heap.objs.size := fun l hl => Nat.ne_of_lt (hlt l (List.mem_append_left _ hl))
  have hSx : ∀ l ∈ extra, l.1 ≠ s.heap.objs.size := fun l hl => Nat.ne_of_lt (hlt l (List.mem_append_right _ hl))
  obtain ⟨T, hT1, hT2, hT⟩ := Tr.typ
  have hIS : s.heap.objs.size ≠ I := by
    obtain ⟨o, ho⟩ := Tr.here _ _ hl
    exact Ne.symm (hSl _ ho)
  refine callType_codes (Q₁ := fun obj s₁ => obj = .ref s.heap.objs.size ∧ s₁ = { s with heap := s.heap.push { cls := .type "list", data := .seq #[] } }) PySem.F.called_list (PySem.F.typeCall_list_1 _) PySem.F.entry_list_init
    (code_list_new _ ⟨rfl, rfl⟩) fun obj s₁ h₁ => ?_
  obtain ⟨rfl, rfl⟩ := h₁
  have F1 := F.push { cls := .type "list", data := .seq #[] }
  have N1 : News h₀ L (s.heap.push { cls := .type "list", data := .seq #[] }) (led ++ ((s.heap.objs.size, loO [] 0) :: extra)) := news_sub (News.push F N { cls := .type "list", data := .seq #[] }) (fun q hq => by
    simp only [List.mem_append, List.mem_cons] at hq ⊢
    rcases hq with h | h | h <;> simp [h])
  have hS : (s.heap.push { cls := .type "list", data := .seq #[] }).get? s.heap.objs.size = some { cls := .type "list", data := .seq #[] } := Heap.get?_push_size _ rfl
  refine ⟨⟨_, hS, rfl⟩, PySem.F.args_list_init_2 _ _, ?_⟩
  show wpAny _ A.in1.in1 (do let old ← Builtin.List.listItems (.ref s.heap.objs.size); Builtin.List.listUpdate (.ref s.heap.objs.size) (fun _ => #[]); letGo old.toList.reverse; Builtin.List.listExtendWith (.ref s.heap.objs.size) (.ref I) .none) _ _ _
  refine wpAny_bind ?_
  unfold Builtin.List.listItems
  refine wpAny_bind (wpAny_seqItems hS rfl (wpAny_pure ?_))
  show wpAny _ A.in1.in1 (updateSeq s.heap.objs.size (fun _ => #[]) >>= fun _ => letGo (#[] : Array Value).toList.reverse >>= fun _ => Builtin.List.listExtendWith (.ref s.heap.objs.size) (.ref I) .none) _ _ _
  refine wpAny_bind (wpAny_updateSeq hS rfl ?_)
  refine wpAny_bind (wpAny_letGo ?_)
  obtain ⟨F2, N2⟩ := news_upd (f := Obj.mapSeq (fun _ => (#[] : Array Value))) (o' := loO [] 0) F1 N1 hSl hSx (by simp [Obj.mapSeq, loO]) rfl
  unfold Builtin.List.listExtendWith
  refine wpAny_bind (hT _ _ _ _ _ _ _ _ hl F2 N2 ?_)
  have e1 : Builtin.List.listSameRef (.ref s.heap.objs.size) (.ref I) = false := by simp [Builtin.List.listSameRef, hIS]
  simp only [e1, hT1, hT2, Bool.or_false, Bool.false_eq_true, if_false]
  refine wpAny_bind (Tr.it _ hA _ _ _ _ _ _ _ hl F2 N2 fun h3 tk3 F3 N3 => ?_)
  refine wpAny_bind (wpAny_holding (Tr.hint _ _ _ _ _ _ _ _ hl F3 N3 ?_))
  simp only [Bool.true_or, if_true]
  refine wpAny_bind (wpAny_rule ?_)
  refine wpAny_bind ?_
  show wpAny _ A.in1.in1 (updateSeq s.heap.objs.size (·.push .none) >>= fun _ => updateSeq s.heap.objs.size (·.pop)) _ _ _
  have g3 : h3.get? s.heap.objs.size = some (loO [] 0) := News.get (o := loO [] 0) N3 (by simp)
  refine wpAny_bind (wpAny_updateSeq (xs := #[]) (n := 0) g3 rfl ?_)
  obtain ⟨F4, N4⟩ := news_upd (f := Obj.mapSeq (·.push Value.none)) (o' := loO [.none] 1) F3 N3 hSl hSx (by simp [Obj.mapSeq, loO]) rfl
  have g4 := News.get (o := loO [.none] 1) N4 (by simp : (s.heap.objs.size, loO [.none] 1) ∈ _)
  refine wpAny_updateSeq (xs := #[.none]) (n := 1) g4 rfl ?_
  obtain ⟨F5, N5⟩ := news_upd (f := Obj.mapSeq (·.pop)) (o' := loO [] 2) F4 N4 hSl hSx (by simp [Obj.mapSeq, loO]) rfl
  have hSW : ¬ W s.heap.objs.size := fun q => by
    obtain ⟨l, hl1, e⟩ := List.mem_map.mp (Tr.wled _ _ hl _ q)
    exact hSl l hl1 e
  refine wpAny_pure ⟨plainId_quiet PySem.F.plain_extend_loop _, list_loop Tr _ hSW _ _ hA xs _ led extra [] 2 _ hl hd hSl hSx (by simpa using hz) F5 N5 fun led' vs ow c' h' tk' hi hl' hw F' N' => ?_⟩
  exact ⟨rfl, hQ _ led' vs ow c' h' tk' hi hl' hw hSW F' (by simpa using N') hlt⟩
end
end

section
open PySem PySem.W PyProof.Rows PySem.Calls
theorem fw_no_len (P : Params) : findIn (K P) (.ref 53) "__len__" = some none := by kernel_rfl
theorem fw_no_hint (P : Params) : findIn (K P) (.ref 53) "__length_hint__" = some none := by kernel_rfl
theorem fw_no_contains (P : Params) : findIn (K P) (.ref 53) "__contains__" = some none := by kernel_rfl

theorem eqBool_bytes {prog : Program} {w : World} {A : Around} {E : Value → Shared → Prop} {s : Shared} {a b : Array UInt8} {t u : Tok} {Q : Bool → Shared → Prop} (h : Q (decide (a = b)) s) :
    wpAny (model prog w) A (eqBool (.bytes a t) (.bytes b u)) Q E s := by
  unfold eqBool
  show wpAny _ _ (if (Value.bytes a t == Value.bytes b u) = true then _ else _) Q E s
  by_cases hab : (Value.bytes a t == Value.bytes b u) = true
  · rw [if_pos hab]
    have e : a = b := by have := eq_of_beq hab; injection this
    subst e
    exact wpAny_bind (wpAny_rule (wpAny_pure (by simpa using h)))
  · rw [if_neg hab]
    refine wpAny_bind (richCompare_gives (op := .Eq) (typeIs_bytes s a t) (typeIs_bytes s b u) FB.slot_bytes_eq FB.entry_bytes_eq (FB.args_bytes_eq_2 _ _) (gives_bytes_eq a b t u) (fun x => nomatch x) (wpAny_truthy_bool ?_))
    have e : (a.toList == b.toList) = decide (a = b) := by
      by_cases hne : a = b
      · subst hne; simp
      · rw [decide_eq_false hne]
        exact beq_eq_false_iff_ne.mpr fun hl => hne (Array.toList_inj.mp hl)
    rw [e]; exact h

section
variable {w : World} {mean : ExcName → Option Value} {mg mb : Str → Option Value} {dp un : Nat} {gd : Option (List Code)} {cn : Str} {cs : Scope} {a : Addr} {ccd : Value} {cl : List (Str × Addr)} {outer : List Env} {A₀ : Around} {h₀ : Heap} {L : Addr} {m : Str → Option Value} {s : Shared}
  {rest : List (Addr × Obj)} {S DS BA H DH M : Addr} {p : Int} {t1 t2 t3 : Tok} {d : Array UInt8} {n : Int} {u1 u2 u3 u4 : Tok} {ps : List (Array UInt8)}

/-- a piece, as a value -/
noncomputable def ItemB (b : Array UInt8) (v : Value) (own : List (Addr × Obj)) : Prop := (∃ t, v = .bytes b t) ∧ own = []
/-- the wrapper's ledger, when these pieces are left -/
noncomputable def LedB (w : World) (rest : List (Addr × Obj)) (DS BA : Addr) (t1 t2 : Tok) (d : Array UInt8) (n : Int) (ps : List (Array UInt8)) (led : List (Addr × Obj)) : Prop :=
  ∃ p t3, Rem d n p ps ∧ led = (DS, sD w.params BA p t1 t2 t3) :: rest

theorem HC.more (C : HC w rest S DS BA H DH M d n u1 u2 u3 u4) {extra : List (Addr × Obj)} (h : ∀ q ∈ extra, q.1 ≠ DS) : HC w (rest ++ extra) S DS BA H DH M d n u1 u2 u3 u4 :=
  ⟨C.h1, C.h2, C.hsz, List.mem_append_left _ C.hH, List.mem_append_left _ C.hDH, List.mem_append_left _ C.hS, List.mem_append_left _ C.hB, fun q hq => (List.mem_append.mp hq).elim (C.hne q) (h q)⟩

theorem handItr (CC : CL w mean mg mb A₀ outer h₀) (C : HC w rest S DS BA H DH M d n u1 u2 u3 u4) (hk : cs.kind = .function) :
    Itr w h₀ L (OkA cn cs L a ccd cl outer) 0 H (· = DS) ItemB (LedB w rest DS BA t1 t2 d n) (LedB w rest DS BA t1 t2 d n []) where
  nx := by
    rintro A ⟨dp, un, gd, rfl, hd, hu⟩ m s xs led extra Q E ⟨p, t3, R, rfl⟩ hx F N hs hn
    refine rem_next CC (C.more fun q hq => hx q hq) hk hd (by omega) F R N (fun b qs p' e R' h' tk' t' t3' F' N' => ?_) (fun e h' tk' t3' F' N' => ?_)
    · exact hs b qs _ [] ((DS, sD w.params BA p' t1 t2 t3') :: rest) h' tk' e ⟨⟨t', rfl⟩, rfl⟩ ⟨p', t3', R', rfl⟩ (fun l hl => .inl (by rcases List.mem_cons.mp hl with rfl | h; exact .head _; exact .tail _ (List.mem_map_of_mem h))) (fun q hq => nomatch hq) F' N'
    · exact hn e ((DS, sD w.params BA p t1 t2 t3') :: rest) h' tk' ⟨p, t3', e ▸ R, rfl⟩ (fun l hl => by rcases List.mem_cons.mp hl with rfl | h; exact .head _; exact .tail _ (List.mem_map_of_mem h)) F' N'
  tup := by rintro x v own ⟨_, rfl⟩ q hq; cases hq
  it := by
    rintro A ⟨dp, un, gd, rfl, hd, hu⟩ m s xs led extra Q E ⟨p, t3, R, rfl⟩ F N hs
    refine iter_spec CC hk hd (by omega) F (DH := DH) (od := fD w.params S n M u1 u2 u3 u4) (List.mem_append_left _ (.tail _ C.hH)) (List.mem_append_left _ (.tail _ C.hDH)) N hs
  typ := by
    refine ⟨.ref 53, rfl, rfl, ?_⟩
    rintro A m s xs led extra Q E ⟨p, t3, R, rfl⟩ F N q
    have I : InstAt s.heap H (instObj 53 DH) 53 (some (fD w.params S n M u1 u2 u3 u4)) := InstAt.of_news N (List.mem_append_left _ (.tail _ C.hH)) (List.mem_append_left _ (.tail _ C.hDH))
    exact I.type.here q
  hint := by
    rintro A m s xs led extra Q E ⟨p, t3, R, rfl⟩ F N q
    have I : InstAt s.heap H (instObj 53 DH) 53 (some (fD w.params S n M u1 u2 u3 u4)) := InstAt.of_news N (List.mem_append_left _ (.tail _ C.hH)) (List.mem_append_left _ (.tail _ C.hDH))
    have X := CC.X.keeps F.keep
    unfold Builtin.List.listLengthHint
    refine wpAny_bind (wpAny_bind (I.type.here ((looks_findIn X (fw_no_len w.params)).here ?_)))
    dsimp only
    show wpAny _ _ (specialOf (.ref H) "__length_hint__" >>= _) _ _ _
    refine wpAny_bind (wpAny_bind (I.type.here ((looks_findIn X (fw_no_hint w.params)).here ?_)))
    exact wpAny_pure q
  here := by
    rintro xs led ⟨p, t3, R, rfl⟩
    exact ⟨_, .tail _ C.hH⟩
  wled := by
    rintro xs led ⟨p, t3, R, rfl⟩ x rfl
    exact .head _

theorem plain_ci : plainId "proto.contains_iter" = true := by decide +kernel
theorem entry_ci : entryFor table "proto.contains_iter" = some Builtin.«proto.contains_iter» := by first | exact entryFor_of_fast (by kernel_rfl) | exact entryFor_of_tree (by kernel_rfl)

/-- how many pieces a search takes -/
noncomputable def usedIn (x : Array UInt8) : List (Array UInt8) → Nat
  | [] => 0
  | b :: r => if b = x then 1 else usedIn x r + 1

theorem contains_loop (CC : CL w mean mg mb A₀ outer h₀) (C : HC w rest S DS BA H DH M d n u1 u2 u3 u4) (hk : cs.kind = .function) {x : Array UInt8} {t : Tok} (A : Around) (hA : OkA cn cs L a ccd cl outer 0 A.in1) : ∀ (ps : List (Array UInt8)) (s : Shared) (led : List (Addr × Obj)) (R : Result → Shared → Prop),
    LedB w rest DS BA t1 t2 d n ps led → Fr h₀ L s.heap m → News h₀ L s.heap led →
    (∀ led' h' tk', LedB w rest DS BA t1 t2 d n (ps.drop (usedIn x ps)) led' → Fr h₀ L h' m → News h₀ L h' led' → R (.ok (.ret (.bool (decide (x ∈ ps))))) { s with heap := h', toks := tk' }) →
    codeAny (model pwS w) A (.builtin "proto.contains_iter" ⟨[.ref H, .bytes x t], []⟩) R s := by
  intro ps
  induction ps with
  | nil =>
    intro s led R hl F N hR
    refine codeAny_builtin entry_ci ?_
    rw [Around.under_plainId plain_ci _]
    show wpAny _ A.in1 (pyNext (.ref H) >>= _) _ _ s
    refine wpAny_bind ((handItr (t1 := t1) (t2 := t2) CC C hk).nx _ hA m s [] led [] _ _ hl (fun q hq => nomatch hq) F (by simpa using N) (fun x ys v own led' h' tk' e => by cases e) (fun _ led' h' tk' hl' he F' N' => ?_))
    refine wpAny_bind (wpAny_rule (wpAny_pure ?_))
    simpa using hR led' h' tk' (by simpa [usedIn] using hl') F' (by simpa using N')
  | cons b ps ih =>
    intro s led R hl F N hR
    refine codeAny_builtin entry_ci ?_
    rw [Around.under_plainId plain_ci _]
    show wpAny _ A.in1 (pyNext (.ref H) >>= _) _ _ s
    refine wpAny_bind ((handItr (t1 := t1) (t2 := t2) CC C hk).nx _ hA m s (b :: ps) led [] _ _ hl (fun q hq => nomatch hq) F (by simpa using N) (fun x' ys v own led' h' tk' e hi hl' he ho F' N' => ?_) (fun e => by cases e))
    cases e
    obtain ⟨⟨t', rfl⟩, rfl⟩ := hi
    refine wpAny_bind (eqBool_bytes ?_)
    by_cases hb : b = x
    · subst hb
      rw [decide_eq_true rfl]
      show wpAny _ _ (if true = true then _ else _) _ _ _
      rw [if_pos rfl]
      refine wpAny_bind (wpAny_rule (wpAny_pure ?_))
      simpa using hR led' h' tk' (by simpa [usedIn] using hl') F' (by simpa using N')
    · rw [decide_eq_false hb]
      show wpAny _ _ (if false = true then _ else _) _ _ _
      rw [if_neg (by decide)]
      refine wpAny_pure ⟨plainId_quiet plain_ci _, ih _ led' _ hl' F' (by simpa using N') fun led2 h2 tk2 hl2 F2 N2 => ?_⟩
      have := hR led2 h2 tk2 (by simpa [usedIn, hb] using hl2) F2 N2
      simpa [Ne.symm hb, eq_comm] using this

theorem in_hand (CC : CL w mean mg mb A₀ outer h₀) (C : HC w rest S DS BA H DH M d n u1 u2 u3 u4) (hk : cs.kind = .function) {x : Array UInt8} {t : Tok} {A : Around} (hA : OkA cn cs L a ccd cl outer 1 A) {ps : List (Array UInt8)} {led : List (Addr × Obj)} {Q : Value → Shared → Prop} {E : Value → Shared → Prop}
    (hl : LedB w rest DS BA t1 t2 d n ps led) (F : Fr h₀ L s.heap m) (N : News h₀ L s.heap led)
    (hQ : ∀ led' h' tk', LedB w rest DS BA t1 t2 d n (ps.drop (usedIn x ps)) led' → Fr h₀ L h' m → News h₀ L h' led' → Q (.bool (decide (x ∈ ps))) { s with heap := h', toks := tk' }) :
    wpAny (model pwS w) A (compareOp .In (.bytes x t) (.ref H)) Q E s := by
  have hH : (H, instObj 53 DH) ∈ led := by obtain ⟨p, t3, R, rfl⟩ := hl; exact .tail _ C.hH
  have hDH : (DH, fD w.params S n M u1 u2 u3 u4) ∈ led := by obtain ⟨p, t3, R, rfl⟩ := hl; exact .tail _ C.hDH
  have I : InstAt s.heap H (instObj 53 DH) 53 (some (fD w.params S n M u1 u2 u3 u4)) := InstAt.of_news N hH hDH
  have X := CC.X.keeps F.keep
  show wpAny _ _ (contains (.ref H) (.bytes x t) >>= _) _ _ _
  refine wpAny_bind ?_
  unfold contains
  refine wpAny_holding ?_
  show wpAny _ _ (specialOf (.ref H) "__contains__" >>= _) _ _ _
  refine wpAny_bind (wpAny_bind (I.type.here ((looks_findIn X (fw_no_contains w.params)).here ?_)))
  rw [if_neg (show ¬ ((none : Option Value) == some Value.none) = true from by decide)]
  refine wpAny_bind ?_
  unfold callSpecialUnlessNone?
  refine wpAny_bind (wpAny_bind (I.type.here ((looks_findIn X (fw_no_contains w.params)).here ?_)))
  refine wpAny_pure ?_
  refine wpAny_bind (wpAny_rule ?_)
  refine wpAny_bind (wpAny_tryCatch ((handItr (t1 := t1) (t2 := t2) CC C hk).it A (hA.le (by omega)) m s ps led [] _ _ hl F (by simpa using N) fun h1 tk1 F1 N1 => ?_))
  refine wpAny_bind (wpAny_runValue ?_)
  refine contains_loop CC C hk A hA.in1 ps _ led _ hl F1 (by simpa using N1) fun led' h' tk' hl' F' N' => ?_
  exact wpAny_pure (wpAny_pure (hQ led' h' tk' hl' F' N'))
end
end

section
open PySem PySem.W PyProof.Rows PySem.Calls
theorem wpAny_lia {M : Model} {A : Around} {E : Value → Shared → Prop} {s : Shared} {a : Addr} {o : Obj} {Q : Option Obj → Shared → Prop} (ho : s.heap.get? a = some o) (h : Q (some o) s) : wpAny M A (loadIfAlive a) Q E s := fun Γ p hΓ => by
  unfold loadIfAlive
  rw [Sem.wp_loadIfAlive, ho]
  exact wpAny_pure h Γ p hΓ

noncomputable def zO (f0 : Value) (f1 : Bool) (TI TO : Addr) : Obj := { cls := .type "zip", data := .fields #[f0, .bool f1, .bool false, .ref TI, .ref TO] }
noncomputable def pO (x y : Value) (k : Nat := 0) : Obj := { cls := .type "tuple", data := .seq #[x, y] k }

/-- two and two -/
noncomputable def pairs {β : Type} : List β → List (β × β)
  | x :: y :: r => (x, y) :: pairs r
  | _ => []

section
variable {w : World} {mean : ExcName → Option Value} {mg mb : Str → Option Value} {dp un : Nat} {gd : Option (List Code)} {cn : Str} {cs : Scope} {a : Addr} {ccd : Value} {cl : List (Str × Addr)} {outer : List Env} {A₀ : Around} {h₀ : Heap} {L : Addr} {m : Str → Option Value} {s : Shared} {E : Value → Shared → Prop}
  {rest : List (Addr × Obj)} {S DS BA H DH M : Addr} {p : Int} {t1 t2 t3 : Tok} {d : Array UInt8} {n : Int} {u1 u2 u3 u4 : Tok} {ps : List (Array UInt8)} {Z TI TO : Addr}

theorem hand_draw (CC : CL w mean mg mb A₀ outer h₀) (C : HC w rest S DS BA H DH M d n u1 u2 u3 u4) (hk : cs.kind = .function) (hd : dp + 9 < recursionLimit) (hu : un + 80 < cLine) (F : Fr h₀ L s.heap m)
    {Q : Value → Shared → Prop} (R : Rem d n p ps) (N : News h₀ L s.heap ((DS, sD w.params BA p t1 t2 t3) :: rest))
    (hsome : ∀ b qs p', ps = b :: qs → Rem d n p' qs → ∀ h' tk' t' t3', Fr h₀ L h' m → News h₀ L h' ((DS, sD w.params BA p' t1 t2 t3') :: rest) → Q (.bytes b t') { s with heap := h', toks := tk' })
    (hnone : ps = [] → ∀ e h' tk' t3', (⟨h', s.gens, s.drawn, tk', s.os⟩ : Shared).TypeIs (.ref e) "StopIteration" → Fr h₀ L h' m → News h₀ L h' ((DS, sD w.params BA p t1 t2 t3') :: rest) → E (.ref e) { s with heap := h', toks := tk' }) :
    wpAny (model pwS w) (ktrTop dp un gd cn cs L a ccd cl outer) (Builtin.SmallTypes.nextOf (.ref H)) Q E s := by
  unfold Builtin.SmallTypes.nextOf
  refine wpAny_bind (rem_raw CC C hk hd hu F R N (fun b qs p' e R' h' tk' t' t3' F' N' => ?_) hnone)
  exact wpAny_pure (hsome b qs p' e R' h' tk' t' t3' F' N')

/-- what stays of a zip of the wrapper with itself -/
structure ZC (rest : List (Addr × Obj)) (DS H Z TI TO : Addr) : Prop where
  ZD : Z ≠ DS
  TD : TO ≠ DS
  ZT : Z ≠ TO
  hI : (TI, pO (.ref H) (.ref H)) ∈ rest
  hr : ∀ q ∈ rest, q.1 ≠ Z ∧ q.1 ≠ TO

/-- the ledger, in one order -/
noncomputable abbrev zL (P : Params) (DS BA : Addr) (p : Int) (t1 t2 t3 : Tok) (rest : List (Addr × Obj)) (Z TI TO : Addr) (f0 : Value) (f1 : Bool) (to : Obj) (Y : List (Addr × Obj)) : List (Addr × Obj) :=
  (DS, sD P BA p t1 t2 t3) :: (rest ++ ((Z, zO f0 f1 TI TO) :: (TO, to) :: Y))

variable {f0 : Value} {f1 : Bool} {to : Obj} {Y : List (Addr × Obj)}

theorem zset (C : HC w rest S DS BA H DH M d n u1 u2 u3 u4) (D : ZC rest DS H Z TI TO) (hY : ∀ q ∈ Y, q.1 ≠ DS ∧ q.1 ≠ Z ∧ q.1 ≠ TO) {A : Around} {i : Nat} {x : Value} {g0 : Value} {g1 : Bool} (hi : i < 5) (F : Fr h₀ L s.heap m)
    (N : News h₀ L s.heap (zL w.params DS BA p t1 t2 t3 rest Z TI TO f0 f1 to Y)) (e : (#[f0, .bool f1, .bool false, .ref TI, .ref TO] : Array Value).setIfInBounds i x = #[g0, .bool g1, .bool false, .ref TI, .ref TO])
    {Q : Unit → Shared → Prop} (hQ : ∀ h', Fr h₀ L h' m → News h₀ L h' (zL w.params DS BA p t1 t2 t3 rest Z TI TO g0 g1 to Y) → (∀ b, b ≠ Z → h'.get? b = s.heap.get? b) → Q () { s with heap := h' }) : wpAny (model pwS w) A (setField (.ref Z) i x) Q E s := by
  have g := News.get (o := zO f0 f1 TI TO) N (by simp : (Z, zO f0 f1 TI TO) ∈ _)
  obtain ⟨F1, N1⟩ := news_upd (pre := (DS, sD w.params BA p t1 t2 t3) :: rest) (post := (TO, to) :: Y) (f := Obj.mapFields (·.setIfInBounds i x)) (o' := zO g0 g1 TI TO) F N
    (fun q hq => by rcases List.mem_cons.mp hq with rfl | hq; exact Ne.symm D.ZD; exact (D.hr q hq).1) (fun q hq => by rcases List.mem_cons.mp hq with rfl | hq; exact Ne.symm D.ZT; exact (hY q hq).2.1) (by simp only [Obj.mapFields, zO, e]) rfl
  exact wpAny_setField g rfl (by simpa using hi) (hQ _ F1 N1 fun b hb => Heap.get?_update_ne _ _ _ _ hb)

theorem tset (C : HC w rest S DS BA H DH M d n u1 u2 u3 u4) (D : ZC rest DS H Z TI TO) (hY : ∀ q ∈ Y, q.1 ≠ DS ∧ q.1 ≠ Z ∧ q.1 ≠ TO) {A : Around} {i : Nat} {x y v x' y' : Value} (F : Fr h₀ L s.heap m)
    (N : News h₀ L s.heap (zL w.params DS BA p t1 t2 t3 rest Z TI TO f0 f1 (pO x y) Y)) (e : (#[x, y] : Array Value).setIfInBounds i v = #[x', y'])
    {Q : Unit → Shared → Prop} (hQ : ∀ h', Fr h₀ L h' m → News h₀ L h' (zL w.params DS BA p t1 t2 t3 rest Z TI TO f0 f1 (pO x' y') Y) → Q () { s with heap := h' }) : wpAny (model pwS w) A (updateSeq TO (·.setIfInBounds i v)) Q E s := by
  have g := News.get (o := pO x y) N (by simp : (TO, pO x y) ∈ _)
  obtain ⟨F1, N1⟩ := news_upd (pre := (DS, sD w.params BA p t1 t2 t3) :: (rest ++ [(Z, zO f0 f1 TI TO)])) (post := Y) (f := Obj.mapSeq (·.setIfInBounds i v)) (o' := pO x' y') F (by simpa using N)
    (fun q hq => by
      rcases List.mem_cons.mp hq with rfl | hq
      · exact Ne.symm D.TD
      · rcases List.mem_append.mp hq with hq | hq
        · exact (D.hr q hq).2
        · rw [List.mem_singleton.mp hq]; exact D.ZT) (fun q hq => (hY q hq).2.2) (by simp [Obj.mapSeq, pO, e]) rfl
  exact wpAny_updateSeq g rfl (hQ _ F1 (by simpa using N1)) (by rw [sizeLine_eq]; simp) (by rw [sizeLine_eq]; simp)
end
end

section
open PySem PySem.W PyProof.Rows PySem.Calls
section
variable {w : World} {mean : ExcName → Option Value} {mg mb : Str → Option Value} {dp un : Nat} {gd : Option (List Code)} {cn : Str} {cs : Scope} {a : Addr} {ccd : Value} {cl : List (Str × Addr)} {outer : List Env} {A₀ : Around} {h₀ : Heap} {L : Addr} {m : Str → Option Value} {s : Shared} {E : Value → Shared → Prop}
  {rest : List (Addr × Obj)} {S DS BA H DH M : Addr} {p : Int} {t1 t2 t3 : Tok} {d : Array UInt8} {n : Int} {u1 u2 u3 u4 : Tok} {ps : List (Array UInt8)} {Z TI TO : Addr} {f0 : Value} {f1 : Bool} {Y : List (Addr × Obj)}

theorem zdraw (CC : CL w mean mg mb A₀ outer h₀) (C : HC w rest S DS BA H DH M d n u1 u2 u3 u4) (D : ZC rest DS H Z TI TO) (hY : ∀ q ∈ Y, q.1 ≠ DS ∧ q.1 ≠ Z ∧ q.1 ≠ TO) (hk : cs.kind = .function) (hd : dp + 9 < recursionLimit) (hu : un + 80 < cLine) (F : Fr h₀ L s.heap m)
    {Q : Value → Shared → Prop} {to : Obj} (R : Rem d n p ps) (N : News h₀ L s.heap (zL w.params DS BA p t1 t2 t3 rest Z TI TO f0 f1 to Y))
    (hsome : ∀ b qs p', ps = b :: qs → Rem d n p' qs → ∀ h' tk' t' t3', Fr h₀ L h' m → News h₀ L h' (zL w.params DS BA p' t1 t2 t3' rest Z TI TO f0 f1 to Y) → Q (.bytes b t') { s with heap := h', toks := tk' })
    (hnone : ps = [] → ∀ e h' tk' t3', (⟨h', s.gens, s.drawn, tk', s.os⟩ : Shared).TypeIs (.ref e) "StopIteration" → Fr h₀ L h' m → News h₀ L h' (zL w.params DS BA p t1 t2 t3' rest Z TI TO f0 f1 to Y) → E (.ref e) { s with heap := h', toks := tk' }) :
    wpAny (model pwS w) (ktrTop dp un gd cn cs L a ccd cl outer) (Builtin.SmallTypes.nextOf (.ref H)) Q E s :=
  hand_draw CC (C.more fun q hq => by
    rcases List.mem_cons.mp hq with rfl | hq
    · exact D.ZD
    · rcases List.mem_cons.mp hq with rfl | hq
      · exact D.TD
      · exact (hY q hq).1) hk hd hu F R N hsome hnone

theorem keep_exc {h' h₃ : Heap} {g dr tk os} {e : Addr} (hZ : h'.get? Z = some (zO f0 f1 TI TO)) (hT : (⟨h', g, dr, tk, os⟩ : Shared).TypeIs (.ref e) "StopIteration") (k : ∀ b, b ≠ Z → h₃.get? b = h'.get? b) :
    (⟨h₃, g, dr, tk, os⟩ : Shared).TypeIs (.ref e) "StopIteration" := by
  obtain ⟨o, ho, hc⟩ := hT
  refine ⟨o, (k e fun q => ?_).trans ho, hc⟩
  subst q
  rw [show h'.get? e = some o from ho] at hZ
  cases hZ
  simp [zO] at hc

theorem zip_body (CC : CL w mean mg mb A₀ outer h₀) (C : HC w rest S DS BA H DH M d n u1 u2 u3 u4) (D : ZC rest DS H Z TI TO) (hY : ∀ q ∈ Y, q.1 ≠ DS ∧ q.1 ≠ Z ∧ q.1 ≠ TO) (hk : cs.kind = .function) (hd : dp + 9 < recursionLimit) (hu : un + 80 < cLine) (F : Fr h₀ L s.heap m)
    {Q : Value → Shared → Prop} {x0 y0 : Value} (R : Rem d n p ps) (hf : f0 = .none ∨ ∃ T o, f0 = rawInt (T : Nat) ∧ (T, o) ∈ Y) (N : News h₀ L s.heap (zL w.params DS BA p t1 t2 t3 rest Z TI TO f0 f1 (pO x0 y0) Y))
    (hsome : ∀ b c qs p', ps = b :: c :: qs → Rem d n p' qs → ∀ T h' tk' t3' t t' x1 y1 g0 g1, (T ≠ DS ∧ T ≠ Z ∧ T ≠ TO) → Fr h₀ L h' m → News h₀ L h' ((T, pO (.bytes b t) (.bytes c t')) :: zL w.params DS BA p' t1 t2 t3' rest Z TI TO g0 g1 (pO x1 y1) Y) →
      (g0 = rawInt (T : Nat) ∨ (g0 = f0 ∧ ∃ T o, f0 = rawInt (T : Nat) ∧ (T, o) ∈ Y)) → Q (.ref T) { s with heap := h', toks := tk' })
    (hnone : pairs ps = [] → ∀ e h' tk' p' t3' x1 y1 g0 g1, (⟨h', s.gens, s.drawn, tk', s.os⟩ : Shared).TypeIs (.ref e) "StopIteration" → Rem d n p' [] → Fr h₀ L h' m → News h₀ L h' (zL w.params DS BA p' t1 t2 t3' rest Z TI TO g0 g1 (pO x1 y1) Y) → E (.ref e) { s with heap := h', toks := tk' }) :
    wpAny (model pwS w) (ktrTop dp un gd cn cs L a ccd cl outer) (Builtin.«zip.__next__» ⟨[.ref Z], []⟩) (fun fin s' => ∃ v, fin = .done (.ret v) ∧ Q v s') E s := by
  have hz : s.heap.get? Z = some (zO f0 f1 TI TO) := News.get N (by simp)
  have hTI : s.heap.get? TI = some (pO (.ref H) (.ref H)) := News.get N (.tail _ (List.mem_append_left _ D.hI))
  show wpAny _ _ (field (.ref Z) 2 >>= _) _ _ _
  refine wpAny_bind (wpAny_field hz rfl (x := .bool false) rfl ?_)
  show wpAny _ _ (field (.ref Z) 3 >>= _) _ _ _
  refine wpAny_bind (wpAny_field hz rfl (x := .ref TI) rfl ?_)
  refine wpAny_bind (wpAny_seqItems hTI rfl ?_)
  show wpAny _ _ (Builtin.SmallTypes.ownedTupleIsFree (.ref Z) >>= _) _ _ _
  refine wpAny_bind ?_
  unfold Builtin.SmallTypes.ownedTupleIsFree
  refine wpAny_bind (wpAny_field hz rfl (x := f0) rfl ?_)
  rcases hf with rfl | ⟨T, oT, rfl, hT⟩
  · refine wpAny_pure ?_
    simp only [if_true]
    refine wpAny_bind (wpAny_rule ?_)
    refine wpAny_bind (wpAny_field hz rfl (x := .ref TO) rfl ?_)
    refine wpAny_bind (zset C D hY (i := 0) (x := .ellipsis) (g0 := .ellipsis) (g1 := f1) (by decide) F N rfl fun h1 F1 N1 k1 => ?_)
    refine wpAny_bind ?_
    simp only [List.zipIdx_cons, List.zipIdx_nil, List.forIn_cons, List.forIn_nil]
    refine wpAny_bind (wpAny_bind (wpAny_onRaise ?_))
    show wpAny _ _ (Builtin.SmallTypes.nextOf (.ref H) >>= _) _ _ _
    refine wpAny_bind (zdraw CC C D hY hk hd hu F1 R N1 (fun b qs p1 e1 R1 h2 tk2 tb t32 F2 N2 => wpAny_pure ?_) (fun e1 e h2 tk2 t32 he F2 N2 => ?_))
    · have hTO2 : h2.get? TO = some (pO x0 y0) := News.get N2 (by simp)
      refine wpAny_bind (wpAny_seqItems hTO2 rfl ?_)
      refine wpAny_bind (tset C D hY (i := 0) (v := .bytes b tb) (x' := .bytes b tb) (y' := y0) F2 N2 rfl fun h3 F3 N3 => ?_)
      refine wpAny_bind (wpAny_letGo (wpAny_pure ?_))
      refine wpAny_bind (wpAny_bind (wpAny_onRaise ?_))
      show wpAny _ _ (Builtin.SmallTypes.nextOf (.ref H) >>= _) _ _ _
      refine wpAny_bind (zdraw CC C D hY hk hd hu F3 R1 N3 (fun c qs2 p2 e2 R2 h4 tk4 tc t34 F4 N4 => wpAny_pure ?_) (fun e2 e h4 tk4 t34 he F4 N4 => ?_))
      · subst e1 e2
        have hTO4 : h4.get? TO = some (pO (.bytes b tb) y0) := News.get N4 (by simp)
        refine wpAny_bind (wpAny_seqItems hTO4 rfl ?_)
        refine wpAny_bind (tset C D hY (i := 1) (v := .bytes c tc) (x' := .bytes b tb) (y' := .bytes c tc) F4 N4 rfl fun h5 F5 N5 => ?_)
        refine wpAny_bind (wpAny_letGo (wpAny_pure (wpAny_pure ?_)))
        have hTO5 : h5.get? TO = some (pO (.bytes b tb) (.bytes c tc)) := News.get N5 (by simp)
        refine wpAny_bind (wpAny_seqItems hTO5 rfl ?_)
        refine wpAny_bind (wpAny_newTuple ?_ (by rw [sizeLine_eq]; simp))
        show wpAny _ _ (Builtin.SmallTypes.ownedTupleHandOut (.ref Z) (.ref h5.objs.size) >>= _) _ _ _
        have lt : ∀ {c o}, h5.get? c = some o → h5.objs.size ≠ c := fun e => Nat.ne_of_gt (Heap.lt_size e)
        have g1 : h5.get? DS = some _ := News.get N5 (.head _)
        have g2 : h5.get? Z = some (zO .ellipsis f1 TI TO) := News.get N5 (by simp)
        have f1' := F5.push (pO (.bytes b tb) (.bytes c tc))
        have n1' := News.push F5 N5 (pO (.bytes b tb) (.bytes c tc))
        have hY' : ∀ q ∈ (h5.objs.size, pO (.bytes b tb) (.bytes c tc)) :: Y, q.1 ≠ DS ∧ q.1 ≠ Z ∧ q.1 ≠ TO := fun q hq => by
          rcases List.mem_cons.mp hq with rfl | hq
          · exact ⟨lt g1, lt g2, lt hTO5⟩
          · exact hY q hq
        replace n1' : News h₀ L (h5.push (pO (.bytes b tb) (.bytes c tc))) (zL w.params DS BA p2 t1 t2 t34 rest Z TI TO .ellipsis f1 (pO (.bytes b tb) (.bytes c tc)) ((h5.objs.size, pO (.bytes b tb) (.bytes c tc)) :: Y)) := news_sub n1' fun q hq => by
          simp only [List.mem_append, List.mem_cons] at hq ⊢
          rcases hq with h | h | h | h | h | h <;> simp [h]
        refine wpAny_bind ?_
        unfold Builtin.SmallTypes.ownedTupleHandOut
        refine wpAny_bind (zset (s := { s with heap := h5.push (pO (.bytes b tb) (.bytes c tc)), toks := tk4 }) C D hY' (i := 0) (x := rawInt (h5.objs.size : Nat)) (g0 := rawInt (h5.objs.size : Nat)) (g1 := f1) (by decide) f1' n1' rfl fun h6 F6 N6 k6 => ?_)
        refine zset C D hY' (i := 1) (x := .bool false) (g0 := rawInt (h5.objs.size : Nat)) (g1 := false) (by decide) F6 N6 rfl fun h7 F7 N7 k7 => ?_
        refine wpAny_pure ⟨_, rfl, ?_⟩
        refine hsome b c qs2 p2 rfl R2 h5.objs.size h7 tk4 t34 tb tc (.bytes b tb) (.bytes c tc) (rawInt (h5.objs.size : Nat)) false ⟨lt g1, lt g2, lt hTO5⟩ F7 (news_sub N7 fun q hq => ?_) (.inl rfl)
        simp only [List.mem_append, List.mem_cons] at hq ⊢
        rcases hq with h | h | h | h | h | h <;> simp [h]
      · subst e1 e2
        refine zset C D hY (s := { s with heap := h4, toks := tk4 }) (i := 0) (x := .none) (g0 := .none) (g1 := f1) (by decide) F4 N4 rfl fun h5 F5 N5 k5 => ?_
        exact hnone rfl e h5 tk4 p1 t34 _ _ _ _ (keep_exc (News.get (o := zO .ellipsis f1 TI TO) N4 (by simp)) he k5) R1 F5 N5
    · subst e1
      refine zset C D hY (s := { s with heap := h2, toks := tk2 }) (i := 0) (x := .none) (g0 := .none) (g1 := f1) (by decide) F2 N2 rfl fun h5 F5 N5 k5 => ?_
      exact hnone rfl e h5 tk2 p t32 _ _ _ _ (keep_exc (News.get (o := zO .ellipsis f1 TI TO) N2 (by simp)) he k5) R F5 N5
  · have hTg : s.heap.get? T = some oT := News.get N (by simp [hT])
    show wpAny _ _ (loadIfAlive (Int.toNat (T : Nat)) >>= _) _ _ _
    rw [Int.toNat_natCast]
    refine wpAny_bind (wpAny_lia hTg ?_)
    show wpAny _ _ (field (.ref Z) 1 >>= _) _ _ _
    refine wpAny_bind (wpAny_field hz rfl (x := .bool f1) rfl ?_)
    have pre : ∀ (Q' : Bool → Shared → Prop), (∀ h1, Fr h₀ L h1 m → News h₀ L h1 (zL w.params DS BA p t1 t2 t3 rest Z TI TO (rawInt (T : Nat)) true (pO x0 y0) Y) → Q' false { s with heap := h1 }) →
        wpAny (model pwS w) (ktrTop dp un gd cn cs L a ccd cl outer) (if (Value.bool f1 != Value.bool true) = true then (do setField (.ref Z) 1 (.bool true); pure false) else (do pure PUnit.unit; pure false)) Q' E s := by
      intro Q' hq
      cases f1
      · rw [if_pos (by decide)]
        exact wpAny_bind (zset C D hY (i := 1) (x := .bool true) (g0 := rawInt (T : Nat)) (g1 := true) (by decide) F N rfl fun h1 F1 N1 k1 => wpAny_pure (hq h1 F1 N1))
      · rw [if_neg (by decide)]
        exact wpAny_bind (wpAny_pure (wpAny_pure (hq s.heap F N)))
    refine pre _ fun h1 F1 N1 => ?_
    have hTI1 : h1.get? TI = some (pO (.ref H) (.ref H)) := News.get N1 (.tail _ (List.mem_append_left _ D.hI))
    show wpAny _ _ (if false = true then _ else _) _ _ _
    rw [if_neg (by decide)]
    simp only [← Array.forIn_toList, List.forIn_cons, List.forIn_nil]
    refine wpAny_bind (wpAny_bind (wpAny_bind (wpAny_holding ?_)))
    show wpAny _ _ (Builtin.SmallTypes.nextOf (.ref H) >>= _) _ _ _
    refine wpAny_bind (zdraw CC C D hY hk hd hu F1 R N1 (fun b qs p1 e1 R1 h2 tk2 tb t32 F2 N2 => wpAny_pure (wpAny_pure ?_)) (fun e1 e h2 tk2 t32 he F2 N2 => ?_))
    · refine wpAny_bind (wpAny_bind (wpAny_holding ?_))
      show wpAny _ _ (Builtin.SmallTypes.nextOf (.ref H) >>= _) _ _ _
      refine wpAny_bind (zdraw CC C D hY hk hd hu F2 R1 N2 (fun c qs2 p2 e2 R2 h4 tk4 tc t34 F4 N4 => wpAny_pure (wpAny_pure ?_)) (fun e2 e h4 tk4 t34 he F4 N4 => ?_))
      · subst e1 e2
        refine wpAny_pure ?_
        refine wpAny_bind (wpAny_newTuple ?_ (by rw [sizeLine_eq]; simp))
        have lt : ∀ {c o}, h4.get? c = some o → h4.objs.size ≠ c := fun e => Nat.ne_of_gt (Heap.lt_size e)
        have g1 : h4.get? DS = some _ := News.get N4 (.head _)
        have g2 : h4.get? Z = some (zO (rawInt (T : Nat)) true TI TO) := News.get N4 (by simp)
        have g3 : h4.get? TO = some (pO x0 y0) := News.get N4 (by simp)
        refine wpAny_pure ⟨_, rfl, ?_⟩
        exact hsome b c qs2 p2 rfl R2 h4.objs.size _ tk4 t34 tb tc _ _ _ _ ⟨lt g1, lt g2, lt g3⟩ (F4.push (pO (.bytes b tb) (.bytes c tc))) (News.push F4 N4 (pO (.bytes b tb) (.bytes c tc))) (.inr ⟨rfl, _, _, rfl, hT⟩)
      · subst e1 e2
        exact hnone rfl e h4 tk4 p1 t34 _ _ _ _ he R1 F4 N4
    · subst e1
      exact hnone rfl e h2 tk2 p t32 _ _ _ _ he R F2 N2
end
end

section
open PySem PySem.W PyProof.Rows PySem.Calls
/-- a pair of pieces, as a value -/
noncomputable def ItemP (b : Array UInt8 × Array UInt8) (v : Value) (own : List (Addr × Obj)) : Prop := ∃ T t t', v = .ref T ∧ own = [(T, pO (.bytes b.1 t) (.bytes b.2 t'))]

noncomputable def LedZ (w : World) (rest : List (Addr × Obj)) (DS BA : Addr) (t1 t2 : Tok) (d : Array UInt8) (n : Int) (ps₀ : List (Array UInt8)) (Z TI TO : Addr) (prs : List (Array UInt8 × Array UInt8)) (led : List (Addr × Obj)) : Prop :=
  ∃ ps p t3 f0 f1 x y Y, (∃ j, ps = ps₀.drop (2 * j) ∧ j + prs.length = (pairs ps₀).length) ∧ prs = pairs ps ∧ Rem d n p ps ∧ led = zL w.params DS BA p t1 t2 t3 rest Z TI TO f0 f1 (pO x y) Y ∧ (∀ q ∈ Y, q.1 ≠ DS ∧ q.1 ≠ Z ∧ q.1 ≠ TO) ∧ (f0 = .none ∨ ∃ T o, f0 = rawInt (T : Nat) ∧ (T, o) ∈ Y)
noncomputable def FinZ (w : World) (rest : List (Addr × Obj)) (DS BA : Addr) (t1 t2 : Tok) (d : Array UInt8) (n : Int) (led : List (Addr × Obj)) : Prop :=
  ∃ p t3 more, Rem d n p [] ∧ led = (DS, sD w.params BA p t1 t2 t3) :: (rest ++ more) ∧ ∀ q ∈ more, q.1 ≠ DS

theorem zip_no_len : typeLookup (.type "zip") "__len__" = pure none := by rw [typeLookup_type, builtinLookup_eq_fast]; kernel_rfl
theorem zip_no_hint : typeLookup (.type "zip") "__length_hint__" = pure none := by rw [typeLookup_type, builtinLookup_eq_fast]; kernel_rfl
theorem pairs_cons {β : Type} {l : List β} {x : β × β} {ys : List (β × β)} (h : pairs l = x :: ys) : ∃ b c r, l = b :: c :: r ∧ x = (b, c) ∧ ys = pairs r := by
  match l, h with
  | b :: c :: r, h => simp only [pairs, List.cons.injEq] at h; exact ⟨b, c, r, rfl, h.1.symm, h.2.symm⟩

theorem drop2 {β : Type} {l qs : List β} {b c : β} {j : Nat} (h : b :: c :: qs = l.drop (2 * j)) : qs = l.drop (2 * (j + 1)) := by
  have := congrArg (List.drop 2) h
  rw [List.drop_drop] at this
  simpa [Nat.mul_add] using this
section
variable {w : World} {mean : ExcName → Option Value} {mg mb : Str → Option Value} {dp un : Nat} {gd : Option (List Code)} {cn : Str} {cs : Scope} {a : Addr} {ccd : Value} {cl : List (Str × Addr)} {outer : List Env} {A₀ : Around} {h₀ : Heap} {L : Addr} {m : Str → Option Value} {s : Shared} {E : Value → Shared → Prop}
  {rest : List (Addr × Obj)} {S DS BA H DH M : Addr} {p : Int} {t1 t2 t3 : Tok} {d : Array UInt8} {n : Int} {u1 u2 u3 u4 : Tok} {ps : List (Array UInt8)} {Z TI TO : Addr} {f0 : Value} {f1 : Bool} {Y : List (Addr × Obj)}

theorem zip_next (CC : CL w mean mg mb A₀ outer h₀) (C : HC w rest S DS BA H DH M d n u1 u2 u3 u4) (D : ZC rest DS H Z TI TO) (hY : ∀ q ∈ Y, q.1 ≠ DS ∧ q.1 ≠ Z ∧ q.1 ≠ TO) (hk : cs.kind = .function) {A : Around} (hA : OkA cn cs L a ccd cl outer 1 A) (F : Fr h₀ L s.heap m)
    {Q : Option Value → Shared → Prop} {x0 y0 : Value} (R : Rem d n p ps) (hf : f0 = .none ∨ ∃ T o, f0 = rawInt (T : Nat) ∧ (T, o) ∈ Y) (N : News h₀ L s.heap (zL w.params DS BA p t1 t2 t3 rest Z TI TO f0 f1 (pO x0 y0) Y))
    (hsome : ∀ b c qs p', ps = b :: c :: qs → Rem d n p' qs → ∀ T h' tk' t3' t t' x1 y1 g0 g1, (T ≠ DS ∧ T ≠ Z ∧ T ≠ TO) → Fr h₀ L h' m → News h₀ L h' ((T, pO (.bytes b t) (.bytes c t')) :: zL w.params DS BA p' t1 t2 t3' rest Z TI TO g0 g1 (pO x1 y1) Y) →
      (g0 = rawInt (T : Nat) ∨ (g0 = f0 ∧ ∃ T o, f0 = rawInt (T : Nat) ∧ (T, o) ∈ Y)) → Q (some (.ref T)) { s with heap := h', toks := tk' })
    (hnone : pairs ps = [] → ∀ h' tk' p' t3' x1 y1 g0 g1, Rem d n p' [] → Fr h₀ L h' m → News h₀ L h' (zL w.params DS BA p' t1 t2 t3' rest Z TI TO g0 g1 (pO x1 y1) Y) → Q none { s with heap := h', toks := tk' }) :
    wpAny (model pwS w) A (pyNext (.ref Z)) Q E s := by
  have hT : s.TypeIs (.ref Z) "zip" := ⟨zO f0 f1 TI TO, News.get N (by simp), rfl⟩
  obtain ⟨dp, un, gd, hA1, hd, hu⟩ := hA.in1
  unfold pyNext
  refine wpAny_bind (wpAny_attempt (wpAny_callSpecial?_slot (name := Str.ofString "__next__") hT PySem.F.slot_zip_next (wpAny_call_entry PySem.F.slot_zip_next hT PySem.F.entry_zip_next ?_ (PySem.F.args_zip_next_1 _))))
  rw [hA1]
  refine zip_body CC C D hY hk hd (by omega) F R hf N (fun b c qs p' e R' T h' tk' t3' t t' x1 y1 g0 g1 hT' F' N' hg => ?_) (fun e0 e h' tk' p' t3' x1 y1 g0 g1 he R' F' N' => ?_)
  · exact wpAny_pure (hsome b c qs p' e R' T h' tk' t3' t t' x1 y1 g0 g1 hT' F' N' hg)
  · refine wpAny_bind (wpAny_isInstance (T := "StopIteration") (b := true) he isSubtype_stop ?_)
    exact wpAny_pure (hnone e0 h' tk' p' t3' x1 y1 g0 g1 R' F' N')

theorem zipItr {ps₀ : List (Array UInt8)} (CC : CL w mean mg mb A₀ outer h₀) (C : HC w rest S DS BA H DH M d n u1 u2 u3 u4) (D : ZC rest DS H Z TI TO) (hk : cs.kind = .function) :
    Itr w h₀ L (OkA cn cs L a ccd cl outer) 1 Z (fun x => x = DS ∨ x = Z ∨ x = TO) ItemP (LedZ w rest DS BA t1 t2 d n ps₀ Z TI TO) (FinZ w rest DS BA t1 t2 d n) where
  nx := by
    rintro A hA m s xs led extra Q E ⟨ps, p, t3, f0, f1, x, y, Y, ⟨j, hj, hjl⟩, rfl, R, rfl, hY, hf⟩ hx F N hs hn
    have hYX : ∀ q ∈ Y ++ extra, q.1 ≠ DS ∧ q.1 ≠ Z ∧ q.1 ≠ TO := fun q hq => by
      rcases List.mem_append.mp hq with h | h
      · exact hY q h
      · have := hx q h
        simpa [not_or] using this
    have hf' : f0 = .none ∨ ∃ T o, f0 = rawInt (T : Nat) ∧ (T, o) ∈ Y ++ extra := hf.imp id fun ⟨T, o, e, h⟩ => ⟨T, o, e, List.mem_append_left _ h⟩
    refine zip_next CC C D hYX hk hA F R hf' (by simpa [List.append_assoc] using N) (fun b c qs p' e R' T h' tk' t3' t t' x1 y1 g0 g1 hT F' N' hg => ?_) (fun e h' tk' p' t3' x1 y1 g0 g1 R' F' N' => ?_)
    · subst e
      by_cases hgT : g0 = rawInt (T : Nat)
      · refine hs (b, c) (pairs qs) (.ref T) [(T, pO (.bytes b t) (.bytes c t'))] (zL w.params DS BA p' t1 t2 t3' rest Z TI TO g0 g1 (pO x1 y1) ((T, pO (.bytes b t) (.bytes c t')) :: Y)) h' tk' rfl ⟨T, t, t', rfl, rfl⟩
          ⟨qs, p', t3', g0, g1, x1, y1, _, ⟨j + 1, drop2 hj, by simp only [pairs, List.length_cons] at hjl; omega⟩, rfl, R', rfl, fun q hq => ?_, .inr ⟨T, _, hgT, .head _⟩⟩ (fun l hl => ?_) (fun q hq => ?_) F' (news_sub N' fun q hq => ?_)
        · rcases List.mem_cons.mp hq with rfl | hq
          · exact hT
          · exact hY q hq
        · simp only [List.mem_append, List.mem_cons, List.mem_map] at hl ⊢
          rcases hl with rfl | h | rfl | rfl | rfl | h
          · exact .inl ⟨_, .inl rfl, rfl⟩
          · exact .inl ⟨_, .inr (.inl h), rfl⟩
          · exact .inl ⟨_, .inr (.inr (.inl rfl)), rfl⟩
          · exact .inl ⟨_, .inr (.inr (.inr (.inl rfl))), rfl⟩
          · exact .inr (.inl rfl)
          · exact .inl ⟨_, .inr (.inr (.inr (.inr h))), rfl⟩
        · rw [List.mem_singleton.mp hq]; simp [hT.1, hT.2.1, hT.2.2]
        · simp only [List.mem_append, List.mem_cons, List.not_mem_nil, or_false, false_or] at hq ⊢
          grind
      · have hg2 := hg.resolve_left hgT
        refine hs (b, c) (pairs qs) (.ref T) [(T, pO (.bytes b t) (.bytes c t'))] (zL w.params DS BA p' t1 t2 t3' rest Z TI TO f0 g1 (pO x1 y1) Y) h' tk' rfl ⟨T, t, t', rfl, rfl⟩
          ⟨qs, p', t3', f0, g1, x1, y1, _, ⟨j + 1, drop2 hj, by simp only [pairs, List.length_cons] at hjl; omega⟩, rfl, R', rfl, hY, hf⟩ (fun l hl => ?_) (fun q hq => ?_) F' (news_sub N' fun q hq => ?_)
        · simp only [List.mem_append, List.mem_cons, List.mem_map] at hl ⊢
          rcases hl with rfl | h | rfl | rfl | h
          · exact .inl ⟨_, .inl rfl, rfl⟩
          · exact .inl ⟨_, .inr (.inl h), rfl⟩
          · exact .inl ⟨_, .inr (.inr (.inl rfl)), rfl⟩
          · exact .inl ⟨_, .inr (.inr (.inr (.inl rfl))), rfl⟩
          · exact .inl ⟨_, .inr (.inr (.inr (.inr h))), rfl⟩
        · rw [List.mem_singleton.mp hq]; simp [hT.1, hT.2.1, hT.2.2]
        · rw [hg2.1]
          simp only [List.mem_append, List.mem_cons, List.not_mem_nil, or_false, false_or] at hq ⊢
          grind
    · refine hn e ((DS, sD w.params BA p' t1 t2 t3') :: (rest ++ ((Z, zO g0 g1 TI TO) :: (TO, pO x1 y1) :: Y))) h' tk' ⟨p', t3', _, R', rfl, fun q hq => ?_⟩ (fun l hl => ?_) F' (by simpa [List.append_assoc] using N')
      · rcases List.mem_cons.mp hq with rfl | hq
        · exact D.ZD
        · rcases List.mem_cons.mp hq with rfl | hq
          · exact D.TD
          · exact (hY q hq).1
      · simp only [List.mem_append, List.mem_cons, List.mem_map] at hl ⊢
        rcases hl with rfl | h | rfl | rfl | h
        · exact ⟨_, .inl rfl, rfl⟩
        · exact ⟨_, .inr (.inl h), rfl⟩
        · exact ⟨_, .inr (.inr (.inl rfl)), rfl⟩
        · exact ⟨_, .inr (.inr (.inr (.inl rfl))), rfl⟩
        · exact ⟨_, .inr (.inr (.inr (.inr h))), rfl⟩
  tup := by rintro x v own ⟨T, t, t', _, rfl⟩ q hq; rw [List.mem_singleton.mp hq]; rfl
  it := by
    rintro A hA m s xs led extra Q E ⟨ps, p, t3, f0, f1, x, y, Y, ⟨j, hj, hjl⟩, rfl, R, rfl, hY, hf⟩ F N hs
    have g : s.heap.get? Z = some (zO f0 f1 TI TO) := News.get N (by simp)
    have hT : s.TypeIs (.ref Z) "zip" := ⟨zO f0 f1 TI TO, g, rfl⟩
    refine wpAny_pyIter_slot hT PySem.F.slot_zip_iter (wpAny_call_entry PySem.F.slot_zip_iter hT PySem.F.entry_zip_iter ?_ (PySem.F.args_zip_iter_1 _))
    show wpAny _ _ (ret (.ref Z)) _ _ s
    exact wpAny_pure ⟨_, rfl, "zip", _, hT, PySem.F.slot_zip_next.lookup, hs s.heap s.toks F N⟩
  typ := by
    refine ⟨.type "zip", rfl, rfl, ?_⟩
    rintro A m s xs led extra Q E ⟨ps, p, t3, f0, f1, x, y, Y, ⟨j, hj, hjl⟩, rfl, R, rfl, hY, hf⟩ F N q
    exact wpAny_typeOf ⟨zO f0 f1 TI TO, News.get N (by simp), rfl⟩ q
  hint := by
    rintro A m s xs led extra Q E ⟨ps, p, t3, f0, f1, x, y, Y, ⟨j, hj, hjl⟩, rfl, R, rfl, hY, hf⟩ F N q
    have hT : s.TypeIs (.ref Z) "zip" := ⟨zO f0 f1 TI TO, News.get N (by simp), rfl⟩
    unfold Builtin.List.listLengthHint
    refine wpAny_bind (wpAny_specialOf hT zip_no_len ?_)
    dsimp only
    show wpAny _ _ (specialOf (.ref Z) "__length_hint__" >>= _) _ _ _
    exact wpAny_bind (wpAny_specialOf hT zip_no_hint (wpAny_pure q))
  here := by
    rintro xs led ⟨ps, p, t3, f0, f1, x, y, Y, ⟨j, hj, hjl⟩, rfl, R, rfl, hY, hf⟩
    exact ⟨zO f0 f1 TI TO, by simp⟩
  wled := by
    rintro xs led ⟨ps, p, t3, f0, f1, x, y, Y, ⟨j, hj, hjl⟩, rfl, R, rfl, hY, hf⟩ x (rfl | rfl | rfl) <;> simp
end
end

section
open PySem PySem.W PyProof.Rows PySem.Calls
section
variable {w : World} {mean : ExcName → Option Value} {mg mb : Str → Option Value} {dp un : Nat} {gd : Option (List Code)} {cn : Str} {cs : Scope} {a : Addr} {ccd : Value} {cl : List (Str × Addr)} {outer : List Env} {A₀ : Around} {h₀ : Heap} {L : Addr} {m : Str → Option Value} {s : Shared} {E : Value → Shared → Prop}
  {rest : List (Addr × Obj)} {S DS BA H DH M : Addr} {p : Int} {t1 t2 t3 : Tok} {d : Array UInt8} {n : Int} {u1 u2 u3 u4 : Tok} {ps : List (Array UInt8)}

theorem iterAll_hand (CC : CL w mean mg mb A₀ outer h₀) (C : HC w rest S DS BA H DH M d n u1 u2 u3 u4) (hk : cs.kind = .function) {A : Around} (hA : OkA cn cs L a ccd cl outer 0 A) (F : Fr h₀ L s.heap m)
    {Q : List Value → Shared → Prop} {led : List (Addr × Obj)} (hl : LedB w rest DS BA t1 t2 d n ps led) (N : News h₀ L s.heap led)
    (hQ : ∀ h' tk', Fr h₀ L h' m → News h₀ L h' led → Q [.ref H, .ref H] { s with heap := h', toks := tk' }) :
    wpAny (model pwS w) A (Builtin.SmallTypes.iterAll [.ref H, .ref H]) Q E s := by
  unfold Builtin.SmallTypes.iterAll
  simp only [List.forIn_cons, List.forIn_nil]
  refine wpAny_bind (wpAny_bind (wpAny_bind (wpAny_holding ((handItr (t1 := t1) (t2 := t2) CC C hk).it A hA m s ps led [] _ _ hl F (by simpa using N) fun h1 tk1 F1 N1 => wpAny_pure ?_))))
  refine wpAny_bind (wpAny_bind (wpAny_holding ((handItr (t1 := t1) (t2 := t2) CC C hk).it A hA m _ ps led [] _ _ hl F1 N1 fun h2 tk2 F2 N2 => wpAny_pure (wpAny_pure ?_))))
  exact wpAny_pure (hQ h2 tk2 F2 (by simpa using N2))

theorem call_zip (CC : CL w mean mg mb A₀ outer h₀) (C : HC w rest S DS BA H DH M d n u1 u2 u3 u4) (hk : cs.kind = .function) {A : Around} (hA : OkA cn cs L a ccd cl outer 2 A) (F : Fr h₀ L s.heap m)
    {Q : Value → Shared → Prop} {led : List (Addr × Obj)} (hl : LedB w rest DS BA t1 t2 d n ps led) (N : News h₀ L s.heap led)
    (hQ : ∀ Z TI TO rest' led' h' tk', HC w rest' S DS BA H DH M d n u1 u2 u3 u4 → ZC rest' DS H Z TI TO → (∀ q ∈ rest, q ∈ rest') → LedZ w rest' DS BA t1 t2 d n ps Z TI TO (pairs ps) led' → Fr h₀ L h' m → News h₀ L h' led' → Q (.ref Z) { s with heap := h', toks := tk' }) :
    wpAny (model pwS w) A (call (.type "zip") [.ref H, .ref H]) Q E s := by
  refine callType_meetsIn (S := fun A' R s' => A' = A.in1 ∧ s' = s ∧ (∀ Z h' tk', (⟨h', s.gens, s.drawn, tk', s.os⟩ : Shared).TypeIs (.ref Z) "zip" → Q (.ref Z) { s with heap := h', toks := tk' } → R (.ok (.ret (.ref Z))) { s with heap := h', toks := tk' }))
    (Q₁ := fun obj s₁ => s₁.TypeIs obj "zip" ∧ Q obj s₁) PySem.F.called_zip (PySem.F.typeCall_zip_2 _ _) (PySem.F.newCall_zip_2 _ _) PySem.F.entry_zip_new PySem.F.entry_object_init ?_ ⟨rfl, rfl, fun Z h' tk' hT q => ⟨hT, q⟩⟩ fun obj s₁ hq =>
      ⟨hq.1, PySem.F.args_object_init_3 obj _ _, _, object_init_meets PySem.F.called_zip.init.lookup PySem.F.called_zip.made (by decide), hq.1, rfl, hq.2⟩
  rintro A' R s' ⟨rfl, rfl, hR⟩
  have hsub := sub_zip
  show wpAny _ _ (Builtin.SmallTypes.newClass "zip" _ >>= _) _ _ _
  refine wpAny_bind ?_
  unfold Builtin.SmallTypes.newClass
  repeat (any_goals (first | assumption | (with_reducible refine iterAll_hand CC C hk hA.in1.in1 F hl N fun h1 tk1 F1 N1 => ?_) | wp_step))
  obtain ⟨p, t3, R0, rfl⟩ := hl
  have F2 := F1.push (pO (.ref H) (.ref H))
  have N2 := News.push F1 N1 (pO (.ref H) (.ref H))
  have F3 := F2.push (pO .none .none)
  have N3 := News.push F2 N2 (pO .none .none)
  have F4 := F3.push (zO .none false h1.objs.size (h1.push (pO (.ref H) (.ref H))).objs.size)
  have N4 := News.push F3 N3 (zO .none false h1.objs.size (h1.push (pO (.ref H) (.ref H))).objs.size)
  have z1 : (h1.push (pO (.ref H) (.ref H))).objs.size = h1.objs.size + 1 := Heap.size_push ..
  have z2 : ((h1.push (pO (.ref H) (.ref H))).push (pO .none .none)).objs.size = h1.objs.size + 2 := by rw [Heap.size_push, z1]
  have lt : ∀ q ∈ (DS, sD w.params BA p t1 t2 t3) :: rest, q.1 < h1.objs.size := fun q hq => Heap.lt_size (N1 q hq).1
  have gD := lt _ (.head _)
  refine hR _ _ _ ⟨_, Heap.get?_push_size _ rfl, rfl⟩ ?_
  refine hQ _ h1.objs.size (h1.push (pO (.ref H) (.ref H))).objs.size (rest ++ [(h1.objs.size, pO (.ref H) (.ref H))]) _ _ _ (C.more fun q hq => ?_) ⟨?_, ?_, ?_, by simp, fun q hq => ?_⟩ (fun q hq => List.mem_append_left _ hq) ⟨ps, p, t3, .none, false, .none, .none, [], ⟨0, rfl, by omega⟩, rfl, R0, rfl, fun q hq => (nomatch hq), .inl rfl⟩ F4 (news_sub N4 fun q hq => ?_)
  · rw [List.mem_singleton.mp hq]; exact Nat.ne_of_gt gD
  · refine Nat.ne_of_gt ?_
    show DS < ((h1.push (pO (.ref H) (.ref H))).push (pO .none .none)).objs.size
    rw [z2]; exact Nat.lt_add_right 2 gD
  · refine Nat.ne_of_gt ?_
    show DS < (h1.push (pO (.ref H) (.ref H))).objs.size
    rw [z1]; exact Nat.lt_add_right 1 gD
  · refine Nat.ne_of_gt ?_
    show (h1.push (pO (.ref H) (.ref H))).objs.size < ((h1.push (pO (.ref H) (.ref H))).push (pO .none .none)).objs.size
    rw [z1, z2]; exact Nat.lt_succ_self _
  · have hle : q.1 ≤ h1.objs.size := by
      rcases List.mem_append.mp hq with h | h
      · exact Nat.le_of_lt (lt q (.tail _ h))
      · rw [List.mem_singleton.mp h]; exact Nat.le_refl _
    refine ⟨Nat.ne_of_lt ?_, Nat.ne_of_lt ?_⟩
    · show q.1 < ((h1.push (pO (.ref H) (.ref H))).push (pO .none .none)).objs.size
      rw [z2]; exact Nat.lt_of_le_of_lt hle (Nat.lt_add_of_pos_right (by decide))
    · rw [z1]; exact Nat.lt_succ_of_le hle
  · simp only [List.mem_append, List.mem_cons, List.not_mem_nil, or_false] at hq ⊢
    rcases hq with h | (h | h) | h | h <;> (first | (subst h; simp; done) | simp [h]; done)
end
end

section
open PySem PySem.W PyProof.Rows PySem.Calls
theorem fw_next (P : Params) : findIn (K P) (.ref 53) "__next__" = some (some (.ref 50)) := by kernel_rfl
section
variable {w : World} {mean : ExcName → Option Value} {mg mb : Str → Option Value} {dp un : Nat} {gd : Option (List Code)} {cn : Str} {cs : Scope} {a : Addr} {ccd : Value} {cl : List (Str × Addr)} {outer : List Env} {A₀ : Around} {h₀ : Heap} {L : Addr} {m : Str → Option Value} {s : Shared} {E : Value → Shared → Prop}
  {rest : List (Addr × Obj)} {S DS BA H DH M : Addr} {p : Int} {t1 t2 t3 : Tok} {d : Array UInt8} {n : Int} {u1 u2 u3 u4 : Tok} {ps : List (Array UInt8)}

theorem call_next2 {A : Around} {I : Addr} {f dflt : Value} {Q : Value → Shared → Prop} (hsp : ∀ (Q' : Option Value → Shared → Prop), Q' (some f) s → wpAny (model pwS w) A.in1 (specialOf (.ref I) "__next__") Q' E s)
    (hnx : wpAny (model pwS w) A.in1 (pyNext (.ref I)) (fun o s' => Q (o.getD dflt) s') E s) : wpAny (model pwS w) A (call (.builtin "next") [.ref I, dflt]) Q E s := by
  refine call_function_entry (by decide +kernel) (by decide +kernel) kdk_entry_next (kdk_args_next2 _ _) ?_
  unfold Builtin.«next»
  refine wpAny_bind (m := someArgs "next" 1 2 _) (wpAny_of_eq (a := [Value.ref I, dflt]) (by first | rfl | kernel_rfl!) ?_)
  dsimp only
  refine wpAny_bind (hsp _ ?_)
  refine wpAny_ite_split (fun hab => absurd hab (by simp)) (fun _ => ?_)
  refine wpAny_bind (wpAny_mono hnx (fun o s' h => wpAny_pure ⟨_, rfl, h⟩) fun _ _ e => e)

theorem next_hand (CC : CL w mean mg mb A₀ outer h₀) (C : HC w rest S DS BA H DH M d n u1 u2 u3 u4) (hk : cs.kind = .function) {A : Around} (hA : OkA cn cs L a ccd cl outer 1 A) (F : Fr h₀ L s.heap m)
    {Q : Value → Shared → Prop} {led : List (Addr × Obj)} (hl : LedB w rest DS BA t1 t2 d n ps led) (N : News h₀ L s.heap led)
    (h0 : ps = [] → ∀ led' h' tk', LedB w rest DS BA t1 t2 d n [] led' → Fr h₀ L h' m → News h₀ L h' led' → Q .none { s with heap := h', toks := tk' })
    (h1 : ∀ b qs t, ps = b :: qs → ∀ led' h' tk', LedB w rest DS BA t1 t2 d n qs led' → Fr h₀ L h' m → News h₀ L h' led' → Q (.bytes b t) { s with heap := h', toks := tk' }) :
    wpAny (model pwS w) A (call (.builtin "next") [.ref H, .none]) Q E s := by
  have hH : (H, instObj 53 DH) ∈ led := by obtain ⟨p, t3, R, rfl⟩ := hl; exact .tail _ C.hH
  have hDH : (DH, fD w.params S n M u1 u2 u3 u4) ∈ led := by obtain ⟨p, t3, R, rfl⟩ := hl; exact .tail _ C.hDH
  have I : InstAt s.heap H (instObj 53 DH) 53 (some (fD w.params S n M u1 u2 u3 u4)) := InstAt.of_news N hH hDH
  have X := CC.X.keeps F.keep
  refine call_next2 (f := .ref 50) (fun Q' q => ?_) ?_
  · unfold specialOf
    exact wpAny_bind (I.type.here ((looks_findIn X (fw_next w.params)).here q))
  · refine (handItr (t1 := t1) (t2 := t2) CC C hk).nx _ hA.in1 m s ps led [] _ _ hl (fun q hq => nomatch hq) F (by simpa using N) (fun b qs v own led' h' tk' e hi hl' he ho F' N' => ?_) (fun e led' h' tk' hl' he F' N' => h0 e led' h' tk' hl' F' (by simpa using N'))
    obtain ⟨⟨t', rfl⟩, rfl⟩ := hi
    exact h1 b qs t' e led' h' tk' hl' F' (by simpa using N')

theorem next_zip {ps₀ : List (Array UInt8)} {Z TI TO : Addr} (CC : CL w mean mg mb A₀ outer h₀) (C : HC w rest S DS BA H DH M d n u1 u2 u3 u4) (D : ZC rest DS H Z TI TO) (hk : cs.kind = .function) {A : Around} (hA : OkA cn cs L a ccd cl outer 2 A) (F : Fr h₀ L s.heap m)
    {Q : Value → Shared → Prop} {prs : List (Array UInt8 × Array UInt8)} {led : List (Addr × Obj)} (hl : LedZ w rest DS BA t1 t2 d n ps₀ Z TI TO prs led) (N : News h₀ L s.heap led)
    (h0 : prs = [] → ∀ led' h' tk', FinZ w rest DS BA t1 t2 d n led' → Fr h₀ L h' m → News h₀ L h' led' → Q .none { s with heap := h', toks := tk' })
    (h1 : ∀ b c qs T t t', prs = (b, c) :: qs → ∀ led' h' tk', LedZ w rest DS BA t1 t2 d n ps₀ Z TI TO qs led' → Fr h₀ L h' m → News h₀ L h' (led' ++ [(T, pO (.bytes b t) (.bytes c t'))]) → (T ≠ DS) → Q (.ref T) { s with heap := h', toks := tk' }) :
    wpAny (model pwS w) A (call (.builtin "next") [.ref Z, .none]) Q E s := by
  have hT : s.TypeIs (.ref Z) "zip" := by
    obtain ⟨ps, p, t3, f0, f1, x, y, Y, _, rfl, R, rfl, hY, hf⟩ := hl
    exact ⟨zO f0 f1 TI TO, News.get N (by simp), rfl⟩
  refine call_next2 (f := .builtin "zip.__next__") (fun Q' q => wpAny_specialOf hT PySem.F.slot_zip_next.lookup q) ?_
  refine (zipItr (t1 := t1) (t2 := t2) CC C D hk).nx _ hA.in1 m s prs led [] _ _ hl (fun q hq => nomatch hq) F (by simpa using N) (fun b qs v own led' h' tk' e hi hl' he ho F' N' => ?_) (fun e led' h' tk' hl' he F' N' => h0 e led' h' tk' hl' F' (by simpa using N'))
  obtain ⟨T, t, t', rfl, rfl⟩ := hi
  exact h1 b.1 b.2 qs T t t' e led' h' tk' hl' F' (by simpa using N') (by have := ho _ (.head _); simp [not_or] at this; exact this.1)

theorem call_iter_hand (CC : CL w mean mg mb A₀ outer h₀) (C : HC w rest S DS BA H DH M d n u1 u2 u3 u4) (hk : cs.kind = .function) {A : Around} (hA : OkA cn cs L a ccd cl outer 1 A) (F : Fr h₀ L s.heap m)
    {Q : Value → Shared → Prop} {led : List (Addr × Obj)} (hl : LedB w rest DS BA t1 t2 d n ps led) (N : News h₀ L s.heap led)
    (h : ∀ h' tk', Fr h₀ L h' m → News h₀ L h' led → Q (.ref H) { s with heap := h', toks := tk' }) :
    wpAny (model pwS w) A (call (.builtin "iter") [.ref H]) Q E s := by
  refine call_function_entry (by decide +kernel) (by decide +kernel) kdk_entry_iter (kdk_args_iter _) ?_
  unfold Builtin.«iter»
  refine wpAny_bind (m := someArgs "iter" 1 2 _) (wpAny_of_eq (a := [Value.ref H]) (by first | rfl | kernel_rfl!) ?_)
  dsimp only
  refine wpAny_bind ((handItr (t1 := t1) (t2 := t2) CC C hk).it _ hA.in1 m s ps led [] _ _ hl F (by simpa using N) fun h' tk' F' N' => wpAny_pure ⟨_, rfl, h h' tk' F' (by simpa using N')⟩)
end
end

section
open PySem PySem.W PyProof.Rows PySem.Calls PyProof.Rows.LCg
section
variable {prog : Program} {w : World} {A : Around} {E : Value → Shared → Prop} {s : Shared} {h₀ : Heap} {L : Addr} {m : Str → Option Value} {env : Env}

theorem range_walksS {I : Addr} (hh : A.handled = none) (a c : Int) (n : Nat) : Walks prog w A I [I] [I] n (fun i v => i < n ∧ ∃ t, v = .int (a + (i : Int) * c) t) (fun i h => IsRangeIter h I (a + (i : Nat) * c) ((n : Int) - (i : Nat)) c) :=
  (Walks.range hh I a c n).bound
theorem range_stS {I : Addr} {a c : Int} {n : Nat} : ∀ i (h h' : Heap) (o : Obj) (nw : List (Addr × Obj)), IsRangeIter h I (a + (i : Nat) * c) ((n : Int) - (i : Nat)) c → h.get? I = some o → h'.get? I = some o → (∀ b o, h₀.get? b = some o → h'.get? b = some o) → News h₀ L h' nw → True → IsRangeIter h' I (a + (i : Nat) * c) ((n : Int) - (i : Nat)) c :=
  fun i h h' o nw st e e' _ _ _ => by
    have st' : h.get? I = some _ := st
    show h'.get? I = some _
    rw [e', ← e]; exact st'

/-- a range by steps, as a comprehension's source -/
noncomputable def SrcS (prog : Program) (w : World) (A : Around) (h₀ : Heap) (L : Addr) (m : Str → Option Value) (env : Env) (elt : Expr) (x : Str) (scope : Scope) (cl : List (Str × Addr)) (Fin : Shared → List Value → List (Addr × Obj) → Prop) (xv : Value) (s₁ : Shared) : Prop :=
  ∃ r a b c t u v n news, xv = .ref r ∧ A.handled = none ∧ Fr h₀ L s₁.heap m ∧ News h₀ L s₁.heap news ∧ IsRange s₁.heap r a b c t u v ∧ Builtin.Range.small a b c = true ∧ Builtin.Range.rangeSize a b c = ((n : Nat) : Int) ∧ n ≤ sizeLine ∧
    ∀ s₂ : Shared, (∃ h, s₂ = { s₁ with heap := h }) → CompRest prog w A h₀ L m env elt x scope cl s₂ (fun _ => True) (fun i v => i < n ∧ ∃ t, v = .int (a + (i : Int) * c) t) (Fin s₂) n 0 [] news

theorem ListComp_S {elt iter : Expr} {x : Str} {px : Pos} {scope : Scope} {cl : List (Str × Addr)} {pos : Pos} {Q : Value → Shared → Prop} (F₀ : Fr h₀ L s.heap m)
    (hclos : closureFor scope env = pure cl) (hcell : ∀ y ∈ scope.names, y.2 ≠ .cell) (hkind : scope.kind = .function)
    (hnames : ∀ y ∈ scope.names, y.2 = .local → scope.names.lookup y.1 = some .local) (hx : scope.names.lookup x = some .local)
    (h : wpAny (model prog w) A (eval iter env) (SrcS prog w A h₀ L m env elt x scope cl (fun s₂ => FinE h₀ L m s₂ Q)) E s)
    (hs : ∀ x, foldedSetIterable iter env x = pure x := by intro _; rfl) :
    wpAny (model prog w) A (eval (.ListComp elt [⟨.Name x px, iter, [], 0⟩] scope pos) env) Q E s := by
  rw [eval_ListComp]
  refine wpAny_comprehension_free (use := none) rfl hs hclos hkind hnames (wpAny_mono h (fun xv s₁ h₁ => ?_) fun _ _ e => e)
  obtain ⟨r, a, b, c, t, u, v, n, news, rfl, hh, F, N, hr, hsm, hn, hsz, R⟩ := h₁
  refine wpAny_pyIter_range hr hsm ?_
  refine block_U (range_walksS hh a c n) hsz (fun i h st => ⟨_, st⟩) range_stS hcell hkind hx (by show IsRangeIter _ _ _ _ _; rw [hn]; simpa using Heap.get?_push_size _ rfl) (fun b hb => ?_)
    (F.keeps fun _ _ e => Heap.get?_push_of_some _ e) (N.grown fun _ _ e => Heap.get?_push_of_some _ e) (Nat.ne_of_lt F.ns.lt) (next_is_new F) (fun p hp => Nat.ne_of_lt (Heap.lt_size (N p hp).1)) trivial (R _ ⟨_, rfl⟩) ?_
  · rw [List.mem_singleton.mp hb]
    show s₁.heap.objs.size < (s₁.heap.push _).objs.size
    rw [Heap.size_push]; exact Nat.lt_succ_self _
  · intro D C h tk m' ys news' F' N' o1 hn hC₀ hD₀ hCL hDL hCD offC fin
    refine ⟨m', hn, fun h'' hs'' => fin D h'' tk (F'.change hs'' hCL hC₀) (fun p hp => ?_) o1⟩
    refine ⟨hs''.extBut _ _ ?_ (N' p hp).1, (N' p hp).2⟩
    rcases List.mem_cons.mp hp with rfl | hp
    · exact Ne.symm hCD
    · exact offC p hp

theorem Assign_ListComp_S {elt iter : Expr} {x y : Str} {px py : Pos} {scope : Scope} {cl : List (Str × Addr)} {pos spos : Pos} {Q : Flow → Shared → Prop} (F₀ : Fr h₀ L s.heap m) (hLe : env.locals = L)
    (hsw : swapsWith (.ListComp elt [⟨.Name x px, iter, [], 0⟩] scope pos) (some (.Name y py)) spos.line env = pure true)
    (hclos : closureFor scope env = pure cl) (hcell : ∀ z ∈ scope.names, z.2 ≠ .cell) (hkind : scope.kind = .function)
    (hnames : ∀ z ∈ scope.names, z.2 = .local → scope.names.lookup z.1 = some .local) (hx : scope.names.lookup x = some .local)
    (hy : env.kindOf y = some .local) (hp : (env.scope.kind == .class || (env.scope.kind == .module && env.locals != env.globals)) = false)
    (h : wpAny (model prog w) A (eval iter env) (SrcS prog w A h₀ L m env elt x scope cl (fun s₂ => FinA h₀ L m s₂ y Q)) E s)
    (hs : ∀ x, foldedSetIterable iter env x = pure x := by intro _; rfl) :
    wpAny (model prog w) A (exec (.Assign [.Name y py] (.ListComp elt [⟨.Name x px, iter, [], 0⟩] scope pos) spos) env) Q E s := by
  subst hLe
  rw [exec_Assign_Name_used _ _ _ _ hsw]
  refine wpAny_bind (wpAny_standAt (wpAny_bind ?_))
  show wpAny _ A (do let _ ← comprehension (.ListComp elt [⟨.Name x px, iter, [], 0⟩] scope pos) scope env _ (newList []) false (eval iter env) (some (assign (.Name y py) env))) _ _ s
  refine wpAny_bind (wpAny_mono (wpAny_comprehension_free (use := some (assign (.Name y py) env)) (Q := fun _ s' => Q .next s') rfl hs hclos hkind hnames
    (wpAny_mono h (fun xv s₁ h₁ => ?_) fun _ _ e => e)) (fun _ s' hq => wpAny_pure (wpAny_pure hq)) fun _ _ e => e)
  obtain ⟨r, a, b, c, t, u, v, n, news, rfl, hh, F, N, hr, hsm, hn, hsz, R⟩ := h₁
  refine wpAny_pyIter_range hr hsm ?_
  refine block_U (range_walksS hh a c n) hsz (fun i h st => ⟨_, st⟩) range_stS hcell hkind hx (by show IsRangeIter _ _ _ _ _; rw [hn]; simpa using Heap.get?_push_size _ rfl) (fun b hb => ?_)
    (F.keeps fun _ _ e => Heap.get?_push_of_some _ e) (N.grown fun _ _ e => Heap.get?_push_of_some _ e) (Nat.ne_of_lt F.ns.lt) (next_is_new F) (fun p hp => Nat.ne_of_lt (Heap.lt_size (N p hp).1)) trivial (R _ ⟨_, rfl⟩) ?_
  · rw [List.mem_singleton.mp hb]
    show s₁.heap.objs.size < (s₁.heap.push _).objs.size
    rw [Heap.size_push]; exact Nat.lt_succ_self _
  · intro D C h' tk m' ys news' F' N' o1 hn hC₀ hD₀ hCL hDL hCD offC fin
    show wpAny _ A (assign (.Name y py) env (.ref D)) _ _ _
    refine wpAny_assign_Name (wpAny_storeName_local hy F'.ns (fun h₂ hn₂ hs₂ => ?_) hp)
    have hL₀ : h₀.get? env.locals = none := Heap.get?_none_of_le F'.above
    have F₂ : Fr h₀ env.locals h₂ (fun z => if z = y then some (.ref D) else m z) := ⟨hn₂, fun b o e => hs₂.extBut b o (fun q => by rw [q, hL₀] at e; cases e) (F'.keep b o e), F'.above⟩
    refine ⟨m', hn.sameBut hs₂ hCL, fun h'' hs'' => fin D h'' _ (F₂.change hs'' hCL hC₀) (fun p hp => ?_) o1⟩
    have z : h₂.get? p.1 = some p.2 := hs₂.extBut _ _ (N' p hp).2.1 (N' p hp).1
    refine ⟨hs''.extBut _ _ ?_ z, (N' p hp).2⟩
    rcases List.mem_cons.mp hp with rfl | hp
    · exact Ne.symm hCD
    · exact offC p hp

/-- items i, i + 1, .. of a comprehension, with what was made for them -/
inductive Els (El : Nat → Value → List (Addr × Obj) → Prop) : Nat → Nat → List Value → List (Addr × Obj) → Prop
  | nil {i : Nat} : Els El 0 i [] []
  | cons {k i : Nat} {v : Value} {own ow : List (Addr × Obj)} {vs : List Value} : El i v own → Els El k (i + 1) vs ow → Els El (k + 1) i (v :: vs) (ow ++ own)

theorem comp_rest {elt : Expr} {x : Str} {scope : Scope} {cl : List (Str × Addr)} {P : Nat → Value → Prop} {Fin : List Value → List (Addr × Obj) → Prop} (El : Nat → Value → List (Addr × Obj) → Prop) (news₀ : List (Addr × Obj))
    (turn : ∀ i v I oI C oC D ys m₂ h tk own (E' : Value → Shared → Prop) (Q : Value → Shared → Prop), P i v → NsObj oC m₂ → m₂ x = some v → Fr h₀ L h m → News h₀ L h ((I, oI) :: (C, oC) :: (D, lst ys) :: (own ++ news₀)) → ((@Ne Nat I C) ∧ (@Ne Nat I D) ∧ (@Ne Nat C D)) →
      (∀ y ow h' tk', El i y ow → Fr h₀ L h' m → News h₀ L h' ((I, oI) :: (C, oC) :: (D, lst ys) :: (ow ++ (own ++ news₀))) → (∀ q ∈ ow, ∀ p ∈ (I, oI) :: (C, oC) :: (D, lst ys) :: (own ++ news₀), p.1 < q.1) → Q y { s with heap := h', toks := tk' }) →
      wpAny (model prog w) A (eval elt (compEnvC scope cl C env)) Q E' { s with heap := h, toks := tk }) :
    ∀ (k i : Nat) (ys : List Value) (own : List (Addr × Obj)), (∀ vs ow, Els El k i vs ow → Fin (ys ++ vs) (ow ++ (own ++ news₀))) → CompRest prog w A h₀ L m env elt x scope cl s (fun _ => True) P Fin k i ys (own ++ news₀) := by
  intro k
  induction k with
  | zero => intro i ys own hF; exact CompRest.zero (by simpa using hF [] [] .nil)
  | succ k ih =>
    intro i ys own hF v I oI C oC D m₂ h tk E' hP hN hx F N off hne
    refine turn i v I oI C oC D ys m₂ h tk own E' _ hP hN hx F N hne fun y ow h' tk' hE F' N' hlt => ?_
    refine ⟨h', tk', ow ++ (own ++ news₀), rfl, F', N', Off3.of fun p hp => ?_, trivial, ?_⟩
    · rcases List.mem_append.mp hp with hp | hp
      · exact ⟨Nat.ne_of_gt (hlt p hp _ (.head _)), Nat.ne_of_gt (hlt p hp _ (.tail _ (.head _))), Nat.ne_of_gt (hlt p hp _ (.tail _ (.tail _ (.head _))))⟩
      · exact off.mem p hp
    · rw [← List.append_assoc]
      refine ih (i + 1) (ys ++ [y]) (ow ++ own) fun vs ow2 hE2 => ?_
      have := hF (y :: vs) (ow2 ++ ow) (.cons hE hE2)
      simpa [List.append_assoc] using this
end
end

section
open PySem PySem.W PyProof.Rows PySem.Calls PyProof.Rows.LCg
noncomputable def lawBody : List Stmt := bodyS (topS pwS 16)
noncomputable abbrev lawSc : Scope := scopeS (topS pwS 16)
noncomputable abbrev lawNm : Str := Str.ofString "law"
noncomputable def forBody : List Stmt := match (lawBody[10]?).getD (.Pass default) with
  | .For _ _ b _ _ => b
  | _ => []
noncomputable def turnS (i : Nat) : Stmt := (forBody[i]?).getD (.Pass default)
noncomputable abbrev lawCl (c1 c2 c3 c4 c5 : Addr) : List (Str × Addr) := [(Str.ofString "left", c5), (Str.ofString "size", c4), (Str.ofString "data", c3), (Str.ofString "whole", c2), (Str.ofString "script", c1)]

theorem picked_extract (d : Array UInt8) {x y : Int} (hx : 0 ≤ x) (hxs : x ≤ d.size) (hxy : x ≤ y) : KBy.picked d (some x) (some y) = d.extract x.toNat (min y d.size).toNat := by
  have e : sliceBounds (some x) (some y) none d.size = sliceBounds (some x) (some (min y d.size)) none d.size := by
    simp only [sliceBounds, Option.getD_none, show (1 : Int) > 0 by decide, if_true, if_neg (show ¬ (x < 0) by omega), if_neg (show ¬ (y < 0) by omega), if_neg (show ¬ (min y (d.size : Int) < 0) by omega)]
    congr 2
    omega
  unfold KBy.picked
  rw [e]
  exact sliced_extract d hx (by omega) (by omega)

section
variable {prog : Program} {w : World} {A : Around} {E : Value → Shared → Prop} {s : Shared} {h₀ : Heap} {L : Addr} {m : Str → Option Value} {news : List (Addr × Obj)}
theorem by_slice {value slice : Expr} {d : Array UInt8} {td t u : Tok} {x y : Int} {Q : Value → Shared → Prop} (F : Fr h₀ L s.heap m) (N : News h₀ L s.heap news) (hx : 0 ≤ x) (hxs : x ≤ d.size) (hxy : x ≤ y) (hz : d.size ≤ 1000000)
    (q : ∀ h' t' k, Fr h₀ L h' m → News h₀ L h' news → Q (.bytes (d.extract x.toNat (min y d.size).toNat) t') { s with heap := h', toks := k })
    (hs : subscripted slice false (.bytes d td) (.ref s.heap.objs.size) = operate [.ref s.heap.objs.size, .bytes d td] (getItem (.bytes d td) (.ref s.heap.objs.size)) := by with_unfolding_all rfl)
    (ht : ∀ r, letTemporaryGo value (.bytes d td) r = pure () := by intro _; with_unfolding_all rfl) :
    wpAny (model prog w) A (subscriptTail value slice (.bytes d td) (.ref s.heap.objs.size)) Q E { s with heap := s.heap.push { cls := .type "slice", data := .fields #[.int x t, .int y u, .none] } } :=
  KBc.slice_K F N rfl (IsPart.int _ _) (IsPart.int _ _) (by rw [KBw.ints_length]; omega) (fun h' t' k F' N' _ => by rw [picked_extract d hx hxs hxy]; exact q h' t' k F' N') hs ht
end
end

section
open PySem PySem.W PyProof.Rows PySem.Calls PyProof.Rows.LCg
theorem off1_mem {D : Addr} : ∀ {l : List (Addr × Obj)}, Off1 D l → ∀ q ∈ l, q.1 ≠ D
  | [], _, _, h => nomatch h
  | _ :: _, x, q, h => by
    rcases List.mem_cons.mp h with rfl | h
    · exact x.1
    · exact off1_mem x.2 q h
/-- these values are these pieces -/
inductive BytesAre : List Value → List (Array UInt8) → Prop
  | nil : BytesAre [] []
  | cons {b : Array UInt8} {vs : List Value} {ps : List (Array UInt8)} (t : Tok) : BytesAre vs ps → BytesAre (.bytes b t :: vs) (b :: ps)

theorem Rem.len {d : Array UInt8} {n p : Int} {ps : List (Array UInt8)} (hn : 1 ≤ n) (R : Rem d n p ps) : Builtin.Range.rangeSize p d.size n = ((ps.length : Nat) : Int) := by
  induction R with
  | nil => simp [Builtin.Range.rangeSize]
  | @cons p ps h0 h1 R ih =>
    have hl := R.lo
    simp only [Builtin.Range.rangeSize, show n > 0 by omega, if_true, h1, List.length_cons] at ih ⊢
    rw [Int.natCast_add, ← ih]
    by_cases h : p + n < d.size
    · rw [show min (p + n) (d.size : Int) = p + n by omega, if_pos h, show (d.size : Int) - p - 1 = ((d.size : Int) - (p + n) - 1) + n by omega, Int.add_ediv_of_dvd_right (Int.dvd_refl n), Int.ediv_self (by omega)]
      rfl
    · rw [show min (p + n) (d.size : Int) = d.size by omega, if_neg (by omega), Int.ediv_eq_zero_of_lt (by omega) (by omega)]
      rfl

theorem Rem.get {d : Array UInt8} {n p : Int} {ps : List (Array UInt8)} (hn : 1 ≤ n) (R : Rem d n p ps) : ∀ (i : Nat) (h : i < ps.length), 0 ≤ p ∧ p + i * n < d.size ∧ ps[i] = d.extract (p + i * n).toNat (min (p + i * n + n) d.size).toNat := by
  induction R with
  | nil => intro i h; simp at h
  | @cons p ps h0 h1 R ih =>
    intro i h
    cases i with
    | zero => simp; omega
    | succ i =>
      have h' : i < ps.length := by simpa using h
      obtain ⟨g0, g1, g2⟩ := ih i h'
      have hm : min (p + n) (d.size : Int) = p + n := by
        have : 0 ≤ (i : Int) * n := Int.mul_nonneg (by omega) (by omega)
        omega
      rw [hm] at g0 g1 g2
      have e : p + ((i + 1 : Nat) : Int) * n = p + n + i * n := by rw [Int.natCast_add, Int.add_mul]; omega
      rw [e]
      exact ⟨h0, g1, by simpa using g2⟩

theorem els_bytes {d : Array UInt8} {n p : Int} {ps : List (Array UInt8)} (hn : 1 ≤ n) (R : Rem d n p ps) {k i : Nat} {vs : List Value} {ow : List (Addr × Obj)}
    (h : Els (fun i v own => own = [] ∧ ∃ t, v = .bytes (d.extract (p + i * n).toNat (min (p + i * n + n) d.size).toNat) t) k i vs ow) : i + k = ps.length → ow = [] ∧ BytesAre vs (ps.drop i) := by
  induction h with
  | nil => intro e; rw [List.drop_eq_nil_of_le (by omega)]; exact ⟨rfl, .nil⟩
  | @cons k i v own ow vs hv h ih =>
    intro e
    obtain ⟨rfl, t, rfl⟩ := hv
    obtain ⟨rfl, hb⟩ := ih (by omega)
    have hi : i < ps.length := by omega
    rw [List.drop_eq_getElem_cons hi, (R.get hn i hi).2.2]
    exact ⟨rfl, .cons t hb⟩

section
variable {w : World} {mean : ExcName → Option Value} {mg mb : Str → Option Value} {dp un : Nat} {gd : Option (List Code)} {outer : List Env} {A₀ : Around} {h₀ : Heap} {L : Addr} {m : Str → Option Value} {s : Shared} {E : Value → Shared → Prop}
  {c1 c2 c3 c4 c5 : Addr} {o3 o4 o5 : Obj} {d : Array UInt8} {n p : Int} {td tn tp : Tok}

theorem cell_store {A : Around} {x : Str} {c : Addr} {cl : List (Str × Addr)} {v : Value} {v₀ : Option Value} {pre post : List (Addr × Obj)} {Q : Unit → Shared → Prop} (F : Fr h₀ L s.heap m) (hc : cl.lookup x = some c) (N : News h₀ L s.heap (pre ++ (c, o5) :: post)) (hd : o5.data = .cell v₀)
    (h1 : ∀ q ∈ pre, q.1 ≠ c) (h2 : ∀ q ∈ post, q.1 ≠ c) {a : Addr} {ccd : Value} {cn : Str} {cs : Scope}
    (h : ∀ h' o', Fr h₀ L h' m → News h₀ L h' (pre ++ (c, o') :: post) → o'.data = .cell (some v) → Q () { s with heap := h' })
    (hk : cs.kind = .function := by rfl) (hx : (envX cn cs L a ccd cl).kindOf x = some .cell := by rfl) : wpAny (model pwS w) A (storeName (envX cn cs L a ccd cl) x v) Q E s := by
  have hmem := N (c, o5) (List.mem_append_right _ (.head _))
  refine wpAny_storeName_cell hk hx hc ⟨o5, hmem.1, hd⟩ fun h' hv hs => ?_
  obtain ⟨o', ho', hd'⟩ := hv
  refine h h' o' ⟨F.ns.sameBut hs (Ne.symm hmem.2.1), fun b ob e => (hs.2 b (fun q => ?_)).trans (F.keep b ob e), F.above⟩ (N.setAt h1 h2 hs ho') hd'
  rw [q, hmem.2.2] at e; cases e

local macro_rules | `(tactic| walk_at "eval Name") => `(tactic| (k_here; k_dflt (refine nameX_L (by k_asm) (by assumption) ?_)))
local macro_rules | `(tactic| walk_at "subscriptTail") => `(tactic| (k_here; (with_reducible show wpAny _ _ (subscriptTail _ (Expr.Slice _ _ none _) (Value.bytes _ _) (Value.ref _)) _ _ _); (with_reducible rename Fr _ _ _ _ => F'); (with_reducible rename News _ _ _ _ => N'); (refine by_slice (s := ⟨_, _, _, _, _⟩) F' N' (by omega) (by omega) (by omega) (by omega) ?_); intro _ _ _ _ _))

set_option maxHeartbeats 2000000 in
theorem left_spec {Q : Flow → Shared → Prop} {pre post : List (Addr × Obj)} {v₀ : Option Value} {ps : List (Array UInt8)} (CC : CL w mean mg mb A₀ outer h₀) (hd : dp + 9 < recursionLimit) (hu : un + 80 < cLine) (F : Fr h₀ L s.heap m) (N : News h₀ L s.heap (pre ++ (c5, o5) :: post))
   (hp : m (Str.ofString "place") = some (.int p tp)) (h3 : (c3, o3) ∈ pre ++ (c5, o5) :: post) (h4 : (c4, o4) ∈ pre ++ (c5, o5) :: post) (d3 : o3.data = .cell (some (.bytes d td))) (d4 : o4.data = .cell (some (.int n tn))) (d5 : o5.data = .cell v₀) (R : Rem d n p ps) (hn : 1 ≤ n) (hn2 : n ≤ 10) (hsz : d.size ≤ 60)
   (h1 : ∀ q ∈ pre, q.1 ≠ c5) (h2 : ∀ q ∈ post, q.1 ≠ c5)
   (hQ : ∀ D vs h' tk' o5', BytesAre vs ps → Fr h₀ L h' m → News h₀ L h' ((D, lst vs) :: (pre ++ (c5, o5') :: post)) → o5'.data = .cell (some (.ref D)) → (∀ q ∈ pre ++ (c5, o5) :: post, q.1 ≠ D) → Q .next { s with heap := h', toks := tk' }) :
   wpAny (model pwS w) (ktrTop dp un gd lawNm lawSc L 626 (.ref 625) (lawCl c1 c2 c3 c4 c5) outer) (exec (turnS 2) (envX lawNm lawSc L 626 (.ref 625) (lawCl c1 c2 c3 c4 c5))) Q E s := by
  obtain ⟨B, X, T⟩ := CC
  have hlo := R.lo
  show wpAny _ _ (exec (.Assign [.Name _ _] (.ListComp _ [⟨.Name _ _, _, [], 0⟩] _ _) _) _) _ _ _
  refine wpAny_Assign_Name ?_ rfl
  refine ListComp_S F (by with_unfolding_all rfl) (by decide) (by rfl) (by decide) (by rfl) ?_
  have N1 := news_more (news_more N h3) (.tail _ h4)
  k_steps
  rename_i h₁ tk₁ t₁ u₁ v₁ hr F₁ N₁ _
  have hln := R.len hn
  have hcnt : ps.length ≤ d.size := by
    by_cases h0 : ps.length = 0
    · omega
    · have g := (R.get hn (ps.length - 1) (by omega)).2.1
      have g2 : ((ps.length - 1 : Nat) : Int) * 1 ≤ ((ps.length - 1 : Nat) : Int) * n := Int.mul_le_mul_of_nonneg_left hn (by omega)
      omega
  refine ⟨_, _, _, _, _, _, _, ps.length, _, rfl, rfl, F₁, N₁, hr, ?_, hln, by rw [sizeLine_eq]; omega, ?_⟩
  · unfold Builtin.Range.small
    rw [hln]
    simp only [Builtin.Range.rangeFitsLong, Bool.and_eq_true, Bool.or_eq_true, decide_eq_true_eq, beq_iff_eq, if_pos (show n > 0 by omega)]
    omega
  · rintro s₂ ⟨g, rfl⟩
    refine comp_rest (own := []) (fun i v own => own = [] ∧ ∃ t, v = .bytes (d.extract (p + i * n).toNat (min (p + i * n + n) d.size).toNat) t) _ ?_ ps.length 0 [] ?_
    · rintro i v I oI C oC D ys m₂ h tk own E' Q' ⟨hi, t, rfl⟩ hC hx F2 N2 hne hret
      have g := (R.get hn i hi).2.1
      have g0 : 0 ≤ (i : Int) * n := Int.mul_nonneg (by omega) (by omega)
      have N3 := news_more (news_more (news_more N2 (x := (c4, o4)) (by simp)) (x := (c3, o3)) (by simp)) (x := (C, oC)) (by simp)
      clear hr F₁ N₁ N N2 hQ
      k_steps
      all_goals exact hret _ [] _ _ ⟨rfl, _, rfl⟩ (by assumption) (by simpa using news_less (news_less (news_less (by assumption)))) (fun q hq => nomatch hq)
    · intro vs ow hE D h tk F2 N2 o1
      obtain ⟨rfl, hb⟩ := els_bytes hn R hE (by omega)
      have hoff : ∀ q ∈ pre ++ (c5, o5) :: post, q.1 ≠ D := fun q hq => off1_mem o1 q (by simp only [List.nil_append]; exact .tail _ (.tail _ hq))
      have N3 : News h₀ L h ((D, lst ([] ++ vs)) :: (pre ++ (c5, o5) :: post)) := news_sub N2 fun q hq => by
        simp only [List.mem_append, List.mem_cons] at hq ⊢
        rcases hq with h | h | h | h <;> simp [h]
      refine cell_store (pre := (D, lst ([] ++ vs)) :: pre) (s := { s with heap := h, toks := tk }) F2 rfl N3 d5 (fun q hq => ?_) h2 fun h' o5' F4 N4 e5 => ?_
      · rcases List.mem_cons.mp hq with rfl | hq
        · exact (hoff (c5, o5) (by simp)).symm
        · exact h1 q hq
      · exact hQ D vs h' tk o5' (by simpa using hb) F4 (by simpa using N4) e5 hoff
end
end

section
open PySem PySem.W PyProof.Rows PySem.Calls PyProof.Rows.LCg PySem.SeqAt
theorem eqAt_bytes {A : Around} {s : Shared} (a b : Array UInt8) (t u : Tok) : EqAt A s (.bytes a t) (.bytes b u) (decide (a = b)) := fun prog w E Q hq => eqBool_bytes hq

/-- two values that are equal, by what this heap holds -/
inductive EqV (h : Heap) : Nat → Value → Value → Prop
  | same {k : Nat} (v : Value) : EqV h k v v
  | bytes {k : Nat} (b : Array UInt8) (t u : Tok) : EqV h k (.bytes b t) (.bytes b u)
  | tup {k : Nat} {a b : Addr} {xs ys : Array Value} : a ≠ b → h.IsTuple a xs → h.IsTuple b ys → xs.size = ys.size → (∀ j (h1 : j < xs.size) (h2 : j < ys.size), EqV h k xs[j] ys[j]) → EqV h (k + 1) (.ref a) (.ref b)
  | lst {k : Nat} {a b : Addr} {xs ys : Array Value} : a ≠ b → h.IsList a xs → h.IsList b ys → xs.size = ys.size → (∀ j (h1 : j < xs.size) (h2 : j < ys.size), EqV h k xs[j] ys[j]) → EqV h (k + 1) (.ref a) (.ref b)

theorem EqV.at {h : Heap} {k : Nat} {v u : Value} (x : EqV h k v u) : ∀ {A : Around} {s : Shared}, s.heap = h → A.units + k < cLine → EqAt A s v u true := by
  induction x with
  | same v => intro A s e hu; exact EqAt.same v
  | bytes b t u => intro A s e hu; simpa using eqAt_bytes (A := A) (s := s) b b t u
  | @tup k a b xs ys hne ha hb hsz hj ih =>
    intro A s e hu
    subst e
    have := RcAt.tuples (A := A) (e := fun _ => true) ha hb (by omega) fun j h1 h2 => ih j h1 h2 rfl (by show A.units + 1 + k < cLine; omega)
    have e2 : ((List.range (min xs.size ys.size)).all (fun _ => true) && xs.size == ys.size) = true := by simp [hsz]
    rw [e2] at this
    exact EqAt.of_refs hne this
  | @lst k a b xs ys hne ha hb hsz hj ih =>
    intro A s e hu
    subst e
    have := RcAt.lists (A := A) (e := fun _ => true) ha hb hsz (by omega) fun j h1 h2 => ih j h1 h2 rfl (by show A.units + 1 + k < cLine; omega)
    have e2 : ((List.range xs.size).all (fun _ => true)) = true := by simp
    rw [e2] at this
    exact EqAt.of_refs hne this

theorem ne_same {A : Around} {s : Shared} {E : Value → Shared → Prop} {prog : Program} {w : World} {Q : Value → Shared → Prop} {a b : Addr} {xs ys : Array Value} {k : Nat} (ha : s.heap.IsList a xs) (hb : s.heap.IsList b ys) (hsz : xs.size = ys.size)
    (hj : ∀ j (h1 : j < xs.size) (h2 : j < ys.size), EqV s.heap k xs[j] ys[j]) (hu : A.units + k + 1 < cLine) (hQ : Q (.bool false) s) : wpAny (model prog w) A (compareOp .NotEq (.ref a) (.ref b)) Q E s := by
  have := RcNeAt.lists (A := A) (e := fun _ => true) ha hb hsz (by omega) fun j h1 h2 => (hj j h1 h2).at rfl (by show A.units + 1 + k < cLine; omega)
  have e2 : ((List.range xs.size).all (fun _ => true)) = true := by simp
  rw [e2] at this
  exact this prog w E Q hQ

section
variable {prog : Program} {w : World} {A : Around} {E : Value → Shared → Prop} {s : Shared} {h₀ : Heap} {L : Addr} {m : Str → Option Value} {news : List (Addr × Obj)} {l : Addr} {vs : List Value}
theorem len_lo {Q : Value → Shared → Prop} (hl : s.heap.IsList l vs.toArray) (hf : vs.length ≤ 1000) (h : ∀ t k, Q (.int (vs.length : Nat) t) { s with toks := k }) : wpAny (model prog w) A (call (.builtin "len") [.ref l]) Q E s :=
  Calls.call_len_list hl (by simp; omega) (by simpa using h _ _)
theorem truthy_lo {Q : Bool → Shared → Prop} (hl : s.heap.IsList l vs.toArray) (hf : vs.length ≤ 1000) (h : ∀ k, Q (!vs.isEmpty) { s with toks := k }) : wpAny (model prog w) A (truthy (.ref l)) Q E s :=
  wpAny_truthy_list hl (by simp; omega) (by simpa using h _)
theorem truthy_cons {v : Value} {Q : Bool → Shared → Prop} (hl : s.heap.IsList l (v :: vs).toArray) (hf : vs.length < 1000) (h : ∀ k, Q true { s with toks := k }) : wpAny (model prog w) A (truthy (.ref l)) Q E s :=
  truthy_lo hl (by simp; omega) h
theorem truthy_nil {Q : Bool → Shared → Prop} (hl : s.heap.IsList l ([] : List Value).toArray) (h : ∀ k, Q false { s with toks := k }) : wpAny (model prog w) A (truthy (.ref l)) Q E s :=
  truthy_lo hl (by simp) h
theorem pick_upto {y : Int} (hy : 0 ≤ y) : (slicePick vs.toArray none (some y) none).toList = vs.take y.toNat := by
  have e : sliceBounds none (some y) none vs.toArray.size = (((0 : Nat) : Int), ((min y.toNat vs.toArray.size : Nat) : Int), 1) := by
    simp only [sliceBounds, Option.getD_none, show (1 : Int) > 0 by decide, if_true, if_neg (show ¬ (y < 0) by omega)]
    congr 1
    congr 1
    omega
  rw [kmk_pick_nat _ e]
  simp [← List.take_eq_take_min]
theorem pick_run2 {x y : Int} (hx : 0 ≤ x) (hy : x ≤ y) : (slicePick vs.toArray (some x) (some y) none).toList = (vs.drop x.toNat).take (y.toNat - x.toNat) := by
  have e : sliceBounds (some x) (some y) none vs.toArray.size = (((min x.toNat vs.toArray.size : Nat) : Int), ((min y.toNat vs.toArray.size : Nat) : Int), 1) := by
    simp only [sliceBounds, Option.getD_none, show (1 : Int) > 0 by decide, if_true, if_neg (show ¬ (x < 0) by omega), if_neg (show ¬ (y < 0) by omega)]
    congr 1
    · omega
    · congr 1
      omega
  rw [kmk_pick_nat _ e]
  simp only [List.size_toArray]
  have ml : ∀ (X Y n : Nat), X ≤ Y → min Y n - min X n = min (Y - X) (n - X) := by
    intro X Y n h
    rw [Nat.sub_min_sub_right]
    rcases Nat.le_total X n with q | q
    · rw [Nat.min_eq_left q]
    · rw [Nat.min_eq_right q, Nat.min_eq_right (Nat.le_trans q h), Nat.sub_self, Nat.sub_eq_zero_of_le q]
  apply List.ext_getElem
  · simp
    rw [Nat.min_eq_left (Nat.sub_le_sub_right (Nat.min_le_right _ _) _)]
    exact ml _ _ _ (by omega)
  · intro i h1 h2
    simp only [List.getElem_take, List.getElem_drop]
    congr 1
    simp at h1
    omega
end
end

section
open PySem PySem.W PyProof.Rows PySem.Calls PyProof.Rows.LCg
/-- a branch's end: what it found and what it should, and how far it read -/
noncomputable def BrEnd (w : World) (h₀ : Heap) (L : Addr) (rest : List (Addr × Obj)) (DS BA : Addr) (t1 t2 : Tok) (d : Array UInt8) (m : Str → Option Value) (ps : List (Array UInt8)) (s : Shared) (Q : Flow → Shared → Prop) : Prop :=
  ∀ h' tk' m' (u : Nat) p0 p' tp' T1 D1 tv dv tu' t3', Fr h₀ L h' m' → News h₀ L h' ((DS, sD w.params BA p' t1 t2 t3') :: rest) → m' (Str.ofString "told") = some (.ref T1) → m' (Str.ofString "due") = some (.ref D1) → m' (Str.ofString "used") = some (.int (u : Nat) tu') → m' (Str.ofString "place") = some (.int p0 tp') →
    m' (Str.ofString "hand") = m (Str.ofString "hand") → m' (Str.ofString "stream") = m (Str.ofString "stream") → h'.IsList T1 tv → h'.IsList D1 dv → tv.size = dv.size → (∀ j (h1 : j < tv.size) (h2 : j < dv.size), EqV h' 2 tv[j] dv[j]) →
    u ≤ ps.length → 0 ≤ p' → p' ≤ d.size → p0 + (((ps.take u).map (·.size)).sum : Nat) = p' → Q .next { s with heap := h', toks := tk' }

theorem Rem.total {d : Array UInt8} {n p : Int} {ps : List (Array UInt8)} (hn : 1 ≤ n) (R : Rem d n p ps) : p + ((ps.map (·.size)).sum : Nat) = d.size := by
  induction R with
  | nil => simp
  | @cons p ps h0 h1 R ih =>
    have hl := R.lo
    simp only [List.map_cons, List.sum_cons, Array.size_extract]
    omega
theorem Rem.sum {d : Array UInt8} {n p p' : Int} {ps : List (Array UInt8)} (hn : 1 ≤ n) (R : Rem d n p ps) (u : Nat) (R' : Rem d n p' (ps.drop u)) : p + (((ps.take u).map (·.size)).sum : Nat) = p' := by
  have a := R.total hn
  have b := R'.total hn
  have c : ((ps.map (·.size)).sum : Nat) = ((ps.take u).map (·.size)).sum + ((ps.drop u).map (·.size)).sum := by
    rw [← List.sum_append, ← List.map_append, List.take_append_drop]
  omega

/-- two rows of values, equal one by one -/
inductive EqVs (h : Heap) : List Value → List Value → Prop
  | nil : EqVs h [] []
  | cons {v u : Value} {vs us : List Value} : EqV h 2 v u → EqVs h vs us → EqVs h (v :: vs) (u :: us)
theorem EqVs.length {h : Heap} {vs us : List Value} (x : EqVs h vs us) : vs.length = us.length := by
  induction x with
  | nil => rfl
  | cons _ _ ih => simp [ih]
theorem EqVs.get {h : Heap} {vs us : List Value} (x : EqVs h vs us) : ∀ (j : Nat) (h1 : j < vs.length) (h2 : j < us.length), EqV h 2 vs[j] us[j] := by
  induction x with
  | nil => intro j h1; simp at h1
  | cons a b ih =>
    intro j h1 h2
    cases j with
    | zero => exact a
    | succ j => simpa using ih j (by simpa using h1) (by simpa using h2)

theorem BrEnd.fin {w : World} {h₀ h' : Heap} {L T1 D1 DS BA : Addr} {rest l : List (Addr × Obj)} {t1 t2 t3' tp' tu' : Tok} {d : Array UInt8} {m m' : Str → Option Value} {ps : List (Array UInt8)} {s : Shared} {Q : Flow → Shared → Prop} {n p p' uv : Int} {tv dv : Array Value} {tk' : Nat}
    (hQ : BrEnd w h₀ L rest DS BA t1 t2 d m ps s Q) (k u : Nat) (R' : Rem d n p' (ps.drop u)) (hn : 1 ≤ n) (R : Rem d n p ps) (F : Fr h₀ L h' m') (N : News h₀ L h' l) (e : l.drop k = (DS, sD w.params BA p' t1 t2 t3') :: rest)
    (a1 : m' (Str.ofString "told") = some (.ref T1)) (a2 : m' (Str.ofString "due") = some (.ref D1)) (a3 : m' (Str.ofString "used") = some (.int uv tu')) (a4 : m' (Str.ofString "place") = some (.int p tp'))
    (a5 : m' (Str.ofString "hand") = m (Str.ofString "hand")) (a6 : m' (Str.ofString "stream") = m (Str.ofString "stream")) (l1 : h'.IsList T1 tv) (l2 : h'.IsList D1 dv) (q : EqVs h' tv.toList dv.toList) (hu : u ≤ ps.length) (huv : uv = (u : Nat)) : Q .next { s with heap := h', toks := tk' } := by
  subst huv
  have hl := R'.lo
  refine hQ h' tk' m' u p p' tp' T1 D1 tv dv tu' t3' F (news_sub N fun q hq => ?_) a1 a2 a3 a4 a5 a6 l1 l2 (by simpa using q.length) (fun j h1 h2 => by have := q.get j (by simpa using h1) (by simpa using h2); rwa [Array.getElem_toList, Array.getElem_toList] at this) hu hl.1 hl.2 (R.sum hn u R')
  rw [← e] at hq
  exact List.mem_of_mem_drop hq

section
variable {w : World} {mean : ExcName → Option Value} {mg mb : Str → Option Value} {dp un : Nat} {gd : Option (List Code)} {cn : Str} {cs : Scope} {a : Addr} {ccd : Value} {cl : List (Str × Addr)} {outer : List Env} {A₀ : Around} {h₀ : Heap} {L : Addr} {m : Str → Option Value} {s : Shared} {E : Value → Shared → Prop}
  {rest : List (Addr × Obj)} {S DS BA H DH M : Addr} {p : Int} {t1 t2 t3 : Tok} {d : Array UInt8} {n : Int} {u1 u2 u3 u4 : Tok} {ps : List (Array UInt8)} {TL DL : Addr} {oT oD : Obj}

/-- the same as next_hand, with two objects of the caller's ahead of the ledger -/
theorem next_hand_2 {A : Around} (CC : CL w mean mg mb A₀ outer h₀) (C : HC w rest S DS BA H DH M d n u1 u2 u3 u4) (hk : cs.kind = .function) (hA : OkA cn cs L a ccd cl outer 1 A) (F : Fr h₀ L s.heap m)
    {Q : Value → Shared → Prop} (N : News h₀ L s.heap ((DL, oD) :: (TL, oT) :: (DS, sD w.params BA p t1 t2 t3) :: rest)) (R : Rem d n p ps) (hD : DS < DL) (hT : DS < TL)
    (h0 : ps = [] → ∀ p' h' tk' t3', Rem d n p' [] → Fr h₀ L h' m → News h₀ L h' ((DL, oD) :: (TL, oT) :: (DS, sD w.params BA p' t1 t2 t3') :: rest) → Q .none { s with heap := h', toks := tk' })
    (h1 : ∀ b qs, ps = b :: qs → ∀ p' t h' tk' t3', Rem d n p' qs → Fr h₀ L h' m → News h₀ L h' ((DL, oD) :: (TL, oT) :: (DS, sD w.params BA p' t1 t2 t3') :: rest) → Q (.bytes b t) { s with heap := h', toks := tk' }) :
    wpAny (model pwS w) A (call (.builtin "next") [.ref H, .none]) Q E s := by
  have perm : ∀ {h : Heap} {x : Addr × Obj}, News h₀ L h (x :: (rest ++ [(DL, oD), (TL, oT)])) → News h₀ L h ((DL, oD) :: (TL, oT) :: x :: rest) := fun N => news_sub N fun q hq => by
    simp only [List.mem_append, List.mem_cons] at hq ⊢
    rcases hq with h | h | h | h <;> simp [h]
  have C' : HC w (rest ++ [(DL, oD), (TL, oT)]) S DS BA H DH M d n u1 u2 u3 u4 := C.more fun q hq => by
    rcases List.mem_cons.mp hq with rfl | hq
    · exact Nat.ne_of_gt hD
    · rw [List.mem_singleton.mp hq]; exact Nat.ne_of_gt hT
  refine next_hand (t1 := t1) (t2 := t2) CC C' hk hA F (ps := ps) ⟨p, t3, R, rfl⟩ (news_sub N fun q hq => by
    simp only [List.mem_append, List.mem_cons, List.not_mem_nil, or_false] at hq ⊢
    rcases hq with h | h | h | h <;> simp [h]) (fun e led' h' tk' hl F' N' => ?_) (fun b qs t e led' h' tk' hl F' N' => ?_)
  · obtain ⟨p', t3', R', rfl⟩ := hl
    exact h0 e p' h' tk' t3' R' F' (perm N')
  · obtain ⟨p', t3', R', rfl⟩ := hl
    exact h1 b qs e p' t h' tk' t3' R' F' (perm N')

theorem iter_hand_2 {A : Around} (CC : CL w mean mg mb A₀ outer h₀) (C : HC w rest S DS BA H DH M d n u1 u2 u3 u4) (hk : cs.kind = .function) (hA : OkA cn cs L a ccd cl outer 1 A) (F : Fr h₀ L s.heap m)
    {Q : Value → Shared → Prop} (N : News h₀ L s.heap ((DL, oD) :: (TL, oT) :: (DS, sD w.params BA p t1 t2 t3) :: rest)) (R : Rem d n p ps) (hD : DS < DL) (hT : DS < TL)
    (h : ∀ h' tk', Fr h₀ L h' m → News h₀ L h' ((DL, oD) :: (TL, oT) :: (DS, sD w.params BA p t1 t2 t3) :: rest) → Q (.ref H) { s with heap := h', toks := tk' }) :
    wpAny (model pwS w) A (call (.builtin "iter") [.ref H]) Q E s := by
  have C' : HC w (rest ++ [(DL, oD), (TL, oT)]) S DS BA H DH M d n u1 u2 u3 u4 := C.more fun q hq => by
    rcases List.mem_cons.mp hq with rfl | hq
    · exact Nat.ne_of_gt hD
    · rw [List.mem_singleton.mp hq]; exact Nat.ne_of_gt hT
  refine call_iter_hand (t1 := t1) (t2 := t2) CC C' hk hA F (ps := ps) ⟨p, t3, R, rfl⟩ (news_sub N fun q hq => by
    simp only [List.mem_append, List.mem_cons, List.not_mem_nil, or_false] at hq ⊢
    rcases hq with h | h | h | h <;> simp [h]) fun h' tk' F' N' => h h' tk' F' (news_sub N' fun q hq => by
      simp only [List.mem_append, List.mem_cons] at hq ⊢
      rcases hq with h | h | h | h <;> simp [h])
theorem next_hand_nil {A : Around} (CC : CL w mean mg mb A₀ outer h₀) (C : HC w rest S DS BA H DH M d n u1 u2 u3 u4) (hk : cs.kind = .function) (hA : OkA cn cs L a ccd cl outer 1 A) (F : Fr h₀ L s.heap m)
    {Q : Value → Shared → Prop} (N : News h₀ L s.heap ((DL, oD) :: (TL, oT) :: (DS, sD w.params BA p t1 t2 t3) :: rest)) (R : Rem d n p []) (hD : DS < DL) (hT : DS < TL)
    (h0 : ∀ p' h' tk' t3', Rem d n p' [] → Fr h₀ L h' m → News h₀ L h' ((DL, oD) :: (TL, oT) :: (DS, sD w.params BA p' t1 t2 t3') :: rest) → Q .none { s with heap := h', toks := tk' }) :
    wpAny (model pwS w) A (call (.builtin "next") [.ref H, .none]) Q E s := next_hand_2 CC C hk hA F N R hD hT (fun _ => h0) (fun _ _ e => nomatch e)
theorem next_hand_cons {A : Around} {b : Array UInt8} {qs : List (Array UInt8)} (CC : CL w mean mg mb A₀ outer h₀) (C : HC w rest S DS BA H DH M d n u1 u2 u3 u4) (hk : cs.kind = .function) (hA : OkA cn cs L a ccd cl outer 1 A) (F : Fr h₀ L s.heap m)
    {Q : Value → Shared → Prop} (N : News h₀ L s.heap ((DL, oD) :: (TL, oT) :: (DS, sD w.params BA p t1 t2 t3) :: rest)) (R : Rem d n p (b :: qs)) (hD : DS < DL) (hT : DS < TL)
    (h1 : ∀ p' t h' tk' t3', Rem d n p' qs → Fr h₀ L h' m → News h₀ L h' ((DL, oD) :: (TL, oT) :: (DS, sD w.params BA p' t1 t2 t3') :: rest) → Q (.bytes b t) { s with heap := h', toks := tk' }) :
    wpAny (model pwS w) A (call (.builtin "next") [.ref H, .none]) Q E s := next_hand_2 CC C hk hA F N R hD hT (fun e => nomatch e) (fun b' qs' e => by cases e; exact h1)
end
end

section
open PySem PySem.W PyProof.Rows PySem.Calls PyProof.Rows.LCg
theorem bytes_eqs {h : Heap} {vs us : List Value} {ps : List (Array UInt8)} (a : BytesAre vs ps) (b : BytesAre us ps) : EqVs h vs us := by
  induction a generalizing us with
  | nil => cases b; exact .nil
  | cons t _ ih => cases b with | cons u b => exact .cons (.bytes _ _ _) (ih b)
theorem its_bytes {ps : List (Array UInt8)} {vs : List Value} {ow : List (Addr × Obj)} (h : Its ItemB ps vs ow) : BytesAre vs ps ∧ ow = [] := by
  induction h with
  | nil => exact ⟨.nil, rfl⟩
  | cons hi _ ih =>
    obtain ⟨⟨t, rfl⟩, rfl⟩ := hi
    obtain ⟨hb, rfl⟩ := ih
    exact ⟨.cons t hb, rfl⟩

theorem BrEnd.fin0 {w : World} {h₀ h' : Heap} {L T1 D1 DS BA : Addr} {rest l : List (Addr × Obj)} {t1 t2 t3' tp' tu' : Tok} {d : Array UInt8} {m m' : Str → Option Value} {ps : List (Array UInt8)} {s : Shared} {Q : Flow → Shared → Prop} {p' : Int} {tv dv : Array Value} {tk' : Nat}
    (hQ : BrEnd w h₀ L rest DS BA t1 t2 d m ps s Q) (k : Nat) (h0 : 0 ≤ p') (h1 : p' ≤ d.size) (F : Fr h₀ L h' m') (N : News h₀ L h' l) (e : l.drop k = (DS, sD w.params BA p' t1 t2 t3') :: rest)
    (a1 : m' (Str.ofString "told") = some (.ref T1)) (a2 : m' (Str.ofString "due") = some (.ref D1)) (a3 : m' (Str.ofString "used") = some (.int 0 tu')) (a4 : m' (Str.ofString "place") = some (.int p' tp'))
    (a5 : m' (Str.ofString "hand") = m (Str.ofString "hand")) (a6 : m' (Str.ofString "stream") = m (Str.ofString "stream")) (l1 : h'.IsList T1 tv) (l2 : h'.IsList D1 dv) (q : EqVs h' tv.toList dv.toList) : Q .next { s with heap := h', toks := tk' } := by
  refine hQ h' tk' m' 0 p' p' tp' T1 D1 tv dv tu' t3' F (news_sub N fun q hq => ?_) a1 a2 a3 a4 a5 a6 l1 l2 (by simpa using q.length) (fun j h1 h2 => by have := q.get j (by simpa using h1) (by simpa using h2); rwa [Array.getElem_toList, Array.getElem_toList] at this) (Nat.zero_le _) h0 h1 (by simp)
  rw [← e] at hq
  exact List.mem_of_mem_drop hq
section
variable {w : World} {mean : ExcName → Option Value} {mg mb : Str → Option Value} {dp un : Nat} {gd : Option (List Code)} {cn : Str} {cs : Scope} {a : Addr} {ccd : Value} {cl : List (Str × Addr)} {outer : List Env} {A₀ : Around} {h₀ : Heap} {L : Addr} {m : Str → Option Value} {s : Shared} {E : Value → Shared → Prop}
  {rest rest' led : List (Addr × Obj)} {S DS BA H DH M Z TI TO : Addr} {p : Int} {t1 t2 t3 : Tok} {d : Array UInt8} {n : Int} {u1 u2 u3 u4 : Tok} {ps : List (Array UInt8)} {TL DL : Addr} {oT oD oX : Obj}

theorem hc2 (C : HC w rest S DS BA H DH M d n u1 u2 u3 u4) (hD : DS < DL) (hT : DS < TL) : HC w (rest ++ [(DL, oD), (TL, oT)]) S DS BA H DH M d n u1 u2 u3 u4 := C.more fun q hq => by
  rcases List.mem_cons.mp hq with rfl | hq
  · exact Nat.ne_of_gt hD
  · rw [List.mem_singleton.mp hq]; exact Nat.ne_of_gt hT
theorem perm2 {h : Heap} {x : Addr × Obj} (N : News h₀ L h (x :: (rest ++ [(DL, oD), (TL, oT)]))) : News h₀ L h ((DL, oD) :: (TL, oT) :: x :: rest) := news_sub N fun q hq => by
  simp only [List.mem_append, List.mem_cons] at hq ⊢
  rcases hq with h | h | h | h <;> simp [h]
theorem perm2' {h : Heap} {x : Addr × Obj} (N : News h₀ L h ((DL, oD) :: (TL, oT) :: x :: rest)) : News h₀ L h (x :: (rest ++ [(DL, oD), (TL, oT)])) := news_sub N fun q hq => by
  simp only [List.mem_append, List.mem_cons, List.not_mem_nil, or_false] at hq ⊢
  rcases hq with h | h | h | h <;> simp [h]

theorem list_hand_2 {A : Around} (CC : CL w mean mg mb A₀ outer h₀) (C : HC w rest S DS BA H DH M d n u1 u2 u3 u4) (hk : cs.kind = .function) (hA : OkA cn cs L a ccd cl outer 2 A) (F : Fr h₀ L s.heap m)
    {Q : Value → Shared → Prop} (N : News h₀ L s.heap ((DL, oD) :: (TL, oT) :: (DS, sD w.params BA p t1 t2 t3) :: rest)) (R : Rem d n p ps) (hz : ps.length ≤ 60) (hD : DS < DL) (hT : DS < TL)
    (h : ∀ S' vs' c p' h' tk' t3', BytesAre vs' ps → Rem d n p' [] → Fr h₀ L h' m → News h₀ L h' ((S', listOf vs'.toArray c) :: (DL, oD) :: (TL, oT) :: (DS, sD w.params BA p' t1 t2 t3') :: rest) → (∀ q ∈ (DL, oD) :: (TL, oT) :: rest, q.1 ≠ S') → Q (.ref S') { s with heap := h', toks := tk' }) :
    wpAny (model pwS w) A (call (.type "list") [.ref H]) Q E s := by
  refine call_list_itr (extra := []) (handItr (t1 := t1) (t2 := t2) CC (hc2 (oD := oD) (oT := oT) C hD hT) hk) hA.in1.in1 (xs := ps) ⟨p, t3, R, rfl⟩ (fun q hq => nomatch hq) (by rw [sizeLine_eq]; omega) F (by simpa using perm2' N) fun S' led' vs ow c' h' tk' hi hf hw hSW F' N' hlt => ?_
  obtain ⟨p', t3', R', rfl⟩ := hf
  obtain ⟨hb, rfl⟩ := its_bytes hi
  refine h S' vs c' p' h' tk' t3' hb R' F' (news_sub N' fun q hq => ?_) fun q hq => Nat.ne_of_lt (hlt q ?_)
  · simp only [List.mem_append, List.mem_cons, List.not_mem_nil, or_false] at hq ⊢
    rcases hq with h | h | h | h | h <;> simp [h, loO]
  · simp only [List.mem_append, List.mem_cons, List.not_mem_nil, or_false] at hq ⊢
    rcases hq with h | h | h <;> simp [h]

theorem zip_2 {A : Around} (CC : CL w mean mg mb A₀ outer h₀) (C : HC w rest S DS BA H DH M d n u1 u2 u3 u4) (hk : cs.kind = .function) (hA : OkA cn cs L a ccd cl outer 2 A) (F : Fr h₀ L s.heap m)
    {Q : Value → Shared → Prop} (N : News h₀ L s.heap ((DL, oD) :: (TL, oT) :: (DS, sD w.params BA p t1 t2 t3) :: rest)) (R : Rem d n p ps) (hD : DS < DL) (hT : DS < TL)
    (h : ∀ Z TI TO rest' led' h' tk', HC w rest' S DS BA H DH M d n u1 u2 u3 u4 → ZC rest' DS H Z TI TO → (∀ q ∈ (DL, oD) :: (TL, oT) :: rest, q ∈ rest') → LedZ w rest' DS BA t1 t2 d n ps Z TI TO (pairs ps) led' → Fr h₀ L h' m → News h₀ L h' led' → Q (.ref Z) { s with heap := h', toks := tk' }) :
    wpAny (model pwS w) A (call (.type "zip") [.ref H, .ref H]) Q E s := by
  refine call_zip (t1 := t1) (t2 := t2) (ps := ps) CC (hc2 (oD := oD) (oT := oT) C hD hT) hk hA F ⟨p, t3, R, rfl⟩ (perm2' N) fun Z TI TO rest' led' h' tk' C' D hsub hl F' N' => ?_
  refine h Z TI TO rest' led' h' tk' C' D (fun q hq => hsub q ?_) hl F' N'
  simp only [List.mem_append, List.mem_cons, List.not_mem_nil, or_false] at hq ⊢
  rcases hq with h | h | h <;> simp [h]

theorem seek_4 {t4 : Tok} {X0 X1 : Addr × Obj} {k : Int} (CC : CL w mean mg mb A₀ outer h₀) (C : HC w rest S DS BA H DH M d n u1 u2 u3 u4) (hk : cs.kind = .function) (hd : dp + 9 < recursionLimit) (hu : un + 90 < cLine) (F : Fr h₀ L s.heap m)
    {Q : Value → Shared → Prop} (N : News h₀ L s.heap (X0 :: X1 :: (DL, oD) :: (TL, oT) :: (DS, sD w.params BA p t1 t2 t3) :: rest)) (h1 : 0 ≤ k) (h2 : k ≤ 1000000) (hX : X0.1 ≠ DS) (hX1 : X1.1 ≠ DS) (hD : DS < DL) (hT : DS < TL)
    (h : ∀ t h' tk' t3', Fr h₀ L h' m → News h₀ L h' (X0 :: X1 :: (DL, oD) :: (TL, oT) :: (DS, sD w.params BA k t1 t2 t3') :: rest) → Q (.int k t) { s with heap := h', toks := tk' }) :
    wpAny (model pwS w) (ktrTop dp un gd cn cs L a ccd cl outer) (call (.ref 273) [.ref S, .int k t4]) Q E s := by
  have C2 := hc2 (oD := oD) (oT := oT) C hD hT
  refine seek_spec (BA := BA) (p := p) (t1 := t1) (t2 := t2) (t3 := t3) CC.B CC.X CC.T hk (by omega) (by omega) F (rest := X0 :: X1 :: (rest ++ [(DL, oD), (TL, oT)])) h1 h2 (.tail _ (.tail _ C2.hS)) (fun q hq => ?_) (news_sub N fun q hq => ?_) fun h' tk' t' t3' F' N' => h t' h' tk' t3' F' (news_sub N' fun q hq => ?_)
  · rcases List.mem_cons.mp hq with rfl | hq
    · exact hX
    · rcases List.mem_cons.mp hq with rfl | hq
      · exact hX1
      · exact C2.hne q hq
  · simp only [List.mem_append, List.mem_cons, List.not_mem_nil, or_false] at hq ⊢
    rcases hq with h | h | h | h | h | h <;> simp [h]
  · simp only [List.mem_append, List.mem_cons, List.not_mem_nil, or_false] at hq ⊢
    rcases hq with h | h | h | h | h | h <;> simp [h]
theorem next_zip_nil {A : Around} (CC : CL w mean mg mb A₀ outer h₀) (C' : HC w rest' S DS BA H DH M d n u1 u2 u3 u4) (D : ZC rest' DS H Z TI TO) (sub : ∀ q ∈ (DL, oD) :: (TL, oT) :: rest, q ∈ rest') (hl : LedZ w rest' DS BA t1 t2 d n ps Z TI TO [] led) (hk : cs.kind = .function) (hA : OkA cn cs L a ccd cl outer 2 A) (F : Fr h₀ L s.heap m)
    {Q : Value → Shared → Prop} (N : News h₀ L s.heap led)
    (h : ∀ p' h' tk' t3', Rem d n p' [] → Fr h₀ L h' m → News h₀ L h' ((DL, oD) :: (TL, oT) :: (DS, sD w.params BA p' t1 t2 t3') :: rest) → Q .none { s with heap := h', toks := tk' }) :
    wpAny (model pwS w) A (call (.builtin "next") [.ref Z, .none]) Q E s := by
  refine next_zip (t1 := t1) (t2 := t2) CC C' D hk hA F hl N (fun _ led' h' tk' hf F' N' => ?_) (fun _ _ _ _ _ _ e => nomatch e)
  obtain ⟨p', t3', more, R', rfl, _⟩ := hf
  refine h p' h' tk' t3' R' F' (news_sub N' fun q hq => ?_)
  have := sub q
  simp only [List.mem_append, List.mem_cons] at hq this ⊢
  rcases hq with h | h | h | h
  · exact .inr (.inl (this (.inl h)))
  · exact .inr (.inl (this (.inr (.inl h))))
  · exact .inl h
  · exact .inr (.inl (this (.inr (.inr h))))
theorem next_zip_cons {A : Around} {b c : Array UInt8} {qs : List (Array UInt8)} (CC : CL w mean mg mb A₀ outer h₀) (C' : HC w rest' S DS BA H DH M d n u1 u2 u3 u4) (D : ZC rest' DS H Z TI TO) (sub : ∀ q ∈ (DL, oD) :: (TL, oT) :: rest, q ∈ rest') (hl : LedZ w rest' DS BA t1 t2 d n (b :: c :: qs) Z TI TO (pairs (b :: c :: qs)) led) (hk : cs.kind = .function) (hA : OkA cn cs L a ccd cl outer 2 A) (F : Fr h₀ L s.heap m)
    {Q : Value → Shared → Prop} (N : News h₀ L s.heap led) (cT : oT.cls = .type "list") (cD : oD.cls = .type "list")
    (h : ∀ T t t' p' h' tk' t3', Rem d n p' qs → Fr h₀ L h' m → News h₀ L h' ((T, pO (.bytes b t) (.bytes c t')) :: (DL, oD) :: (TL, oT) :: (DS, sD w.params BA p' t1 t2 t3') :: rest) → @Ne Nat T TL → @Ne Nat T DL → @Ne Nat T DS → Q (.ref T) { s with heap := h', toks := tk' }) :
    wpAny (model pwS w) A (call (.builtin "next") [.ref Z, .none]) Q E s := by
  refine next_zip (t1 := t1) (t2 := t2) CC C' D hk hA F hl N (fun e => nomatch e) (fun b' c' qs' T t t' e led' h' tk' hf F' N' hTD => ?_)
  simp only [pairs, List.cons.injEq, Prod.mk.injEq] at e
  obtain ⟨⟨rfl, rfl⟩, rfl⟩ := e
  obtain ⟨ps', p', t3', f0, f1, x, y, Y, ⟨j, hj, hjl⟩, eq, R', rfl, hY, hf⟩ := hf
  have j1 : j = 1 := by simp only [pairs, List.length_cons] at hjl; omega
  subst j1
  have hps : ps' = qs := by simpa using hj
  subst hps
  have N2 : News h₀ L h' ((T, pO (.bytes b t) (.bytes c t')) :: (DL, oD) :: (TL, oT) :: (DS, sD w.params BA p' t1 t2 t3') :: rest) := news_sub N' fun q hq => by
    have := sub q
    simp only [List.mem_append, List.mem_cons, List.not_mem_nil, or_false] at hq this ⊢
    rcases hq with h | h | h | h | h
    · exact .inr h
    · exact .inl (.inr (.inl (this (.inl h))))
    · exact .inl (.inr (.inl (this (.inr (.inl h)))))
    · exact .inl (.inl h)
    · exact .inl (.inr (.inl (this (.inr (.inr h)))))
  have gT : h'.get? T = some (pO (.bytes b t) (.bytes c t')) := N2.get (.head _)
  refine h T t t' p' h' tk' t3' R' F' N2 (fun e => ?_) (fun e => ?_) hTD
  · have g := N2.get (.tail _ (.tail _ (.head _)))
    rw [← e, gT] at g
    rw [← Option.some.inj g] at cT
    simp [pO] at cT
  · have g := N2.get (.tail _ (.head _))
    rw [← e, gT] at g
    rw [← Option.some.inj g] at cD
    simp [pO] at cD
theorem pair_eqv {h : Heap} {l : List (Addr × Obj)} {T D : Addr} {b c : Array UInt8} {t t' u u' : Tok} {k k' : Nat} (N : News h₀ L h l) (hT : (T, pO (.bytes b t) (.bytes c t') k) ∈ l) (hD : (D, pO (.bytes b u) (.bytes c u') k') ∈ l) (ne : T ≠ D) : EqV h 2 (.ref T) (.ref D) := by
  refine .tup ne ⟨_, N.get hT, rfl, _, rfl⟩ ⟨_, N.get hD, rfl, _, rfl⟩ rfl fun j h1 h2 => ?_
  match j, h1 with
  | 0, _ => exact .bytes _ _ _
  | 1, _ => exact .bytes _ _ _
end
end

section
open PySem PySem.W PyProof.Rows PySem.Calls PyProof.Rows.LCg
noncomputable def ifTest (st : Stmt) : Expr := match st with | .If t _ _ _ => t | _ => .Constant .none 0 default
noncomputable def ifBody (st : Stmt) : List Stmt := match st with | .If _ b _ _ => b | _ => []
noncomputable def ifElse (st : Stmt) : List Stmt := match st with | .If _ _ b _ => b | _ => []
noncomputable def ifPos (st : Stmt) : Pos := match st with | .If _ _ _ p => p | _ => default
noncomputable def headS (l : List Stmt) : Stmt := match l with | x :: _ => x | [] => .Pass default
noncomputable def chainS : Nat → Stmt
  | 0 => turnS 7
  | k + 1 => headS (ifElse (chainS k))
section
variable {w : World} {mean : ExcName → Option Value} {mg mb : Str → Option Value} {dp un : Nat} {gd : Option (List Code)} {outer : List Env} {A₀ : Around} {h₀ : Heap} {L : Addr} {m : Str → Option Value} {s : Shared} {E : Value → Shared → Prop}
  {c1 c2 c3 c4 c5 : Addr}
local macro_rules | `(tactic| walk_at "eval Name") => `(tactic| (k_here; (with_reducible show wpAny _ _ (eval (Expr.Name _ _) (envX _ _ _ _ _ _)) _ _ _); (refine' nameX_L ?F ?v ?_ ?k ?x ?d; (case x => rfl); (case k => rfl); (case d => decide); (case F => k_asm); (case v => first | with_reducible assumption | assumption); k_whole)))
theorem if_kind {Q : Flow → Shared → Prop} {k c : Int} {tk : Tok} {body orelse : List Stmt} {p1 p2 p3 p4 : Pos} {kk} {news : List (Addr × Obj)} (CC : CL w mean mg mb A₀ outer h₀) (F : Fr h₀ L s.heap m) (N : News h₀ L s.heap news)
   (lk : m (Str.ofString "kind") = some (.int k tk))
   (h1 : k = c → ∀ tk', wpAny (model pwS w) (ktrTop dp un gd lawNm lawSc L 626 (.ref 625) (lawCl c1 c2 c3 c4 c5) outer) (execs body (envX lawNm lawSc L 626 (.ref 625) (lawCl c1 c2 c3 c4 c5))) Q E { s with toks := tk' })
   (h2 : k ≠ c → ∀ tk', wpAny (model pwS w) (ktrTop dp un gd lawNm lawSc L 626 (.ref 625) (lawCl c1 c2 c3 c4 c5) outer) (execs orelse (envX lawNm lawSc L 626 (.ref 625) (lawCl c1 c2 c3 c4 c5))) Q E { s with toks := tk' }) :
   wpAny (model pwS w) (ktrTop dp un gd lawNm lawSc L 626 (.ref 625) (lawCl c1 c2 c3 c4 c5) outer) (exec (.If (.Compare (.Name (Str.ofString "kind") p1) [.Eq] [.Constant (.int c) kk p2] p3) body orelse p4) (envX lawNm lawSc L 626 (.ref 625) (lawCl c1 c2 c3 c4 c5))) Q E s := by
  obtain ⟨B, X, T⟩ := CC
  k_steps
  all_goals first | exact h1 (by assumption) _ | exact h2 (by assumption) _

noncomputable def brS (c : Nat) : List Stmt := if c = 7 then ifElse (chainS 6) else ifBody (chainS c)

theorem kind_chain (i : Nat) (hi : i < 7) : ∃ p1 p2 p3 p4 kk, chainS i = .If (.Compare (.Name (Str.ofString "kind") p1) [.Eq] [.Constant (.int (i : Nat)) kk p2] p3) (ifBody (chainS i)) (ifElse (chainS i)) p4 := by
  match i, hi with
  | 0, _ => exact ⟨_, _, _, _, _, rfl⟩
  | 1, _ => exact ⟨_, _, _, _, _, rfl⟩
  | 2, _ => exact ⟨_, _, _, _, _, rfl⟩
  | 3, _ => exact ⟨_, _, _, _, _, rfl⟩
  | 4, _ => exact ⟨_, _, _, _, _, rfl⟩
  | 5, _ => exact ⟨_, _, _, _, _, rfl⟩
  | 6, _ => exact ⟨_, _, _, _, _, rfl⟩
theorem kind_else (i : Nat) (hi : i < 6) : ifElse (chainS i) = [chainS (i + 1)] := by
  match i, hi with
  | 0, _ => rfl
  | 1, _ => rfl
  | 2, _ => rfl
  | 3, _ => rfl
  | 4, _ => rfl
  | 5, _ => rfl
theorem kind_go {Q : Flow → Shared → Prop} {k : Int} {tk : Tok} {news : List (Addr × Obj)} (CC : CL w mean mg mb A₀ outer h₀) (F : Fr h₀ L s.heap m) (N : News h₀ L s.heap news)
   (lk : m (Str.ofString "kind") = some (.int k tk)) (hk : k < 8)
   (h : ∀ c : Nat, k = (c : Int) → c < 8 → ∀ tk', wpAny (model pwS w) (ktrTop dp un gd lawNm lawSc L 626 (.ref 625) (lawCl c1 c2 c3 c4 c5) outer) (execs (brS c) (envX lawNm lawSc L 626 (.ref 625) (lawCl c1 c2 c3 c4 c5))) Q E { s with toks := tk' }) :
   ∀ (j i : Nat), i + j = 6 → (i : Int) ≤ k → ∀ tk', wpAny (model pwS w) (ktrTop dp un gd lawNm lawSc L 626 (.ref 625) (lawCl c1 c2 c3 c4 c5) outer) (exec (chainS i) (envX lawNm lawSc L 626 (.ref 625) (lawCl c1 c2 c3 c4 c5))) Q E { s with toks := tk' } := by
  intro j
  induction j with
  | zero =>
    intro i hi hik tk'
    obtain ⟨p1, p2, p3, p4, kk, e⟩ := kind_chain i (by omega)
    rw [e]
    have i6 : i = 6 := by omega
    refine if_kind (s := { s with toks := tk' }) CC F N lk (fun hk1 tk2 => ?_) (fun hk1 tk2 => ?_)
    · have := h i hk1 (by omega) tk2
      rwa [brS, if_neg (by omega)] at this
    · have := h 7 (by omega) (by omega) tk2
      rw [brS, if_pos rfl] at this
      rw [i6]; exact this
  | succ j ih =>
    intro i hi hik tk'
    obtain ⟨p1, p2, p3, p4, kk, e⟩ := kind_chain i (by omega)
    rw [e]
    refine if_kind (s := { s with toks := tk' }) CC F N lk (fun hk1 tk2 => ?_) (fun hk1 tk2 => ?_)
    · have := h i hk1 (by omega) tk2
      rwa [brS, if_neg (by omega)] at this
    · rw [kind_else i (by omega)]
      refine wpAny_execs_cons (wpAny_mono (ih (i + 1) (by omega) (by omega) tk2) (fun f s' hq => ?_) fun _ _ e => e)
      cases f with
      | next => exact wpAny_execs_nil hq
      | _ => exact hq
end
end

section
open PySem PySem.W PyProof.Rows PySem.Calls PyProof.Rows.LCg
/-- these values are tuples of these pairs, on this ledger, at addresses that hold P -/
inductive PairsAre (l : List (Addr × Obj)) (P : Addr → Prop) : List Value → List (Array UInt8 × Array UInt8) → Prop
  | nil : PairsAre l P [] []
  | cons {T : Addr} {b c : Array UInt8} {t t' : Tok} {vs : List Value} {prs : List (Array UInt8 × Array UInt8)} : (T, pO (.bytes b t) (.bytes c t')) ∈ l → P T → PairsAre l P vs prs → PairsAre l P (.ref T :: vs) ((b, c) :: prs)
theorem PairsAre.sub {l l' : List (Addr × Obj)} {P : Addr → Prop} {vs : List Value} {prs : List (Array UInt8 × Array UInt8)} (x : PairsAre l P vs prs) (h : ∀ q ∈ l, q ∈ l') : PairsAre l' P vs prs := by
  induction x with
  | nil => exact .nil
  | cons a b _ ih => exact .cons (h _ a) b ih
theorem PairsAre.imp {l : List (Addr × Obj)} {P P' : Addr → Prop} {vs : List Value} {prs : List (Array UInt8 × Array UInt8)} (x : PairsAre l P vs prs) (h : ∀ T, P T → P' T) : PairsAre l P' vs prs := by
  induction x with
  | nil => exact .nil
  | cons a b _ ih => exact .cons a (h _ b) ih
theorem its_pairs {prs : List (Array UInt8 × Array UInt8)} {vs : List Value} {ow : List (Addr × Obj)} (h : Its ItemP prs vs ow) : PairsAre ow (fun T => ∃ o, (T, o) ∈ ow) vs prs := by
  induction h with
  | nil => exact .nil
  | @cons x v own ow xs vs hi _ ih =>
    obtain ⟨T, t, t', rfl, rfl⟩ := hi
    refine .cons (b := x.1) (c := x.2) (t := t) (t' := t') (by simp) ⟨pO (.bytes x.1 t) (.bytes x.2 t'), by simp⟩ ?_
    exact (ih.sub (l' := ow ++ [(T, pO (.bytes x.1 t) (.bytes x.2 t'))]) (by simp +contextual)).imp fun T ⟨o, ho⟩ => ⟨o, by simp [ho]⟩
theorem pairs_eqs {h₀ h : Heap} {L : Addr} {l ow : List (Addr × Obj)} {vs us : List Value} {prs : List (Array UInt8 × Array UInt8)} (N : News h₀ L h l) (a : PairsAre l (fun T => ∃ o, (T, o) ∈ ow) vs prs) (b : PairsAre l (fun D => ∀ q ∈ ow, q.1 < D) us prs) : EqVs h vs us := by
  induction a generalizing us with
  | nil => cases b; exact .nil
  | cons hT hP _ ih =>
    cases b with
    | cons hD hQ b =>
      obtain ⟨o, ho⟩ := hP
      exact .cons (pair_eqv N hT hD (Nat.ne_of_lt (hQ _ ho))) (ih b)
section
variable {w : World} {mean : ExcName → Option Value} {mg mb : Str → Option Value} {dp un : Nat} {gd : Option (List Code)} {cn : Str} {cs : Scope} {a : Addr} {ccd : Value} {cl : List (Str × Addr)} {outer : List Env} {A₀ : Around} {h₀ : Heap} {L : Addr} {m : Str → Option Value} {s : Shared} {E : Value → Shared → Prop}
  {rest rest' led : List (Addr × Obj)} {S DS BA H DH M Z TI TO : Addr} {p : Int} {t1 t2 t3 : Tok} {d : Array UInt8} {n : Int} {u1 u2 u3 u4 : Tok} {ps : List (Array UInt8)} {TL DL : Addr} {oT oD oX : Obj}
theorem list_zip_2 {A : Around} {prs : List (Array UInt8 × Array UInt8)} (CC : CL w mean mg mb A₀ outer h₀) (C' : HC w rest' S DS BA H DH M d n u1 u2 u3 u4) (D : ZC rest' DS H Z TI TO) (sub : ∀ q ∈ (DL, oD) :: (TL, oT) :: rest, q ∈ rest') (hl : LedZ w rest' DS BA t1 t2 d n ps Z TI TO prs led) (hk : cs.kind = .function) (hA : OkA cn cs L a ccd cl outer 3 A) (F : Fr h₀ L s.heap m)
    {Q : Value → Shared → Prop} (N : News h₀ L s.heap led) (hz : prs.length ≤ 60)
    (h : ∀ S' vs' c p' h' tk' t3' ow, PairsAre ow (fun T => ∃ o, (T, o) ∈ ow) vs' prs → Rem d n p' [] → Fr h₀ L h' m → News h₀ L h' ((S', listOf vs'.toArray c) :: (DL, oD) :: (TL, oT) :: (DS, sD w.params BA p' t1 t2 t3') :: (rest ++ ow)) → Q (.ref S') { s with heap := h', toks := tk' }) :
    wpAny (model pwS w) A (call (.type "list") [.ref Z]) Q E s := by
  refine call_list_itr (extra := []) (zipItr (t1 := t1) (t2 := t2) CC C' D hk) hA.in1.in1 (xs := prs) hl (fun q hq => nomatch hq) (by rw [sizeLine_eq]; omega) F (by simpa using N) fun S' led' vs ow c' h' tk' hi hf hw hSW F' N' hlt => ?_
  obtain ⟨p', t3', more, R', rfl, _⟩ := hf
  refine h S' vs c' p' h' tk' t3' ow (its_pairs hi) R' F' (news_sub N' fun q hq => ?_)
  have := sub q
  simp only [List.mem_append, List.mem_cons, List.not_mem_nil, or_false] at hq this ⊢
  rcases hq with h | h | h | h | h | h
  · exact .inr (.inl (by simpa [loO] using h))
  · exact .inl (.inr (.inl (this (.inl h))))
  · exact .inl (.inr (.inl (this (.inr (.inl h)))))
  · exact .inl (.inl h)
  · exact .inl (.inr (.inl (this (.inr (.inr h)))))
  · exact .inr (.inr h)
end
theorem pairs_len {β : Type} : ∀ (l : List β), (pairs l).length = l.length / 2
  | [] => by simp [pairs]
  | [_] => by simp [pairs]
  | a :: b :: r => by simp only [pairs, List.length_cons, pairs_len r]; omega
theorem pairs_get {β : Type} : ∀ (l : List β) (i : Nat) (h : 2 * i + 1 < l.length), (pairs l)[i]? = some (l[2 * i], l[2 * i + 1])
  | [], _, h => by simp at h
  | [_], _, h => by simp at h
  | a :: b :: r, 0, _ => by simp [pairs]
  | a :: b :: r, i + 1, h => by
    have h' : 2 * i + 1 < r.length := by simp only [List.length_cons] at h; omega
    have := pairs_get r i h'
    simp only [pairs, List.getElem?_cons_succ, this]
    rfl
theorem BytesAre.get {vs : List Value} {ps : List (Array UInt8)} (x : BytesAre vs ps) : ∀ (i : Nat) (h : i < ps.length), ∃ t, vs[i]? = some (.bytes ps[i] t) := by
  induction x with
  | nil => intro i h; simp at h
  | cons t _ ih =>
    intro i h
    cases i with
    | zero => exact ⟨t, rfl⟩
    | succ i => exact ih i (by simpa using h)
theorem BytesAre.len {vs : List Value} {ps : List (Array UInt8)} (x : BytesAre vs ps) : vs.length = ps.length := by
  induction x with
  | nil => rfl
  | cons t _ ih => simp [ih]
/-- the k-th item of the due list: a new tuple of the pieces 2k and 2k + 1 -/
noncomputable def El4 (ps : List (Array UInt8)) (news : List (Addr × Obj)) (i : Nat) (v : Value) (own : List (Addr × Obj)) : Prop :=
  ∃ D b c t t', ps[2 * i]? = some b ∧ ps[2 * i + 1]? = some c ∧ v = .ref D ∧ own = [(D, pO (.bytes b t) (.bytes c t'))] ∧ ∀ q ∈ news, q.1 < D
theorem els_pairs {ps : List (Array UInt8)} {news : List (Addr × Obj)} {k i : Nat} {vs : List Value} {ow : List (Addr × Obj)} (h : Els (El4 ps news) k i vs ow) : i + k = (pairs ps).length → PairsAre ow (fun D => ∀ q ∈ news, q.1 < D) vs ((pairs ps).drop i) := by
  induction h with
  | nil => intro e; rw [List.drop_eq_nil_of_le (by omega)]; exact .nil
  | @cons k i v own ow vs hv h ih =>
    intro e
    obtain ⟨D, b, c, t, t', hb, hc, rfl, rfl, hD⟩ := hv
    have hi : i < (pairs ps).length := by omega
    have h2 := pairs_len ps
    have hg := pairs_get ps i (by omega)
    have e0 : (pairs ps)[i] = (b, c) := by
      rw [List.getElem?_eq_getElem hi] at hg
      rw [List.getElem?_eq_getElem (by omega)] at hb hc
      rw [Option.some.inj hg, Option.some.inj hb, Option.some.inj hc]
    rw [List.drop_eq_getElem_cons hi, e0]
    exact .cons (t := t) (t' := t') (by simp) hD ((ih (by omega)).sub (by simp +contextual))
theorem kind4_fin {w : World} {h₀ h' : Heap} {L S' D DS BA TL DL : Addr} {rest ow ow2 : List (Addr × Obj)} {oT oD : Obj} {t1 t2 t3' tp' tu' : Tok} {d : Array UInt8} {m m' : Str → Option Value} {ps : List (Array UInt8)} {s : Shared} {Q : Flow → Shared → Prop} {n p p' : Int} {vs us : List Value} {c tk' : Nat} {prs : List (Array UInt8 × Array UInt8)}
    (hQ : BrEnd w h₀ L rest DS BA t1 t2 d m ps s Q) (hn : 1 ≤ n) (R : Rem d n p ps) (R' : Rem d n p' []) (hp : PairsAre ow (fun T => ∃ o, (T, o) ∈ ow) vs prs)
    (hp2 : PairsAre ow2 (fun D => ∀ q ∈ (S', listOf vs.toArray c) :: (DL, oD) :: (TL, oT) :: (DS, sD w.params BA p' t1 t2 t3') :: (rest ++ ow), q.1 < D) us prs)
    (F : Fr h₀ L h' m') (N : News h₀ L h' ((D, lst us) :: (ow2 ++ (S', listOf vs.toArray c) :: (DL, oD) :: (TL, oT) :: (DS, sD w.params BA p' t1 t2 t3') :: (rest ++ ow))))
    (a1 : m' (Str.ofString "told") = some (.ref S')) (a2 : m' (Str.ofString "due") = some (.ref D)) (a3 : m' (Str.ofString "used") = some (.int (ps.length : Nat) tu')) (a4 : m' (Str.ofString "place") = some (.int p tp'))
    (a5 : m' (Str.ofString "hand") = m (Str.ofString "hand")) (a6 : m' (Str.ofString "stream") = m (Str.ofString "stream")) : Q .next { s with heap := h', toks := tk' } := by
  refine BrEnd.fin hQ 0 ps.length (by rwa [List.drop_length]) hn R F (news_sub (l' := (DS, sD w.params BA p' t1 t2 t3') :: rest) N fun q hq => ?_) rfl a1 a2 a3 a4 a5 a6 (tv := vs.toArray) (dv := us.toArray) ⟨_, N.get (o := listOf vs.toArray c) (by simp), rfl, _, rfl⟩ ⟨_, N.get (o := lst us) (.head _), rfl, _, rfl⟩ ?_ (Nat.le_refl _) rfl
  · simp only [List.mem_append, List.mem_cons] at hq ⊢
    rcases hq with h | h <;> simp [h]
  · exact pairs_eqs N (hp.sub fun q hq => by simp [hq]) ((hp2.sub fun q hq => by simp [hq]).imp fun D hD q hq => hD q (by simp [hq]))
end

section
open PySem PySem.W PyProof.Rows PySem.Calls PyProof.Rows.LCg PySem.SeqAt
theorem bytes_of_mem {y : Value} {vs : List Value} {ps : List (Array UInt8)} (hv : BytesAre vs ps) (h : y ∈ vs) : ∃ b t, y = .bytes b t := by
  induction hv with
  | nil => simp at h
  | cons t _ ih =>
    rcases List.mem_cons.mp h with rfl | h
    · exact ⟨_, _, rfl⟩
    · exact ih h
theorem usedIn_not {x : Array UInt8} : ∀ {ps : List (Array UInt8)}, ¬ x ∈ ps → usedIn x ps = ps.length := by
  intro ps
  induction ps with
  | nil => intro _; rfl
  | cons b r ih =>
    intro h
    rw [List.mem_cons, not_or] at h
    simp only [usedIn, if_neg (Ne.symm h.1), ih h.2, List.length_cons]
theorem usedIn_pos {x : Array UInt8} : ∀ {ps : List (Array UInt8)}, x ∈ ps → 1 ≤ usedIn x ps ∧ usedIn x ps ≤ ps.length ∧ ps[usedIn x ps - 1]? = some x ∧ ∀ i, i < usedIn x ps - 1 → ∀ b, ps[i]? = some b → b ≠ x := by
  intro ps
  induction ps with
  | nil => intro h; cases h
  | cons b r ih =>
    intro h
    by_cases hb : b = x
    · simp only [usedIn, if_pos hb]
      refine ⟨Nat.le_refl _, by simp, by simp [hb], fun i hi => by omega⟩
    · simp only [usedIn, if_neg hb]
      have hr : x ∈ r := by
        rcases List.mem_cons.mp h with e | h
        · exact absurd e.symm hb
        · exact h
      obtain ⟨h1, h2, h3, h4⟩ := ih hr
      refine ⟨by omega, by simp only [List.length_cons]; omega, ?_, fun i hi b' e => ?_⟩
      · rw [show usedIn x r + 1 - 1 = (usedIn x r - 1) + 1 by omega]
        simpa using h3
      · cases i with
        | zero => simp only [List.getElem?_cons_zero, Option.some.injEq] at e; rw [← e]; exact hb
        | succ i => exact h4 i (by omega) b' (by simpa using e)
section
variable {w : World} {mean : ExcName → Option Value} {mg mb : Str → Option Value} {dp un : Nat} {gd : Option (List Code)} {cn : Str} {cs : Scope} {a : Addr} {ccd : Value} {cl : List (Str × Addr)} {outer : List Env} {A₀ : Around} {h₀ : Heap} {L : Addr} {m : Str → Option Value} {s : Shared} {E : Value → Shared → Prop}
  {rest : List (Addr × Obj)} {S DS BA H DH M : Addr} {p : Int} {t1 t2 t3 : Tok} {d : Array UInt8} {n : Int} {u1 u2 u3 u4 : Tok} {ps : List (Array UInt8)} {TL DL : Addr} {oT oD : Obj}
theorem in_hand_2 {A : Around} {x : Array UInt8} {t : Tok} (CC : CL w mean mg mb A₀ outer h₀) (C : HC w rest S DS BA H DH M d n u1 u2 u3 u4) (hk : cs.kind = .function) (hA : OkA cn cs L a ccd cl outer 1 A) (F : Fr h₀ L s.heap m)
    {Q : Value → Shared → Prop} (N : News h₀ L s.heap ((DL, oD) :: (TL, oT) :: (DS, sD w.params BA p t1 t2 t3) :: rest)) (R : Rem d n p ps) (hD : DS < DL) (hT : DS < TL)
    (h : ∀ p' h' tk' t3', Rem d n p' (ps.drop (usedIn x ps)) → Fr h₀ L h' m → News h₀ L h' ((DL, oD) :: (TL, oT) :: (DS, sD w.params BA p' t1 t2 t3') :: rest) → Q (.bool (decide (x ∈ ps))) { s with heap := h', toks := tk' }) :
    wpAny (model pwS w) A (compareOp .In (.bytes x t) (.ref H)) Q E s := by
  refine in_hand (t1 := t1) (t2 := t2) CC (hc2 (oD := oD) (oT := oT) C hD hT) hk hA (ps := ps) ⟨p, t3, R, rfl⟩ F (perm2' N) fun led' h' tk' hl F' N' => ?_
  obtain ⟨p', t3', R', rfl⟩ := hl
  exact h p' h' tk' t3' R' F' (perm2 N')
theorem in_lo {prog : Program} {A : Around} {l : Addr} {vs : List Value} {x : Array UInt8} {t : Tok} {Q : Value → Shared → Prop} (hl : s.heap.IsList l vs.toArray) (hv : BytesAre vs ps) (h : Q (.bool (decide (x ∈ ps))) s) :
    wpAny (model prog w) A (compareOp .In (.bytes x t) (.ref l)) Q E s := by
  refine in_listAt (fun y => match y with | .bytes b _ => decide (b = x) | _ => false) hl (fun y hy => ?_) ?_
  · have : ∃ b t, y = .bytes b t := by
      have hy' : y ∈ vs := by simpa using hy
      clear hl h hy
      induction hv with
      | nil => simp at hy'
      | cons t _ ih =>
        rcases List.mem_cons.mp hy' with rfl | hy'
        · exact ⟨_, _, rfl⟩
        · exact ih hy'
    obtain ⟨b, t', rfl⟩ := this
    exact eqAt_bytes b x t' t
  · have e : (vs.toArray.any fun y => match y with | .bytes b _ => decide (b = x) | _ => false) = decide (x ∈ ps) := by
      rw [List.any_toArray]
      clear hl h
      induction hv with
      | nil => simp
      | @cons b vs ps t _ ih => rw [List.any_cons, ih]; simp [eq_comm, Bool.decide_or]
    rw [e]; exact h
theorem index_lo {prog : Program} {A : Around} {l : Addr} {vs : List Value} {x : Array UInt8} {t : Tok} {k0 : Nat} {Q : Value → Shared → Prop} (hg : s.heap.get? l = some (listOf vs.toArray k0)) (hv : BytesAre vs ps) (hx : x ∈ ps) (hps : ps.length ≤ 60)
    (h : ∀ t' k, Q (.int ((usedIn x ps - 1 : Nat) : Int) t') { s with toks := k }) : wpAny (model prog w) A (call (.builtin "list.index") [.ref l, .bytes x t]) Q E s := by
  obtain ⟨h1, h2, h3, h4⟩ := usedIn_pos hx
  have hvl := hv.len
  have hj : usedIn x ps - 1 < vs.toArray.size := by simp; omega
  refine call_meets PySem.F.slot_list_index ⟨_, hg, rfl⟩ PySem.F.entry_list_index (PySem.F.args_list_index_2 _ _) (list_indexAt l vs.toArray k0 none #[] (.bytes x t) (fun y => match y with | .bytes b _ => decide (b = x) | _ => false) (usedIn x ps - 1) hj (by omega) ?_ ?_) ⟨hg, fun y hy => ?_, h _ _⟩
  · obtain ⟨t', e⟩ := hv.get (usedIn x ps - 1) (by omega)
    have e2 : vs.toArray[usedIn x ps - 1] = .bytes ps[usedIn x ps - 1] t' := by
      have := e
      rw [List.getElem?_eq_getElem (by omega)] at this
      simpa using Option.some.inj this
    rw [e2]
    rw [List.getElem?_eq_getElem (by omega)] at h3
    simp [Option.some.inj h3]
  · intro i hi hlt
    have hi' : i < ps.length := by simp at hi; omega
    obtain ⟨t', e⟩ := hv.get i hi'
    have e2 : vs.toArray[i] = .bytes ps[i] t' := by
      have := e
      rw [List.getElem?_eq_getElem (by omega)] at this
      simpa using Option.some.inj this
    rw [e2]
    simpa using h4 i hlt ps[i] (by rw [List.getElem?_eq_getElem hi'])
  · have hy' : y ∈ vs := by simpa using hy
    have := bytes_of_mem hv hy'
    obtain ⟨b, t', rfl⟩ := this
    exact eqAt_bytes b x t' t
end
end

section
open PySem PySem.W PyProof.Rows PySem.Calls PyProof.Rows.LCg
theorem allLt_mem {D : Nat} {l : List (Addr × Obj)} (x : AllLt D l) (q : Addr × Obj) (h : q ∈ l) : @LT.lt Nat _ q.1 D := by
  induction l with
  | nil => cases h
  | cons a l ih =>
    cases h with
    | head => exact x.1
    | tail _ h => exact ih x.2 h
noncomputable def due4 : Stmt := ((brS 4)[1]?).getD (.Pass default)
section
variable {w : World} {mean : ExcName → Option Value} {mg mb : Str → Option Value} {dp un : Nat} {gd : Option (List Code)} {outer : List Env} {A₀ : Around} {h₀ : Heap} {L : Addr} {m : Str → Option Value} {s : Shared} {E : Value → Shared → Prop}
  {c1 c2 c3 c4 c5 LS : Addr} {o5 : Obj} {vs : List Value} {ps : List (Array UInt8)} {news : List (Addr × Obj)}
local macro_rules | `(tactic| walk_at "call builtin:len") => `(tactic| (k_here; (with_reducible show wpAny _ _ (call (Value.builtin _) [Value.ref _]) _ _ _); (refine len_lo (by kmk_list) (by omega) ?_); intro _ _))
local macro_rules | `(tactic| walk_at "subscriptTail Name Name ref int") => `(tactic| (k_here; (with_reducible show wpAny _ _ (subscriptTail _ _ (Value.ref _) (Value.int _ _)) _ _ _); (refine item_listL (by kmk_list) (by omega) (by omega) (by assumption) ?_)))
local macro_rules | `(tactic| walk_at "subscriptTail Name BinOp ref int") => `(tactic| (k_here; (with_reducible show wpAny _ _ (subscriptTail _ _ (Value.ref _) (Value.int _ _)) _ _ _); (refine item_listL (by kmk_list) (by omega) (by omega) (by assumption) ?_)))
set_option maxHeartbeats 1000000 in
theorem due4_spec {Q : Flow → Shared → Prop} (CC : CL w mean mg mb A₀ outer h₀) (hd : dp + 9 < recursionLimit) (hu : un + 80 < cLine) (F : Fr h₀ L s.heap m) (N : News h₀ L s.heap news) (h5 : (c5, o5) ∈ news) (hL : (LS, lst vs) ∈ news) (d5 : o5.data = .cell (some (.ref LS)))
   (hv : BytesAre vs ps) (hps : ps.length ≤ 60)
   (hQ : ∀ D us h' tk' ow, PairsAre ow (fun D => ∀ q ∈ news, q.1 < D) us (pairs ps) → Fr h₀ L h' (fun z => if z = Str.ofString "due" then some (.ref D) else m z) → News h₀ L h' ((D, lst us) :: (ow ++ news)) → Q .next { s with heap := h', toks := tk' }) :
   wpAny (model pwS w) (ktrTop dp un gd lawNm lawSc L 626 (.ref 625) (lawCl c1 c2 c3 c4 c5) outer) (exec due4 (envX lawNm lawSc L 626 (.ref 625) (lawCl c1 c2 c3 c4 c5))) Q E s := by
  obtain ⟨B, X, T⟩ := CC
  have hvl := hv.len
  show wpAny _ _ (exec (.Assign [.Name _ _] (.ListComp _ [⟨.Name _ _, _, [], 0⟩] _ _) _) _) _ _ _
  refine Assign_ListComp_S F rfl (by with_unfolding_all rfl) (by with_unfolding_all rfl) (by decide) (by rfl) (by decide) (by rfl) (by rfl) (by rfl) ?_
  have N1 := news_more (news_more N h5) (.tail _ hL)
  k_steps
  rename_i h₁ tk₁ t₁ u₁ v₁ hr F₁ N₁ _
  have hpl := pairs_len ps
  have hcnt : Builtin.Range.rangeSize 0 ((vs.length : Int) - 1) 2 = (((pairs ps).length : Nat) : Int) := by
    rw [hvl, hpl]
    simp only [Builtin.Range.rangeSize, show (2 : Int) > 0 by decide, if_true]
    by_cases h : (0 : Int) < (ps.length : Int) - 1
    · rw [if_pos h]; omega
    · rw [if_neg h]; omega
  refine ⟨_, _, _, _, _, _, _, (pairs ps).length, _, rfl, rfl, F₁, N₁, hr, ?_, hcnt, by rw [sizeLine_eq]; omega, ?_⟩
  · unfold Builtin.Range.small
    rw [hcnt]
    simp only [Builtin.Range.rangeFitsLong, Bool.and_eq_true, Bool.or_eq_true, decide_eq_true_eq, beq_iff_eq, if_pos (show (2 : Int) > 0 by decide)]
    omega
  · rintro s₂ ⟨g, rfl⟩
    refine comp_rest (own := []) (El4 ps news) _ ?_ (pairs ps).length 0 [] ?_
    · rintro i v I oI C oC D ys m₂ h tk own E' Q' ⟨hi, t, rfl⟩ hC hx F2 N2 hne hret
      have hi2 : 2 * i + 1 < ps.length := by omega
      obtain ⟨ta, ga⟩ := hv.get (2 * i) (by omega)
      obtain ⟨tb, gb⟩ := hv.get (2 * i + 1) hi2
      have ga' : vs[((0 : Int) + (i : Int) * 2).toNat]? = some (.bytes ps[2 * i] ta) := by rw [← ga]; congr 1; omega
      have gb' : vs[((0 : Int) + (i : Int) * 2 + 1).toNat]? = some (.bytes ps[2 * i + 1] tb) := by rw [← gb]; congr 1; omega
      have N3 := news_more (news_more (news_more N2 (x := (c5, o5)) (by simp)) (x := (LS, lst vs)) (by simp)) (x := (C, oC)) (by simp)
      clear hr F₁ N₁ N N2 hQ ga gb
      k_steps
      rename_i D' h5 F4 N4 l1
      have hall : ∀ q ∈ (I, oI) :: (C, oC) :: (D, lst ys) :: (own ++ (LS, lst vs) :: (c5, o5) :: news), q.1 < D' := fun q hq => by
        rcases List.mem_cons.mp hq with rfl | hq
        · exact l1.2.2.2.1
        · rcases List.mem_cons.mp hq with rfl | hq
          · exact l1.1
          · rcases List.mem_cons.mp hq with rfl | hq
            · exact l1.2.2.2.2.2.1
            · exact allLt_mem l1.2.2.2.2.2.2 q hq
      refine hret _ [(D', pO (.bytes ps[2 * i] ta) (.bytes ps[2 * i + 1] tb))] _ _ ⟨D', ps[2 * i], ps[2 * i + 1], ta, tb, by simp, by simp, rfl, rfl, fun q hq => hall q (by simp [hq])⟩ F4 (news_sub N4 fun q hq => ?_) fun q hq p hp => by rw [List.mem_singleton.mp hq]; exact hall p hp
      simp only [List.mem_append, List.mem_cons, List.not_mem_nil, or_false] at hq ⊢
      rcases hq with h | h | h | h | h | h | h | h <;> simp [h, pO]
    · intro us ow hE D h tk F2 N2 o1
      refine hQ D us h tk ow ?_ F2 (news_sub N2 fun q hq => ?_)
      · simpa using els_pairs hE (by omega)
      · simp only [List.mem_append, List.mem_cons, List.nil_append] at hq ⊢
        rcases hq with h | h | h <;> simp [h]
end
end

section
open PySem PySem.W PyProof.Rows PySem.Calls PyProof.Rows.LCg
local macro_rules | `(tactic| walk_at "eval Name") => `(tactic| (k_here; (with_reducible show wpAny _ _ (eval (Expr.Name _ _) (envX _ _ _ _ _ _)) _ _ _); (refine' nameX_L ?F ?v ?_ ?k ?x ?d; (case x => rfl); (case k => rfl); (case d => decide); (case F => k_asm); (case v => first | with_reducible assumption | assumption); k_whole)))
local macro_rules | `(tactic| k_all) => `(tactic| assumption)
local macro_rules | `(tactic| walk_at "subscriptTail Name Slice ref ref") => `(tactic| (k_here; (with_reducible show wpAny _ _ (subscriptTail _ (PySem.Expr.Slice none _ none _) (Value.ref _) (Value.ref _)) _ _ _); k_dflt (refine' kmk_slice_lit ?F ?N ?l ?p ?q (pick_upto ?e) ?_ ?s ?t ?z; (case F => k_asm); (case N => k_asm); (case l => kmk_list); (case p => kmk_part); (case q => kmk_part); (case e => omega); (case s => with_unfolding_all rfl); (case t => kmk_pure); (case z => (rw [sizeLine_eq]; simp only [List.size_toArray]; omega))); intro D' h' F' N' l1; (try k_lt l1)))
local macro_rules | `(tactic| walk_at "call builtin:len") => `(tactic| (k_here; (with_reducible show wpAny _ _ (call (Value.builtin _) [Value.ref _]) _ _ _); (refine len_lo (by kmk_list) (by simp <;> omega) ?_); intro _ _))
local macro_rules | `(tactic| walk_at "truthy ref") => `(tactic| (k_here; (with_reducible show wpAny _ _ (truthy (Value.ref _)) _ _ _); first | (refine truthy_cons (by kmk_list) (by simp <;> omega) ?_; intro _) | (refine truthy_nil (by kmk_list) ?_; intro _) | (refine truthy_lo (by kmk_list) (by simp <;> omega) ?_; intro _)))
local macro_rules | `(tactic| walk_at "call builtin:iter") => `(tactic| (k_here; (with_reducible show wpAny _ _ (call (Value.builtin "iter") [Value.ref _]) _ _ _); (refine iter_hand_2 (by assumption) (by assumption) rfl ⟨_, _, _, rfl, by omega, by omega⟩ (by k_asm) (by k_asm) (by assumption) (by assumption) (by assumption) ?_); intro _ _ F' N'))
local macro_rules | `(tactic| walk_at "call builtin:next") => `(tactic| (k_here; (with_reducible show wpAny _ _ (call (Value.builtin "next") [Value.ref _, _]) _ _ _); first | (refine next_hand_nil (by assumption) (by assumption) rfl ⟨_, _, _, rfl, by omega, by omega⟩ (by k_asm) (by k_asm) (by with_reducible assumption) (by assumption) (by assumption) ?_; intro p' _ _ _ R' F' N') | (refine next_hand_cons (by assumption) (by assumption) rfl ⟨_, _, _, rfl, by omega, by omega⟩ (by k_asm) (by k_asm) (by with_reducible assumption) (by assumption) (by assumption) ?_; intro p' t' _ _ _ R' F' N')))
section
open PySem PySem.W PyProof.Rows PySem.Calls PyProof.Rows.LCg
section
variable {w : World} {mean : ExcName → Option Value} {mg mb : Str → Option Value} {dp un : Nat} {gd : Option (List Code)} {outer : List Env} {A₀ : Around} {h₀ : Heap} {L : Addr} {m : Str → Option Value} {s : Shared} {E : Value → Shared → Prop}
  {c1 c2 c3 c4 c5 : Addr} {o3 o4 o5 : Obj} {d : Array UInt8} {n p : Int} {td tn tp : Tok} {rest : List (Addr × Obj)} {LS TL DL S DS BA H DH M : Addr} {vs : List Value} {ps : List (Array UInt8)} {t1 t2 t3 u1 u2 u3 u4 tk tq tu : Tok}


set_option maxHeartbeats 1000000 in
theorem kind0 {Q : Flow → Shared → Prop} (CC : CL w mean mg mb A₀ outer h₀) (hd : dp + 9 < recursionLimit) (hu : un + 100 < cLine) (C : HC w ((LS, lst vs) :: (c5, o5) :: rest) S DS BA H DH M d n u1 u2 u3 u4) (F : Fr h₀ L s.heap m)
   (N : News h₀ L s.heap ((DL, listOf #[] 0) :: (TL, listOf #[] 0) :: (DS, sD w.params BA p t1 t2 t3) :: (LS, lst vs) :: (c5, o5) :: rest)) (hT : @LT.lt Nat _ DS TL) (hD : @LT.lt Nat _ DS DL) (hTD : @LT.lt Nat _ TL DL) (hLT : @LT.lt Nat _ LS TL) (hLD : @LT.lt Nat _ LS DL) (h5T : @LT.lt Nat _ c5 TL) (h5D : @LT.lt Nat _ c5 DL) (nT : ∀ q ∈ rest, q.1 ≠ TL) (nD : ∀ q ∈ rest, q.1 ≠ DL)
   (R : Rem d n p ps) (hv : BytesAre vs ps) (hps : ps.length ≤ 60) (hvl : vs.length = ps.length) (d5 : o5.data = .cell (some (.ref LS)))
   (lt : m (Str.ofString "told") = some (.ref TL)) (ld : m (Str.ofString "due") = some (.ref DL)) (lu : m (Str.ofString "used") = some (.int (ps.length : Nat) tu)) (lh : m (Str.ofString "hand") = some (.ref H)) (lp : m (Str.ofString "place") = some (.int p tp))
   (hQ : BrEnd w h₀ L ((LS, lst vs) :: (c5, o5) :: rest) DS BA t1 t2 d m ps s Q) :
   wpAny (model pwS w) (ktrTop dp un gd lawNm lawSc L 626 (.ref 625) (lawCl c1 c2 c3 c4 c5) outer) (execs (brS 0) (envX lawNm lawSc L 626 (.ref 625) (lawCl c1 c2 c3 c4 c5))) Q E s := by
  have CC' := CC
  obtain ⟨B, X, T⟩ := CC'
  show wpAny _ _ (execs (_ :: _) _) _ _ _
  have hn := C.h1
  cases hv with
  | nil =>
    k_steps
    all_goals (refine' BrEnd.fin hQ 4 0 ?zR hn R ?zF ?zN ?ze ?za1 ?za2 ?za3 ?za4 ?za5 ?za6 ?zl1 ?zl2 ?zq ?zu ?zw; (case zF => assumption); (case zN => assumption); (case zR => assumption); (case ze => rfl); (case za1 => assumption); (case za2 => rfl); (case za3 => rfl); (case za4 => assumption); (case za5 => rfl); (case za6 => rfl); (case zl1 => kmk_list); (case zl2 => kmk_list); (case zq => exact .cons (.same _) .nil); (case zu => simp); (case zw => rfl))
  | cons t hv =>
    simp only [List.length_cons] at hvl hps lu
    k_steps
    all_goals (refine' BrEnd.fin hQ 3 1 ?zR hn R ?zF ?zN ?ze ?za1 ?za2 ?za3 ?za4 ?za5 ?za6 ?zl1 ?zl2 ?zq ?zu ?zw; (case zF => assumption); (case zN => assumption); (case zR => assumption); (case ze => rfl); (case za1 => assumption); (case za2 => rfl); (case za3 => rfl); (case za4 => assumption); (case za5 => rfl); (case za6 => rfl); (case zl1 => kmk_list); (case zl2 => kmk_list); (case zq => exact .cons (.bytes _ _ _) .nil); (case zu => simp); (case zw => (rw [if_neg (by simp only [List.length_cons]; omega)]; rfl)))
end
end

section
open PySem PySem.W PyProof.Rows PySem.Calls PyProof.Rows.LCg
local macro_rules | `(tactic| walk_at "call type:zip") => `(tactic| (k_here; (with_reducible show wpAny _ _ (call (Value.type "zip") [Value.ref _, Value.ref _]) _ _ _); (refine zip_2 (by assumption) (by assumption) rfl ⟨_, _, _, rfl, by omega, by omega⟩ (by k_asm) (by k_asm) (by assumption) (by assumption) (by assumption) ?_); intro Z' TI' TO' rest' led' h' tk' C' D' sub' hl' F' N'))
section
open PySem PySem.W PyProof.Rows PySem.Calls PyProof.Rows.LCg
section
variable {w : World} {mean : ExcName → Option Value} {mg mb : Str → Option Value} {dp un : Nat} {gd : Option (List Code)} {outer : List Env} {A₀ : Around} {h₀ : Heap} {L : Addr} {m : Str → Option Value} {s : Shared} {E : Value → Shared → Prop}
  {c1 c2 c3 c4 c5 : Addr} {o3 o4 o5 : Obj} {d : Array UInt8} {n p : Int} {td tn tp : Tok} {rest : List (Addr × Obj)} {LS TL DL S DS BA H DH M : Addr} {vs : List Value} {ps : List (Array UInt8)} {t1 t2 t3 u1 u2 u3 u4 tk tq tu : Tok}

local macro_rules | `(tactic| walk_at "call builtin:next") => `(tactic| (k_here; (with_reducible show wpAny _ _ (call (Value.builtin "next") [Value.ref _, _]) _ _ _); first
  | (refine next_zip_cons (by assumption) (by assumption) (by assumption) (by assumption) (by with_reducible assumption) rfl ⟨_, _, _, rfl, by omega, by omega⟩ (by k_asm) (by k_asm) rfl rfl ?_; intro T' t' t2' p' h' tk' t3' R' F' N' nT1 nT2 nT3)
  | (refine next_zip_nil (by assumption) (by assumption) (by assumption) (by assumption) (by assumption) rfl ⟨_, _, _, rfl, by omega, by omega⟩ (by k_asm) (by k_asm) ?_; intro p' h' tk' t3' R' F' N')))
local macro_rules | `(tactic| walk_at "subscriptTail Name Constant ref int") => `(tactic| (k_here; (with_reducible show wpAny _ _ (subscriptTail _ _ (Value.ref _) (Value.int _ _)) _ _ _); (refine item_listL (by kmk_list) (by omega) (by omega) (by rfl) ?_)))

set_option maxHeartbeats 1000000 in
theorem kind3 {Q : Flow → Shared → Prop} (CC : CL w mean mg mb A₀ outer h₀) (hd : dp + 9 < recursionLimit) (hu : un + 100 < cLine) (C : HC w ((LS, lst vs) :: (c5, o5) :: rest) S DS BA H DH M d n u1 u2 u3 u4) (F : Fr h₀ L s.heap m)
   (N : News h₀ L s.heap ((DL, listOf #[] 0) :: (TL, listOf #[] 0) :: (DS, sD w.params BA p t1 t2 t3) :: (LS, lst vs) :: (c5, o5) :: rest)) (hT : @LT.lt Nat _ DS TL) (hD : @LT.lt Nat _ DS DL) (hTD : @LT.lt Nat _ TL DL) (hLT : @LT.lt Nat _ LS TL) (hLD : @LT.lt Nat _ LS DL) (h5T : @LT.lt Nat _ c5 TL) (h5D : @LT.lt Nat _ c5 DL) (nT : ∀ q ∈ rest, q.1 ≠ TL) (nD : ∀ q ∈ rest, q.1 ≠ DL)
   (R : Rem d n p ps) (hv : BytesAre vs ps) (hps : ps.length ≤ 60) (hvl : vs.length = ps.length) (d5 : o5.data = .cell (some (.ref LS)))
   (lt : m (Str.ofString "told") = some (.ref TL)) (ld : m (Str.ofString "due") = some (.ref DL)) (lu : m (Str.ofString "used") = some (.int (ps.length : Nat) tu)) (lh : m (Str.ofString "hand") = some (.ref H)) (lp : m (Str.ofString "place") = some (.int p tp))
   (hQ : BrEnd w h₀ L ((LS, lst vs) :: (c5, o5) :: rest) DS BA t1 t2 d m ps s Q) :
   wpAny (model pwS w) (ktrTop dp un gd lawNm lawSc L 626 (.ref 625) (lawCl c1 c2 c3 c4 c5) outer) (execs (brS 3) (envX lawNm lawSc L 626 (.ref 625) (lawCl c1 c2 c3 c4 c5))) Q E s := by
  have CC' := CC
  obtain ⟨B, X, T⟩ := CC'
  show wpAny _ _ (execs (_ :: _) _) _ _ _
  have hn := C.h1
  cases hv with
  | nil =>
    k_steps
    all_goals (refine' BrEnd.fin hQ 2 0 ?zR hn R ?zF ?zN ?ze ?za1 ?za2 ?za3 ?za4 ?za5 ?za6 ?zl1 ?zl2 ?zq ?zu ?zw; (case zF => assumption); (case zN => assumption); (case ze => rfl); (case zR => first | assumption | (simpa using (by assumption))); (case za1 => first | assumption | rfl); (case za2 => first | assumption | rfl); (case za3 => first | assumption | rfl); (case za4 => assumption); (case za5 => rfl); (case za6 => rfl); (case zl1 => kmk_list); (case zl2 => kmk_list); (case zq => exact .cons (.same _) .nil); (case zu => simp); (case zw => rfl))
  | cons t hv =>
    simp only [List.length_cons] at hvl hps lu
    cases hv with
    | nil =>
      k_steps
      all_goals (refine' BrEnd.fin hQ 2 1 ?zR hn R ?zF ?zN ?ze ?za1 ?za2 ?za3 ?za4 ?za5 ?za6 ?zl1 ?zl2 ?zq ?zu ?zw; (case zF => assumption); (case zN => assumption); (case ze => rfl); (case zR => first | assumption | (simpa using (by assumption))); (case za1 => first | assumption | rfl); (case za2 => first | assumption | rfl); (case za3 => first | assumption | rfl); (case za4 => assumption); (case za5 => rfl); (case za6 => rfl); (case zl1 => kmk_list); (case zl2 => kmk_list); (case zq => exact .cons (.same _) .nil); (case zu => simp); (case zw => rfl))
    | cons t' hv =>
      simp only [List.length_cons] at hvl hps lu
      k_steps
      all_goals first
        | ((refine' BrEnd.fin hQ 4 2 ?zR hn R ?zF ?zN ?ze ?za1 ?za2 ?za3 ?za4 ?za5 ?za6 ?zl1 ?zl2 ?zq ?zu ?zw; (case zF => assumption); (case zN => assumption); (case ze => rfl); (case zR => first | assumption | (simpa using (by assumption))); (case za1 => first | assumption | rfl); (case za2 => first | assumption | rfl); (case za3 => first | assumption | rfl); (case za4 => assumption); (case za5 => rfl); (case za6 => rfl); (case zl1 => kmk_list); (case zl2 => kmk_list); (case zq => exact .cons (pair_eqv (by assumption) (.tail _ (.head _)) (.head _) (by k_ne)) .nil); (case zu => simp); (case zw => (rw [if_neg (by simp only [List.length_cons]; omega)]; rfl))))
        | (exfalso; simp only [List.length_cons] at *; omega)
        | (exfalso; simp_all; done)
end
end

section
open PySem PySem.W PyProof.Rows PySem.Calls PyProof.Rows.LCg
section
variable {w : World} {mean : ExcName → Option Value} {mg mb : Str → Option Value} {dp un : Nat} {gd : Option (List Code)} {outer : List Env} {A₀ : Around} {h₀ : Heap} {L : Addr} {m : Str → Option Value} {s : Shared} {E : Value → Shared → Prop}
  {c1 c2 c3 c4 c5 : Addr} {o3 o4 o5 : Obj} {d : Array UInt8} {n p : Int} {td tn tp : Tok} {rest : List (Addr × Obj)} {LS TL DL S DS BA H DH M : Addr} {vs : List Value} {ps : List (Array UInt8)} {t1 t2 t3 u1 u2 u3 u4 tk tq tu : Tok}

local macro_rules | `(tactic| walk_at "call type:list") => `(tactic| (k_here; (with_reducible show wpAny _ _ (call (Value.type "list") [Value.ref _]) _ _ _); (refine list_zip_2 (by assumption) (by assumption) (by assumption) (by assumption) (by assumption) rfl ⟨_, _, _, rfl, by omega, by omega⟩ (by k_asm) (by k_asm) (by omega) ?_); intro S' vs' c' p' h' tk' t3' ow' hp' R' F' N'))
local macro_rules | `(tactic| walk_at "exec Assign cons ListComp") => `(tactic| (k_here; k_dflt (refine' due4_spec ?zC ?zd ?zu ?zF ?zN ?z5 ?zL ?zd5 ?zv ?zp ?_; (case zC => assumption); (case zd => omega); (case zu => omega); (case zF => k_asm); (case zN => k_asm); (case zd5 => assumption); (case zv => assumption); (case z5 => simp); (case zL => simp); (case zp => assumption)); intro D' us' h' tk' ow2 hp2 F' N'))

set_option maxHeartbeats 1000000 in
theorem kind4 {Q : Flow → Shared → Prop} (CC : CL w mean mg mb A₀ outer h₀) (hd : dp + 9 < recursionLimit) (hu : un + 100 < cLine) (C : HC w ((LS, lst vs) :: (c5, o5) :: rest) S DS BA H DH M d n u1 u2 u3 u4) (F : Fr h₀ L s.heap m)
   (N : News h₀ L s.heap ((DL, listOf #[] 0) :: (TL, listOf #[] 0) :: (DS, sD w.params BA p t1 t2 t3) :: (LS, lst vs) :: (c5, o5) :: rest)) (hT : @LT.lt Nat _ DS TL) (hD : @LT.lt Nat _ DS DL) (hTD : @LT.lt Nat _ TL DL) (hLT : @LT.lt Nat _ LS TL) (hLD : @LT.lt Nat _ LS DL) (h5T : @LT.lt Nat _ c5 TL) (h5D : @LT.lt Nat _ c5 DL) (nT : ∀ q ∈ rest, q.1 ≠ TL) (nD : ∀ q ∈ rest, q.1 ≠ DL)
   (R : Rem d n p ps) (hv : BytesAre vs ps) (hps : ps.length ≤ 60) (hvl : vs.length = ps.length) (d5 : o5.data = .cell (some (.ref LS)))
   (lt : m (Str.ofString "told") = some (.ref TL)) (ld : m (Str.ofString "due") = some (.ref DL)) (lu : m (Str.ofString "used") = some (.int (ps.length : Nat) tu)) (lh : m (Str.ofString "hand") = some (.ref H)) (lp : m (Str.ofString "place") = some (.int p tp))
   (hQ : BrEnd w h₀ L ((LS, lst vs) :: (c5, o5) :: rest) DS BA t1 t2 d m ps s Q) :
   wpAny (model pwS w) (ktrTop dp un gd lawNm lawSc L 626 (.ref 625) (lawCl c1 c2 c3 c4 c5) outer) (execs (brS 4) (envX lawNm lawSc L 626 (.ref 625) (lawCl c1 c2 c3 c4 c5))) Q E s := by
  have CC' := CC
  obtain ⟨B, X, T⟩ := CC'
  show wpAny _ _ (execs (_ :: _) _) _ _ _
  have hn := C.h1
  have hpl := pairs_len ps
  k_steps
  all_goals (refine' kind4_fin hQ hn R ?zR ?zp ?zq ?zF ?zN ?za1 ?za2 ?za3 ?za4 ?za5 ?za6; (case zF => assumption); (case zN => assumption); (case zR => assumption); (case zp => assumption); (case zq => assumption); (case za1 => rfl); (case za2 => rfl); (case za3 => assumption); (case za4 => assumption); (case za5 => rfl); (case za6 => rfl))
end
end
end

section
open PySem PySem.W PyProof.Rows PySem.Calls PyProof.Rows.LCg
section
variable {w : World} {mean : ExcName → Option Value} {mg mb : Str → Option Value} {dp un : Nat} {gd : Option (List Code)} {outer : List Env} {A₀ : Around} {h₀ : Heap} {L : Addr} {m : Str → Option Value} {s : Shared} {E : Value → Shared → Prop}
  {c1 c2 c3 c4 c5 : Addr} {o3 o4 o5 : Obj} {d : Array UInt8} {n p : Int} {td tn tp : Tok} {rest : List (Addr × Obj)} {LS TL DL S DS BA H DH M : Addr} {vs : List Value} {ps : List (Array UInt8)} {t1 t2 t3 u1 u2 u3 u4 tk tq tu : Tok}

local macro_rules | `(tactic| walk_at "call type:list") => `(tactic| (k_here; (with_reducible show wpAny _ _ (call (Value.type "list") [Value.ref _]) _ _ _); (refine list_hand_2 (by assumption) (by assumption) rfl ⟨_, _, _, rfl, by omega, by omega⟩ (by k_asm) (by k_asm) (by assumption) (by assumption) (by assumption) (by assumption) ?_); intro S' vs' c' p' h' tk' t3' hb' R' F' N' ne'))

set_option maxHeartbeats 1000000 in
theorem kind6 {Q : Flow → Shared → Prop} (CC : CL w mean mg mb A₀ outer h₀) (hd : dp + 9 < recursionLimit) (hu : un + 100 < cLine) (C : HC w ((LS, lst vs) :: (c5, o5) :: rest) S DS BA H DH M d n u1 u2 u3 u4) (F : Fr h₀ L s.heap m)
   (N : News h₀ L s.heap ((DL, listOf #[] 0) :: (TL, listOf #[] 0) :: (DS, sD w.params BA p t1 t2 t3) :: (LS, lst vs) :: (c5, o5) :: rest)) (hT : @LT.lt Nat _ DS TL) (hD : @LT.lt Nat _ DS DL) (hTD : @LT.lt Nat _ TL DL) (hLT : @LT.lt Nat _ LS TL) (hLD : @LT.lt Nat _ LS DL) (h5T : @LT.lt Nat _ c5 TL) (h5D : @LT.lt Nat _ c5 DL) (nT : ∀ q ∈ rest, q.1 ≠ TL) (nD : ∀ q ∈ rest, q.1 ≠ DL)
   (R : Rem d n p ps) (hv : BytesAre vs ps) (hps : ps.length ≤ 60) (hvl : vs.length = ps.length) (d5 : o5.data = .cell (some (.ref LS)))
   (lt : m (Str.ofString "told") = some (.ref TL)) (ld : m (Str.ofString "due") = some (.ref DL)) (lu : m (Str.ofString "used") = some (.int (ps.length : Nat) tu)) (lh : m (Str.ofString "hand") = some (.ref H)) (lp : m (Str.ofString "place") = some (.int p tp))
   (hQ : BrEnd w h₀ L ((LS, lst vs) :: (c5, o5) :: rest) DS BA t1 t2 d m ps s Q) :
   wpAny (model pwS w) (ktrTop dp un gd lawNm lawSc L 626 (.ref 625) (lawCl c1 c2 c3 c4 c5) outer) (execs (brS 6) (envX lawNm lawSc L 626 (.ref 625) (lawCl c1 c2 c3 c4 c5))) Q E s := by
  have CC' := CC
  obtain ⟨B, X, T⟩ := CC'
  show wpAny _ _ (execs (_ :: _) _) _ _ _
  have hn := C.h1
  k_steps
  all_goals (refine' BrEnd.fin hQ 3 ps.length ?zR hn R ?zF ?zN ?ze ?za1 ?za2 ?za3 ?za4 ?za5 ?za6 ?zl1 ?zl2 ?zq ?zu ?zw; (case zF => assumption); (case zN => assumption); (case ze => rfl); (case zR => (rw [List.drop_length]; assumption)); (case za1 => first | assumption | rfl); (case za2 => first | assumption | rfl); (case za3 => first | assumption | rfl); (case za4 => assumption); (case za5 => rfl); (case za6 => rfl); (case zl1 => kmk_list); (case zl2 => kmk_list); (case zq => (simp only [List.toList_toArray]; exact bytes_eqs (by assumption) (by assumption))); (case zu => exact Nat.le_refl _); (case zw => rfl))
end
end

section
open PySem PySem.W PyProof.Rows PySem.Calls PyProof.Rows.LCg
section
variable {w : World} {mean : ExcName → Option Value} {mg mb : Str → Option Value} {dp un : Nat} {gd : Option (List Code)} {outer : List Env} {A₀ : Around} {h₀ : Heap} {L : Addr} {m : Str → Option Value} {s : Shared} {E : Value → Shared → Prop}
  {c1 c2 c3 c4 c5 : Addr} {o3 o4 o5 : Obj} {d : Array UInt8} {n p : Int} {td tn tp : Tok} {rest : List (Addr × Obj)} {LS TL DL S DS BA H DH M : Addr} {vs : List Value} {ps : List (Array UInt8)} {t1 t2 t3 u1 u2 u3 u4 tk tq tu : Tok}

local macro_rules | `(tactic| walk_at "call ref") => `(tactic| (k_here; (refine seek_4 (by assumption) (by assumption) rfl (by omega) (by omega) (by k_asm) (by k_asm) (by omega) (by omega) (by assumption) (by assumption) (by assumption) (by assumption) ?_); intro t' h' tk' t3' F' N'))

set_option maxHeartbeats 1000000 in
theorem kind7 {Q : Flow → Shared → Prop} (CC : CL w mean mg mb A₀ outer h₀) (hd : dp + 9 < recursionLimit) (hu : un + 100 < cLine) (C : HC w ((LS, lst vs) :: (c5, o5) :: rest) S DS BA H DH M d n u1 u2 u3 u4) (F : Fr h₀ L s.heap m)
   (N : News h₀ L s.heap ((DL, listOf #[] 0) :: (TL, listOf #[] 0) :: (DS, sD w.params BA p t1 t2 t3) :: (LS, lst vs) :: (c5, o5) :: rest)) (hT : @LT.lt Nat _ DS TL) (hD : @LT.lt Nat _ DS DL) (hTD : @LT.lt Nat _ TL DL) (hLT : @LT.lt Nat _ LS TL) (hLD : @LT.lt Nat _ LS DL) (h5T : @LT.lt Nat _ c5 TL) (h5D : @LT.lt Nat _ c5 DL) (nT : ∀ q ∈ rest, q.1 ≠ TL) (nD : ∀ q ∈ rest, q.1 ≠ DL)
   (R : Rem d n p ps) (hv : BytesAre vs ps) (hps : ps.length ≤ 60) (hvl : vs.length = ps.length) (d5 : o5.data = .cell (some (.ref LS)))
   (lt : m (Str.ofString "told") = some (.ref TL)) (ld : m (Str.ofString "due") = some (.ref DL)) (lu : m (Str.ofString "used") = some (.int (ps.length : Nat) tu)) (lh : m (Str.ofString "hand") = some (.ref H)) (lp : m (Str.ofString "place") = some (.int p tp)) {q : Int} (lq : m (Str.ofString "q") = some (.int q tq)) (ls : m (Str.ofString "stream") = some (.ref S)) (h3 : (c3, o3) ∈ (LS, lst vs) :: (c5, o5) :: rest) (d3 : o3.data = .cell (some (.bytes d td))) (hsz : d.size ≤ 60)
   (hQ : BrEnd w h₀ L ((LS, lst vs) :: (c5, o5) :: rest) DS BA t1 t2 d m ps s Q) :
   wpAny (model pwS w) (ktrTop dp un gd lawNm lawSc L 626 (.ref 625) (lawCl c1 c2 c3 c4 c5) outer) (execs (brS 7) (envX lawNm lawSc L 626 (.ref 625) (lawCl c1 c2 c3 c4 c5))) Q E s := by
  have CC' := CC
  obtain ⟨B, X, T⟩ := CC'
  have hf0 : 0 ≤ q.fmod (↑d.size + 1) := fmod_lo q (by omega)
  have hf1 : q.fmod (↑d.size + 1) < ↑d.size + 1 := fmod_hi q (by omega)
  have hS3 := C.hS
  have eS := C.hne _ hS3
  have e3 := C.hne _ h3
  replace N := news_more (news_more N (.tail _ (.tail _ (.tail _ h3)))) (.tail _ (.tail _ (.tail _ (.tail _ hS3))))
  show wpAny _ _ (execs (_ :: _) _) _ _ _
  have hn := C.h1
  k_steps
  all_goals (refine' BrEnd.fin0 hQ 4 ?zb0 ?zb1 ?zF ?zN ?ze ?za1 ?za2 ?za3 ?za4 ?za5 ?za6 ?zl1 ?zl2 ?zq; (case zF => assumption); (case zN => assumption); (case ze => rfl); (case zb0 => omega); (case zb1 => omega); (case za1 => assumption); (case za2 => assumption); (case za3 => rfl); (case za4 => rfl); (case za5 => rfl); (case za6 => rfl); (case zl1 => kmk_list); (case zl2 => kmk_list); (case zq => exact .nil))
end
end

section
open PySem PySem.W PyProof.Rows PySem.Calls PyProof.Rows.LCg
section
variable {w : World} {mean : ExcName → Option Value} {mg mb : Str → Option Value} {dp un : Nat} {gd : Option (List Code)} {outer : List Env} {A₀ : Around} {h₀ : Heap} {L : Addr} {m : Str → Option Value} {s : Shared} {E : Value → Shared → Prop}
  {c1 c2 c3 c4 c5 : Addr} {o3 o4 o5 : Obj} {d : Array UInt8} {n p : Int} {td tn tp : Tok} {rest : List (Addr × Obj)} {LS TL DL S DS BA H DH M : Addr} {vs : List Value} {ps : List (Array UInt8)} {t1 t2 t3 u1 u2 u3 u4 tk tq tu : Tok}

local macro_rules | `(tactic| walk_at "subscriptTail") => `(tactic| (k_here; (with_reducible show wpAny _ _ (subscriptTail _ (Expr.Slice _ _ none _) (Value.bytes _ _) (Value.ref _)) _ _ _); (with_reducible rename Fr _ _ _ _ => F'); (with_reducible rename News _ _ _ _ => N'); (refine by_slice (s := ⟨_, _, _, _, _⟩) F' N' (by omega) (by omega) (by omega) (by omega) ?_); intro _ _ _ _ _))
local macro_rules | `(tactic| walk_at "compareOp In bytes ref") => `(tactic| (k_here; first | (refine in_hand_2 (by assumption) (by assumption) rfl ⟨_, _, _, rfl, by omega, by omega⟩ (by k_asm) (by k_asm) (by assumption) (by assumption) (by assumption) ?_; intro p' h' tk' t3' R' F' N') | (refine in_lo (by kmk_list) (by assumption) ?_)))
local macro_rules | `(tactic| walk_at "getMethod ref") => `(tactic| (k_here; (with_reducible show wpAny _ _ (getMethod (Value.ref _) (PySem.Str.ofString "index") _) _ _ _); k_dflt (refine' listMethod_K ?N ?m PySem.F.slot_list_index PySem.F.type_list_index ?_; (case N => k_asm); (case m => k_mem))))
local macro_rules | `(tactic| walk_at "call builtin:list.index") => `(tactic| (k_here; (refine index_lo (News.get (by k_asm) (by k_mem)) (by assumption) (by first | assumption | simp_all) (by assumption) ?_); intro _ _))

set_option maxHeartbeats 1000000 in
theorem kind2 {Q : Flow → Shared → Prop} (CC : CL w mean mg mb A₀ outer h₀) (hd : dp + 9 < recursionLimit) (hu : un + 100 < cLine) (C : HC w ((LS, lst vs) :: (c5, o5) :: (c3, o3) :: (c4, o4) :: rest) S DS BA H DH M d n u1 u2 u3 u4) (F : Fr h₀ L s.heap m)
   (N : News h₀ L s.heap ((DL, listOf #[] 0) :: (TL, listOf #[] 0) :: (DS, sD w.params BA p t1 t2 t3) :: (LS, lst vs) :: (c5, o5) :: (c3, o3) :: (c4, o4) :: rest)) (hT : @LT.lt Nat _ DS TL) (hD : @LT.lt Nat _ DS DL) (hTD : @LT.lt Nat _ TL DL) (hLT : @LT.lt Nat _ LS TL) (hLD : @LT.lt Nat _ LS DL) (h5T : @LT.lt Nat _ c5 TL) (h5D : @LT.lt Nat _ c5 DL) (nT : ∀ q ∈ rest, q.1 ≠ TL) (nD : ∀ q ∈ rest, q.1 ≠ DL)
   (R : Rem d n p ps) (hv : BytesAre vs ps) (hps : ps.length ≤ 60) (hvl : vs.length = ps.length) (d5 : o5.data = .cell (some (.ref LS)))
   (lt : m (Str.ofString "told") = some (.ref TL)) (ld : m (Str.ofString "due") = some (.ref DL)) (lu : m (Str.ofString "used") = some (.int (ps.length : Nat) tu)) (lh : m (Str.ofString "hand") = some (.ref H)) (lp : m (Str.ofString "place") = some (.int p tp)) {q : Int} (lq : m (Str.ofString "q") = some (.int q tq)) (h3T : @LT.lt Nat _ c3 TL) (h3D : @LT.lt Nat _ c3 DL) (h4T : @LT.lt Nat _ c4 TL) (h4D : @LT.lt Nat _ c4 DL) (d3 : o3.data = .cell (some (.bytes d td))) (d4 : o4.data = .cell (some (.int n tn))) (hsz : d.size ≤ 60) (hsz0 : 0 < d.size)
   (hQ : BrEnd w h₀ L ((LS, lst vs) :: (c5, o5) :: (c3, o3) :: (c4, o4) :: rest) DS BA t1 t2 d m ps s Q) :
   wpAny (model pwS w) (ktrTop dp un gd lawNm lawSc L 626 (.ref 625) (lawCl c1 c2 c3 c4 c5) outer) (execs (brS 2) (envX lawNm lawSc L 626 (.ref 625) (lawCl c1 c2 c3 c4 c5))) Q E s := by
  have CC' := CC
  obtain ⟨B, X, T⟩ := CC'
  have h4s := C.h1
  have hf0 : 0 ≤ q.fmod ↑d.size := fmod_lo q (by omega)
  have hf1 : q.fmod ↑d.size < ↑d.size := fmod_hi q (by omega)
  show wpAny _ _ (execs (_ :: _) _) _ _ _
  have hn := C.h1
  k_steps
  · have hu1 := usedIn_pos (by first | assumption | simp_all : d.extract (q.fmod ↑d.size).toNat (min (q.fmod ↑d.size + n) ↑d.size).toNat ∈ ps)
    (refine' BrEnd.fin hQ 2 (usedIn (d.extract (q.fmod ↑d.size).toNat (min (q.fmod ↑d.size + n) ↑d.size).toNat) ps) ?zR hn R ?zF ?zN ?ze ?za1 ?za2 ?za3 ?za4 ?za5 ?za6 ?zl1 ?zl2 ?zq ?zu ?zw; (case zF => assumption); (case zN => assumption); (case ze => rfl); (case zR => assumption); (case za1 => first | assumption | rfl); (case za2 => first | assumption | rfl); (case za3 => first | assumption | rfl); (case za4 => assumption); (case za5 => rfl); (case za6 => rfl); (case zl1 => kmk_list); (case zl2 => kmk_list); (case zq => exact .cons (.same _) .nil); (case zu => exact hu1.2.1); (case zw => omega))
  · have hu1 := usedIn_not (by first | assumption | simp_all : ¬ d.extract (q.fmod ↑d.size).toNat (min (q.fmod ↑d.size + n) ↑d.size).toNat ∈ ps)
    (refine' BrEnd.fin hQ 2 ps.length ?zR hn R ?zF ?zN ?ze ?za1 ?za2 ?za3 ?za4 ?za5 ?za6 ?zl1 ?zl2 ?zq ?zu ?zw; (case zF => assumption); (case zN => assumption); (case ze => rfl); (case zR => (rw [← hu1]; assumption)); (case za1 => first | assumption | rfl); (case za2 => first | assumption | rfl); (case za3 => first | assumption | rfl); (case za4 => assumption); (case za5 => rfl); (case za6 => rfl); (case zl1 => kmk_list); (case zl2 => kmk_list); (case zq => exact .cons (.same _) .nil); (case zu => exact Nat.le_refl _); (case zw => rfl))
end
end

section
open PySem PySem.W PyProof.Rows PySem.Calls PyProof.Rows.LCg
section
variable {w : World} {mean : ExcName → Option Value} {mg mb : Str → Option Value} {dp un : Nat} {gd : Option (List Code)} {cn : Str} {cs : Scope} {a : Addr} {ccd : Value} {cl : List (Str × Addr)} {outer : List Env} {A₀ : Around} {h₀ : Heap} {L : Addr} {m : Str → Option Value} {s : Shared} {E : Value → Shared → Prop}
  {rest : List (Addr × Obj)} {S DS BA H DH M : Addr} {p : Int} {t1 t2 t3 : Tok} {d : Array UInt8} {n : Int} {u1 u2 u3 u4 : Tok} {ps : List (Array UInt8)} {TL DL : Addr} {oT oD : Obj}
/-- one step of a for over the wrapper, with two objects of the caller's ahead of the ledger -/
theorem pyNext_2 {A : Around} (CC : CL w mean mg mb A₀ outer h₀) (C : HC w rest S DS BA H DH M d n u1 u2 u3 u4) (hk : cs.kind = .function) (hA : OkA cn cs L a ccd cl outer 0 A) (F : Fr h₀ L s.heap m)
    {Q : Option Value → Shared → Prop} (N : News h₀ L s.heap ((DL, oD) :: (TL, oT) :: (DS, sD w.params BA p t1 t2 t3) :: rest)) (R : Rem d n p ps) (hD : DS < DL) (hT : DS < TL)
    (h0 : ps = [] → ∀ p' h' tk' t3', Rem d n p' [] → Fr h₀ L h' m → News h₀ L h' ((DL, oD) :: (TL, oT) :: (DS, sD w.params BA p' t1 t2 t3') :: rest) → Q none { s with heap := h', toks := tk' })
    (h1 : ∀ b qs, ps = b :: qs → ∀ p' t h' tk' t3', Rem d n p' qs → Fr h₀ L h' m → News h₀ L h' ((DL, oD) :: (TL, oT) :: (DS, sD w.params BA p' t1 t2 t3') :: rest) → Q (some (.bytes b t)) { s with heap := h', toks := tk' }) :
    wpAny (model pwS w) A (pyNext (.ref H)) Q E s := by
  refine (handItr (t1 := t1) (t2 := t2) CC (hc2 (oD := oD) (oT := oT) C hD hT) hk).nx A hA m s ps _ [] _ _ ⟨p, t3, R, rfl⟩ (fun q hq => nomatch hq) F (by simpa using perm2' N) (fun b qs v own led' h' tk' e hi hl' he ho F' N' => ?_) (fun e led' h' tk' hl' he F' N' => ?_)
  · obtain ⟨⟨t', rfl⟩, rfl⟩ := hi
    obtain ⟨p', t3', R', rfl⟩ := hl'
    exact h1 b qs e p' t' h' tk' t3' R' F' (perm2 (by simpa using N'))
  · obtain ⟨p', t3', R', rfl⟩ := hl'
    exact h0 e p' h' tk' t3' R' F' (perm2 (by simpa using N'))
theorem pyIter_2 {A : Around} (CC : CL w mean mg mb A₀ outer h₀) (C : HC w rest S DS BA H DH M d n u1 u2 u3 u4) (hk : cs.kind = .function) (hA : OkA cn cs L a ccd cl outer 0 A) (F : Fr h₀ L s.heap m)
    {Q : Value → Shared → Prop} (N : News h₀ L s.heap ((DL, oD) :: (TL, oT) :: (DS, sD w.params BA p t1 t2 t3) :: rest)) (R : Rem d n p ps) (hD : DS < DL) (hT : DS < TL)
    (h : ∀ h' tk', Fr h₀ L h' m → News h₀ L h' ((DL, oD) :: (TL, oT) :: (DS, sD w.params BA p t1 t2 t3) :: rest) → Q (.ref H) { s with heap := h', toks := tk' }) :
    wpAny (model pwS w) A (pyIter (.ref H)) Q E s := by
  refine (handItr (t1 := t1) (t2 := t2) CC (hc2 (oD := oD) (oT := oT) C hD hT) hk).it A hA m s ps _ [] _ _ ⟨p, t3, R, rfl⟩ F (by simpa using perm2' N) fun h' tk' F' N' => h h' tk' F' (perm2 (by simpa using N'))
end
end

section
open PySem PySem.W PyProof.Rows PySem.Calls PyProof.Rows.LCg
section
variable {w : World} {mean : ExcName → Option Value} {mg mb : Str → Option Value} {dp un : Nat} {gd : Option (List Code)} {outer : List Env} {A₀ : Around} {h₀ : Heap} {L : Addr} {m : Str → Option Value} {s : Shared} {E : Value → Shared → Prop}
  {oD : Obj} {c1 c2 c3 c4 c5 : Addr} {o3 o4 o5 : Obj} {d : Array UInt8} {n p : Int} {td tn tp : Tok} {rest : List (Addr × Obj)} {LS TL DL S DS BA H DH M : Addr} {vs : List Value} {ps : List (Array UInt8)} {t1 t2 t3 u1 u2 u3 u4 tk tq tu : Tok}


noncomputable def for1 : List Stmt := match ((brS 1)[2]?).getD (.Pass default) with
  | .For _ _ b _ _ => b
  | _ => []
set_option maxHeartbeats 1000000 in
theorem body1 {Q : Flow → Shared → Prop} {q : Int} {its : Array Value} {c : Nat} {v : Value} (CC : CL w mean mg mb A₀ outer h₀) (hd : dp + 9 < recursionLimit) (hu : un + 100 < cLine) (F : Fr h₀ L s.heap m)
   (N : News h₀ L s.heap ((DL, oD) :: (TL, listOf its c) :: (DS, sD w.params BA p t1 t2 t3) :: rest)) (hT : @LT.lt Nat _ DS TL) (hTD : @LT.lt Nat _ TL DL) (nT : ∀ q ∈ rest, q.1 ≠ TL)
   (lt : m (Str.ofString "told") = some (.ref TL)) (lq : m (Str.ofString "q") = some (.int q tq)) (lp : m (Str.ofString "piece") = some v) (hsz : its.size ≤ 60)
   (hb : (its.size : Int) + 1 = 1 + q.fmod 4 → ∀ h' tk', Fr h₀ L h' m → News h₀ L h' ((DL, oD) :: (TL, listOf (its.push v) (c + 1)) :: (DS, sD w.params BA p t1 t2 t3) :: rest) → Q .brk { s with heap := h', toks := tk' })
   (hn : (its.size : Int) + 1 ≠ 1 + q.fmod 4 → ∀ h' tk', Fr h₀ L h' m → News h₀ L h' ((DL, oD) :: (TL, listOf (its.push v) (c + 1)) :: (DS, sD w.params BA p t1 t2 t3) :: rest) → Q .next { s with heap := h', toks := tk' }) :
   wpAny (model pwS w) (ktrTop dp un gd lawNm lawSc L 626 (.ref 625) (lawCl c1 c2 c3 c4 c5) outer) (execs for1 (envX lawNm lawSc L 626 (.ref 625) (lawCl c1 c2 c3 c4 c5))) Q E s := by
  have CC' := CC
  obtain ⟨B, X, T⟩ := CC'
  show wpAny _ _ (execs (_ :: _) _) _ _ _
  k_steps
  all_goals rename_i hcmp
  · simp only [List.concat_eq_append, List.length_append, List.length_cons, List.length_nil, Array.length_toList] at hcmp
    exact hb (by omega) _ _ (by assumption) (by assumption)
  · simp only [List.concat_eq_append, List.length_append, List.length_cons, List.length_nil, Array.length_toList] at hcmp
    exact hn (by omega) _ _ (by assumption) (by assumption)
end
end

section
open PySem PySem.W PyProof.Rows PySem.Calls PyProof.Rows.LCg
theorem BytesAre.snoc {vs : List Value} {ps : List (Array UInt8)} (x : BytesAre vs ps) (b : Array UInt8) (t : Tok) : BytesAre (vs ++ [.bytes b t]) (ps ++ [b]) := by
  induction x with
  | nil => exact .cons t .nil
  | cons u _ ih => exact .cons u ih
section
variable {w : World} {mean : ExcName → Option Value} {mg mb : Str → Option Value} {dp un : Nat} {gd : Option (List Code)} {outer : List Env} {A₀ : Around} {h₀ : Heap} {L : Addr} {E : Value → Shared → Prop}
  {oD : Obj} {c1 c2 c3 c4 c5 : Addr} {d : Array UInt8} {n : Int} {rest : List (Addr × Obj)} {TL DL S DS BA H DH M : Addr} {t1 t2 u1 u2 u3 u4 tq : Tok}
theorem loop1 {Q : Flow → Shared → Prop} {q : Int} (CC : CL w mean mg mb A₀ outer h₀) (hd : dp + 9 < recursionLimit) (hu : un + 100 < cLine) (C : HC w rest S DS BA H DH M d n u1 u2 u3 u4) (hT : @LT.lt Nat _ DS TL) (hD : @LT.lt Nat _ DS DL) (hTD : @LT.lt Nat _ TL DL) (nT : ∀ q ∈ rest, q.1 ≠ TL) :
   ∀ (ps pre : List (Array UInt8)) (fuel : Nat) (m : Str → Option Value) (its : Array Value) (c : Nat) (p : Int) (t3 : Tok) (s : Shared), ps.length < fuel → m (Str.ofString "told") = some (.ref TL) → m (Str.ofString "q") = some (.int q tq) → BytesAre its.toList pre → (its.size : Int) < 1 + q.fmod 4 → Fr h₀ L s.heap m →
     News h₀ L s.heap ((DL, oD) :: (TL, listOf its c) :: (DS, sD w.params BA p t1 t2 t3) :: rest) → Rem d n p ps →
     (∀ m' its' c' p' h' tk' t3', (∀ z, z ≠ Str.ofString "piece" → m' z = m z) → BytesAre its'.toList (pre ++ ps.take (min (1 + q.fmod 4 - its.size).toNat ps.length)) → Rem d n p' (ps.drop (min (1 + q.fmod 4 - its.size).toNat ps.length)) → Fr h₀ L h' m' →
       News h₀ L h' ((DL, oD) :: (TL, listOf its' c') :: (DS, sD w.params BA p' t1 t2 t3') :: rest) → Q .next { s with heap := h', toks := tk' }) →
     OwitRest pwS w (ktrTop dp un gd lawNm lawSc L 626 (.ref 625) (lawCl c1 c2 c3 c4 c5) outer) E (envX lawNm lawSc L 626 (.ref 625) (lawCl c1 c2 c3 c4 c5)) (Str.ofString "piece") for1 Q H fuel s := by
  intro ps
  have hf4 : q.fmod 4 < 4 := fmod_hi q (by omega)
  induction ps with
  | nil =>
    intro pre fuel m its c p t3 s hfu lt lq hb hlim F N R hQ
    obtain ⟨k, rfl⟩ : ∃ k, fuel = k + 1 := ⟨fuel - 1, by simp at hfu; omega⟩
    refine OwitRest.succ (pyNext_2 CC C rfl ⟨_, _, _, rfl, by omega, by omega⟩ F N R hD hT (fun _ p' h' tk' t3' R' F' N' => ?_) (fun b qs e => nomatch e))
    exact hQ m its c p' h' tk' t3' (fun _ _ => rfl) (by simpa using hb) (by simpa using R') F' N'
  | cons b ps ih =>
    intro pre fuel m its c p t3 s hfu lt lq hb hlim F N R hQ
    obtain ⟨k, rfl⟩ : ∃ k, fuel = k + 1 := ⟨fuel - 1, by simp at hfu; omega⟩
    refine OwitRest.succ (pyNext_2 CC C rfl ⟨_, _, _, rfl, by omega, by omega⟩ F N R hD hT (fun e => nomatch e) (fun b' qs e p' t h' tk' t3' R' F' N' => ?_))
    cases e
    show wpAny _ _ (storeName _ _ _) _ _ _
    refine storeX_L (s := { s with heap := h', toks := tk' }) F' N' fun h2 F2 N2 => ?_
    have hs : its.size ≤ 60 := by omega
    refine body1 (m := fun y => if y = Str.ofString "piece" then some (.bytes b t) else m y) CC hd hu F2 N2 hT hTD nT lt lq rfl hs (fun e h3 tk3 F3 N3 => ?_) (fun e h3 tk3 F3 N3 => ?_)
    · refine hQ _ _ _ p' h3 tk3 t3' (fun z hz => if_neg hz) ?_ ?_ F3 N3
      · rw [show min (1 + q.fmod 4 - (its.size : Int)).toNat (b :: ps).length = 1 by simp only [List.length_cons]; omega]
        simpa using hb.snoc b t
      · rw [show min (1 + q.fmod 4 - (its.size : Int)).toNat (b :: ps).length = 1 by simp only [List.length_cons]; omega]
        simpa using R'
    · refine ih (pre ++ [b]) k (fun y => if y = Str.ofString "piece" then some (.bytes b t) else m y) (its.push (.bytes b t)) (c + 1) p' t3' { s with heap := h3, toks := tk3 } (by simp only [List.length_cons] at hfu; omega) lt lq (by simpa using hb.snoc b t) (by simp only [Array.size_push]; omega) F3 N3 R' fun m' its' c' p2 h4 tk4 t4 hm hb2 R2 F4 N4 => ?_
      have e2 : min (1 + q.fmod 4 - (its.size : Int)).toNat (b :: ps).length = min (1 + q.fmod 4 - ((its.push (.bytes b t)).size : Int)).toNat ps.length + 1 := by simp only [List.length_cons, Array.size_push]; omega
      refine hQ m' its' c' p2 h4 tk4 t4 (fun z hz => (hm z hz).trans (if_neg hz)) ?_ ?_ F4 N4
      · rw [e2, List.take_succ_cons]
        simpa using hb2
      · rw [e2, List.drop_succ_cons]
        exact R2
end
end

section
open PySem PySem.W PyProof.Rows PySem.Calls PyProof.Rows.LCg
theorem BytesAre.take {vs : List Value} {ps : List (Array UInt8)} (x : BytesAre vs ps) : ∀ k, BytesAre (vs.take k) (ps.take k) := by
  induction x with
  | nil => intro k; simp; exact .nil
  | cons t _ ih =>
    intro k
    cases k with
    | zero => exact .nil
    | succ k => exact .cons t (ih k)
theorem BytesAre.drop {vs : List Value} {ps : List (Array UInt8)} (x : BytesAre vs ps) : ∀ k, BytesAre (vs.drop k) (ps.drop k) := by
  induction x with
  | nil => intro k; simp; exact .nil
  | cons t h ih =>
    intro k
    cases k with
    | zero => exact .cons t h
    | succ k => exact ih k
section
variable {w : World} {mean : ExcName → Option Value} {mg mb : Str → Option Value} {dp un : Nat} {gd : Option (List Code)} {outer : List Env} {A₀ : Around} {h₀ : Heap} {L : Addr} {m : Str → Option Value} {s : Shared} {E : Value → Shared → Prop}
  {c1 c2 c3 c4 c5 : Addr} {o3 o4 o5 : Obj} {d : Array UInt8} {n p : Int} {td tn tp : Tok} {rest : List (Addr × Obj)} {LS TL DL S DS BA H DH M : Addr} {vs : List Value} {ps : List (Array UInt8)} {t1 t2 t3 u1 u2 u3 u4 tk tq tu : Tok}

local macro_rules | `(tactic| walk_at "exec For Name Name cons nil") => `(tactic| fail "stop")
local macro_rules | `(tactic| walk_at "call builtin:len") => `(tactic| (k_here; (with_reducible show wpAny _ _ (call (Value.builtin _) [Value.ref _]) _ _ _); (refine len_lo (by kmk_list) (by omega) ?_); intro _ _))

set_option maxHeartbeats 1000000 in
theorem kind1 {Q : Flow → Shared → Prop} (CC : CL w mean mg mb A₀ outer h₀) (hd : dp + 9 < recursionLimit) (hu : un + 100 < cLine) (C : HC w ((LS, lst vs) :: (c5, o5) :: rest) S DS BA H DH M d n u1 u2 u3 u4) (F : Fr h₀ L s.heap m)
   (N : News h₀ L s.heap ((DL, listOf #[] 0) :: (TL, listOf #[] 0) :: (DS, sD w.params BA p t1 t2 t3) :: (LS, lst vs) :: (c5, o5) :: rest)) (hT : @LT.lt Nat _ DS TL) (hD : @LT.lt Nat _ DS DL) (hTD : @LT.lt Nat _ TL DL) (hLT : @LT.lt Nat _ LS TL) (hLD : @LT.lt Nat _ LS DL) (h5T : @LT.lt Nat _ c5 TL) (h5D : @LT.lt Nat _ c5 DL) (nT : ∀ q ∈ rest, q.1 ≠ TL) (nD : ∀ q ∈ rest, q.1 ≠ DL)
   (R : Rem d n p ps) (hv : BytesAre vs ps) (hps : ps.length ≤ 60) (hvl : vs.length = ps.length) (d5 : o5.data = .cell (some (.ref LS)))
   (lt : m (Str.ofString "told") = some (.ref TL)) (ld : m (Str.ofString "due") = some (.ref DL)) (lu : m (Str.ofString "used") = some (.int (ps.length : Nat) tu)) (lh : m (Str.ofString "hand") = some (.ref H)) (lp : m (Str.ofString "place") = some (.int p tp)) {q : Int} (lq : m (Str.ofString "q") = some (.int q tq)) (hE : PassesOwn (model pwS w) (ktrTop dp un gd lawNm lawSc L 626 (.ref 625) (lawCl c1 c2 c3 c4 c5) outer) (envX lawNm lawSc L 626 (.ref 625) (lawCl c1 c2 c3 c4 c5)) E)
   (hQ : BrEnd w h₀ L ((LS, lst vs) :: (c5, o5) :: rest) DS BA t1 t2 d m ps s Q) :
   wpAny (model pwS w) (ktrTop dp un gd lawNm lawSc L 626 (.ref 625) (lawCl c1 c2 c3 c4 c5) outer) (execs (brS 1) (envX lawNm lawSc L 626 (.ref 625) (lawCl c1 c2 c3 c4 c5))) Q E s := by
  have CC' := CC
  obtain ⟨B, X, T⟩ := CC'
  have hf0 : 0 ≤ q.fmod 4 := fmod_lo q (by omega)
  have hf1 : q.fmod 4 < 4 := fmod_hi q (by omega)
  show wpAny _ _ (execs (_ :: _) _) _ _ _
  have hn := C.h1
  k_steps
  rename_i F1 N1
  have hvt := hv.take (if (vs.length : Int) < 1 + q.fmod 4 then (vs.length : Int) else 1 + q.fmod 4).toNat
  rename_i D1 _ l1 _
  obtain ⟨m1, F1, a1, a2, a3, a4, a5, a6, a7⟩ : ∃ m1, Fr h₀ L _ m1 ∧ m1 (Str.ofString "told") = some (.ref TL) ∧ m1 (Str.ofString "due") = some (.ref D1) ∧ m1 (Str.ofString "used") = _ ∧ m1 (Str.ofString "place") = _ ∧ m1 (Str.ofString "hand") = m (Str.ofString "hand") ∧ m1 (Str.ofString "stream") = m (Str.ofString "stream") ∧ m1 (Str.ofString "q") = some (.int q tq) := ⟨_, F1, lt, rfl, rfl, lp, rfl, rfl, lq⟩
  refine owit_for ?_ (hE := hE)
  refine nameX_L F1 (a5.trans lh) ?_
  have N2 := news_sub (l' := (D1, listOf (List.take (if (vs.length : Int) < 1 + q.fmod 4 then (vs.length : Int) else 1 + q.fmod 4).toNat vs).toArray 0) :: (TL, listOf #[] 0) :: (DS, sD w.params BA p t1 t2 t3) :: (LS, lst vs) :: (c5, o5) :: rest) N1 (fun q hq => by
    simp only [List.mem_cons] at hq ⊢
    rcases hq with h | h | h <;> simp [h])
  refine pyIter_2 CC C rfl ⟨_, _, _, rfl, by omega, by omega⟩ F1 N2 R (Nat.lt_trans hD l1.1) hT fun h2 tk2 F2 N2 => OwitAt.intro ?_
  · refine loop1 CC hd hu C hT (Nat.lt_trans hD l1.1) l1.2.1 (fun q hq => ?_) ps [] 64 m1 #[] 0 p t3 _ (by omega) a1 a7 .nil (by simp; omega) F2 N2 R fun m' its' c' p' h3 tk3 t3' hm hb R' F3 N3 => ?_
    · simp only [List.mem_cons] at hq
      rcases hq with rfl | rfl | h
      · exact Nat.ne_of_lt hLT
      · exact Nat.ne_of_lt h5T
      · exact nT q h
    · refine wpAny_execs_nil ?_
      refine BrEnd.fin hQ 2 _ R' hn R F3 N3 rfl ((hm _ (by decide)).trans a1) ((hm _ (by decide)).trans a2) ((hm _ (by decide)).trans a3) ((hm _ (by decide)).trans a4) ((hm _ (by decide)).trans a5) ((hm _ (by decide)).trans a6) (tv := its') (dv := (vs.take _).toArray) ⟨_, N3.get (.tail _ (.head _)), rfl, _, rfl⟩ ⟨_, N3.get (.head _), rfl, _, rfl⟩ ?_ (Nat.min_le_right _ _) ?_
      · refine bytes_eqs hb ?_
        rw [List.nil_append]
        have e : (if (vs.length : Int) < 1 + q.fmod 4 then (vs.length : Int) else 1 + q.fmod 4).toNat = min (1 + q.fmod 4 - ((#[] : Array Value).size : Int)).toNat ps.length := by
          rw [hvl]; split <;> simp <;> omega
        rw [← e]
        exact hvt
      · rw [hvl]; split <;> simp <;> omega
end
end

section
open PySem PySem.W PyProof.Rows PySem.Calls PyProof.Rows.LCg
section
variable {w : World} {mean : ExcName → Option Value} {mg mb : Str → Option Value} {dp un : Nat} {gd : Option (List Code)} {outer : List Env} {A₀ : Around} {h₀ : Heap} {L : Addr} {m : Str → Option Value} {s : Shared} {E : Value → Shared → Prop}
  {oD oT : Obj} {A : Addr} {c1 c2 c3 c4 c5 : Addr} {o3 o4 o5 : Obj} {d : Array UInt8} {n p : Int} {td tn tp : Tok} {rest : List (Addr × Obj)} {LS TL DL S DS BA H DH M : Addr} {vs : List Value} {ps : List (Array UInt8)} {t1 t2 t3 u1 u2 u3 u4 tk tq tu : Tok}


noncomputable def forB (st : Stmt) : List Stmt := match st with
  | .For _ _ b _ _ => b
  | _ => []
noncomputable def for5 : List Stmt := forB (((brS 5)[0]?).getD (.Pass default))
noncomputable def for5i : List Stmt := forB ((for5[1]?).getD (.Pass default))
set_option maxHeartbeats 1000000 in
theorem body5 {Q : Flow → Shared → Prop} {its : Array Value} {c : Nat} {v : Value} (CC : CL w mean mg mb A₀ outer h₀) (hd : dp + 9 < recursionLimit) (hu : un + 100 < cLine) (F : Fr h₀ L s.heap m)
   (N : News h₀ L s.heap ((A, listOf its c) :: rest)) (nA : ∀ q ∈ rest, q.1 ≠ A)
   (lt : m (Str.ofString "taken") = some (.ref A)) (lp : m (Str.ofString "other") = some v) (hsz : its.size ≤ 60)
   (hb : (its.size : Int) + 1 = 3 → ∀ h' tk', Fr h₀ L h' m → News h₀ L h' ((A, listOf (its.push v) (c + 1)) :: rest) → Q .brk { s with heap := h', toks := tk' })
   (hn : (its.size : Int) + 1 ≠ 3 → ∀ h' tk', Fr h₀ L h' m → News h₀ L h' ((A, listOf (its.push v) (c + 1)) :: rest) → Q .next { s with heap := h', toks := tk' }) :
   wpAny (model pwS w) (ktrTop dp un gd lawNm lawSc L 626 (.ref 625) (lawCl c1 c2 c3 c4 c5) outer) (execs for5i (envX lawNm lawSc L 626 (.ref 625) (lawCl c1 c2 c3 c4 c5))) Q E s := by
  have CC' := CC
  obtain ⟨B, X, T⟩ := CC'
  show wpAny _ _ (execs (_ :: _) _) _ _ _
  k_steps
  all_goals rename_i hcmp
  · simp only [List.concat_eq_append, List.length_append, List.length_cons, List.length_nil, Array.length_toList] at hcmp
    exact hb (by omega) _ _ (by assumption) (by assumption)
  · simp only [List.concat_eq_append, List.length_append, List.length_cons, List.length_nil, Array.length_toList] at hcmp
    exact hn (by omega) _ _ (by assumption) (by assumption)

theorem loop5i {Q : Flow → Shared → Prop} (CC : CL w mean mg mb A₀ outer h₀) (hd : dp + 9 < recursionLimit) (hu : un + 100 < cLine) (C : HC w rest S DS BA H DH M d n u1 u2 u3 u4) (hT : @LT.lt Nat _ DS TL) (hD : @LT.lt Nat _ DS A) (hTA : @LT.lt Nat _ TL A) (nA : ∀ q ∈ rest, q.1 ≠ A) :
   ∀ (ps pre : List (Array UInt8)) (fuel : Nat) (m : Str → Option Value) (its : Array Value) (c : Nat) (p : Int) (t3 : Tok) (s : Shared), ps.length < fuel → m (Str.ofString "taken") = some (.ref A) → BytesAre its.toList pre → its.size < 3 → Fr h₀ L s.heap m →
     News h₀ L s.heap ((A, listOf its c) :: (TL, oT) :: (DS, sD w.params BA p t1 t2 t3) :: rest) → Rem d n p ps →
     (∀ m' its' c' p' h' tk' t3', (∀ z, z ≠ Str.ofString "other" → m' z = m z) → BytesAre its'.toList (pre ++ ps.take (3 - its.size)) → Rem d n p' (ps.drop (3 - its.size)) → Fr h₀ L h' m' →
       News h₀ L h' ((A, listOf its' c') :: (TL, oT) :: (DS, sD w.params BA p' t1 t2 t3') :: rest) → Q .next { s with heap := h', toks := tk' }) →
     OwitRest pwS w (ktrTop dp un gd lawNm lawSc L 626 (.ref 625) (lawCl c1 c2 c3 c4 c5) outer) E (envX lawNm lawSc L 626 (.ref 625) (lawCl c1 c2 c3 c4 c5)) (Str.ofString "other") for5i Q H fuel s := by
  intro ps
  induction ps with
  | nil =>
    intro pre fuel m its c p t3 s hfu lt hb hlim F N R hQ
    obtain ⟨k, rfl⟩ : ∃ k, fuel = k + 1 := ⟨fuel - 1, by simp at hfu; omega⟩
    refine OwitRest.succ (pyNext_2 CC C rfl ⟨_, _, _, rfl, by omega, by omega⟩ F N R hD hT (fun _ p' h' tk' t3' R' F' N' => ?_) (fun b qs e => nomatch e))
    exact hQ m its c p' h' tk' t3' (fun _ _ => rfl) (by simpa using hb) (by simpa using R') F' N'
  | cons b ps ih =>
    intro pre fuel m its c p t3 s hfu lt hb hlim F N R hQ
    obtain ⟨k, rfl⟩ : ∃ k, fuel = k + 1 := ⟨fuel - 1, by simp at hfu; omega⟩
    refine OwitRest.succ (pyNext_2 CC C rfl ⟨_, _, _, rfl, by omega, by omega⟩ F N R hD hT (fun e => nomatch e) (fun b' qs e p' t h' tk' t3' R' F' N' => ?_))
    cases e
    show wpAny _ _ (storeName _ _ _) _ _ _
    refine storeX_L (s := { s with heap := h', toks := tk' }) F' N' fun h2 F2 N2 => ?_
    have hnA : ∀ q ∈ (TL, oT) :: (DS, sD w.params BA p' t1 t2 t3') :: rest, q.1 ≠ A := fun q hq => by
      simp only [List.mem_cons] at hq
      rcases hq with rfl | rfl | h
      · exact Nat.ne_of_lt hTA
      · exact Nat.ne_of_lt hD
      · exact nA q h
    refine body5 (m := fun y => if y = Str.ofString "other" then some (.bytes b t) else m y) CC hd hu F2 N2 hnA lt rfl (by omega) (fun e h3 tk3 F3 N3 => ?_) (fun e h3 tk3 F3 N3 => ?_)
    · have e1 : 3 - its.size = 1 := by omega
      refine hQ _ _ _ p' h3 tk3 t3' (fun z hz => if_neg hz) ?_ ?_ F3 N3
      · rw [e1]; simpa using hb.snoc b t
      · rw [e1]; simpa using R'
    · have e2 : 3 - its.size = (3 - (its.push (.bytes b t)).size) + 1 := by simp only [Array.size_push]; omega
      refine ih (pre ++ [b]) k (fun y => if y = Str.ofString "other" then some (.bytes b t) else m y) (its.push (.bytes b t)) (c + 1) p' t3' { s with heap := h3, toks := tk3 } (by simp only [List.length_cons] at hfu; omega) lt (by simpa using hb.snoc b t) (by simp only [Array.size_push]; omega) F3 N3 R' fun m' its' c' p2 h4 tk4 t4 hm hb2 R2 F4 N4 => ?_
      refine hQ m' its' c' p2 h4 tk4 t4 (fun z hz => (hm z hz).trans (if_neg hz)) ?_ ?_ F4 N4
      · rw [e2, List.take_succ_cons]; simpa using hb2
      · rw [e2, List.drop_succ_cons]; exact R2
end
end

section
open PySem PySem.W PyProof.Rows PySem.Calls PyProof.Rows.LCg
section
variable {w : World} {mean : ExcName → Option Value} {mg mb : Str → Option Value} {dp un : Nat} {gd : Option (List Code)} {outer : List Env} {A₀ : Around} {h₀ : Heap} {L : Addr} {m : Str → Option Value} {s : Shared} {E : Value → Shared → Prop}
  {c1 c2 c3 c4 c5 : Addr} {o3 o4 o5 : Obj} {d : Array UInt8} {n p : Int} {td tn tp : Tok} {rest : List (Addr × Obj)} {LS TL DL S DS BA H DH M : Addr} {vs : List Value} {ps : List (Array UInt8)} {t1 t2 t3 u1 u2 u3 u4 tk tq tu : Tok}


local macro_rules | `(tactic| walk_at "exec For Name Name cons nil") => `(tactic| fail "stop")
set_option maxHeartbeats 1000000 in
theorem outer5 {Q : Flow → Shared → Prop} {its : Array Value} {c : Nat} {b : Array UInt8} {t : Tok} (CC : CL w mean mg mb A₀ outer h₀) (hd : dp + 9 < recursionLimit) (hu : un + 100 < cLine) (hE : PassesOwn (model pwS w) (ktrTop dp un gd lawNm lawSc L 626 (.ref 625) (lawCl c1 c2 c3 c4 c5) outer) (envX lawNm lawSc L 626 (.ref 625) (lawCl c1 c2 c3 c4 c5)) E)
   (C : HC w rest S DS BA H DH M d n u1 u2 u3 u4) (F : Fr h₀ L s.heap m)
   (N : News h₀ L s.heap ((TL, listOf its c) :: (DS, sD w.params BA p t1 t2 t3) :: rest)) (hT : @LT.lt Nat _ DS TL) (nT : ∀ q ∈ rest, q.1 ≠ TL)
   (lt : m (Str.ofString "told") = some (.ref TL)) (lp : m (Str.ofString "piece") = some (.bytes b t)) (lh : m (Str.ofString "hand") = some (.ref H)) (R : Rem d n p ps) (hps : ps.length ≤ 60) (hsz : its.size ≤ 60)
   (hQ : ∀ m' A items cA p' h' tk' t3', (∀ z, z ≠ Str.ofString "other" → z ≠ Str.ofString "taken" → m' z = m z) → BytesAre items.toList (b :: ps.take 2) → Rem d n p' (ps.drop 2) → Fr h₀ L h' m' →
      News h₀ L h' ((A, listOf items cA) :: (TL, listOf (its.push (.ref A)) (c + 1)) :: (DS, sD w.params BA p' t1 t2 t3') :: rest) → @LT.lt Nat _ TL A → @LT.lt Nat _ DS A → (∀ q ∈ rest, @LT.lt Nat _ q.1 A) → Q .next { s with heap := h', toks := tk' }) :
   wpAny (model pwS w) (ktrTop dp un gd lawNm lawSc L 626 (.ref 625) (lawCl c1 c2 c3 c4 c5) outer) (execs for5 (envX lawNm lawSc L 626 (.ref 625) (lawCl c1 c2 c3 c4 c5))) Q E s := by
  have CC' := CC
  obtain ⟨B, X, T⟩ := CC'
  show wpAny _ _ (execs (_ :: _) _) _ _ _
  k_steps
  rename_i A h1 l1 h2 F1 N1
  obtain ⟨m1, F1, a1, a2, a3, a4⟩ : ∃ m1, Fr h₀ L h2 m1 ∧ m1 (Str.ofString "told") = some (.ref TL) ∧ m1 (Str.ofString "taken") = some (.ref A) ∧ m1 (Str.ofString "hand") = some (.ref H) ∧ ∀ z, z ≠ Str.ofString "taken" → m1 z = m z := ⟨_, F1, lt, rfl, lh, fun z hz => if_neg hz⟩
  have hA : ∀ q ∈ rest, @LT.lt Nat _ q.1 A := allLt_mem l1.2.2
  refine owit_for ?_ (hE := hE)
  refine nameX_L F1 a3 ?_
  refine pyIter_2 CC C rfl ⟨_, _, _, rfl, by omega, by omega⟩ F1 N1 R l1.2.1 hT fun h2 tk2 F2 N2 => OwitAt.intro ?_
  refine loop5i CC hd hu C hT l1.2.1 l1.1 (fun q hq => Nat.ne_of_lt (hA q hq)) ps [b] 64 m1 #[.bytes b t] 0 p t3 _ (by omega) a2 (.cons t .nil) (by simp) F2 N2 R fun m' its' c' p' h3 tk3 t3' hm hb R' F3 N3 => ?_
  have b1 := (hm (Str.ofString "told") (by decide)).trans a1
  have b2 := (hm (Str.ofString "taken") (by decide)).trans a2
  have hm2 : ∀ z, z ≠ Str.ofString "other" → z ≠ Str.ofString "taken" → m' z = m z := fun z h1 h2 => (hm z h1).trans (a4 z h2)
  have hAT := l1.1
  have hAS := l1.2.1
  have nA : ∀ q ∈ rest, q.1 ≠ A := fun q hq => Nat.ne_of_lt (hA q hq)
  clear F1 N1 N2 F2 hm
  k_steps
  refine hQ m' A its' c' p' _ _ t3' hm2 hb R' (by assumption) (by assumption) hAT hAS hA
end
end

section
open PySem PySem.W PyProof.Rows PySem.Calls PyProof.Rows.LCg
/-- these values are lists of these pieces, on this ledger, at addresses that hold P -/
inductive ListsAre (l : List (Addr × Obj)) (P : Addr → Prop) : List Value → List (List (Array UInt8)) → Prop
  | nil : ListsAre l P [] []
  | cons {T : Addr} {its : Array Value} {c : Nat} {ch : List (Array UInt8)} {vs : List Value} {css : List (List (Array UInt8))} : (T, listOf its c) ∈ l → BytesAre its.toList ch → P T → ListsAre l P vs css → ListsAre l P (.ref T :: vs) (ch :: css)
theorem ListsAre.sub {l l' : List (Addr × Obj)} {P : Addr → Prop} {vs : List Value} {css : List (List (Array UInt8))} (x : ListsAre l P vs css) (h : ∀ q ∈ l, q ∈ l') : ListsAre l' P vs css := by
  induction x with
  | nil => exact .nil
  | cons a b c _ ih => exact .cons (h _ a) b c ih
theorem ListsAre.imp {l : List (Addr × Obj)} {P P' : Addr → Prop} {vs : List Value} {css : List (List (Array UInt8))} (x : ListsAre l P vs css) (h : ∀ T, P T → P' T) : ListsAre l P' vs css := by
  induction x with
  | nil => exact .nil
  | cons a b c _ ih => exact .cons a b (h _ c) ih
theorem ListsAre.snoc {l : List (Addr × Obj)} {P : Addr → Prop} {vs : List Value} {css : List (List (Array UInt8))} (x : ListsAre l P vs css) {T : Addr} {its : Array Value} {c : Nat} {ch : List (Array UInt8)} (h1 : (T, listOf its c) ∈ l) (h2 : BytesAre its.toList ch) (h3 : P T) : ListsAre l P (vs ++ [.ref T]) (css ++ [ch]) := by
  induction x with
  | nil => exact .cons h1 h2 h3 .nil
  | cons a b c _ ih => exact .cons a b c ih

noncomputable def chunks3 {β : Type} : List β → List (List β)
  | [] => []
  | [a] => [[a]]
  | [a, b] => [[a, b]]
  | a :: b :: c :: r => [a, b, c] :: chunks3 r
theorem chunks3_cons {β : Type} (b : β) (r : List β) : chunks3 (b :: r) = (b :: r.take 2) :: chunks3 (r.drop 2) := by
  match r with
  | [] => rfl
  | [_] => rfl
  | _ :: _ :: _ => rfl
theorem chunks3_len {β : Type} : ∀ (l : List β), (chunks3 l).length = (l.length + 2) / 3
  | [] => by simp [chunks3]
  | [_] => by simp [chunks3]
  | [_, _] => by simp [chunks3]
  | a :: b :: c :: r => by simp only [chunks3, List.length_cons, chunks3_len r]; omega
theorem chunks3_get {β : Type} : ∀ (l : List β) (i : Nat), i < (chunks3 l).length → (chunks3 l)[i]? = some ((l.drop (3 * i)).take 3)
  | [], i, h => by simp [chunks3] at h
  | [_], i, h => by simp only [chunks3, List.length_cons, List.length_nil] at h; obtain rfl : i = 0 := by omega
                    rfl
  | [_, _], i, h => by simp only [chunks3, List.length_cons, List.length_nil] at h; obtain rfl : i = 0 := by omega
                       rfl
  | a :: b :: c :: r, 0, _ => rfl
  | a :: b :: c :: r, i + 1, h => by
    have h' : i < (chunks3 r).length := by simp only [chunks3, List.length_cons] at h; omega
    have := chunks3_get r i h'
    simp only [chunks3, List.getElem?_cons_succ, this]
    rw [show 3 * (i + 1) = 3 * i + 1 + 1 + 1 by omega]
    rfl

theorem list_eqv {h₀ h : Heap} {L : Addr} {l : List (Addr × Obj)} {T D : Addr} {its us : Array Value} {c c' : Nat} {ch : List (Array UInt8)} (N : News h₀ L h l) (hT : (T, listOf its c) ∈ l) (hD : (D, listOf us c') ∈ l) (ne : T ≠ D) (a : BytesAre its.toList ch) (b : BytesAre us.toList ch) : EqV h 2 (.ref T) (.ref D) := by
  have la := a.len
  have lb := b.len
  refine .lst ne ⟨_, N.get hT, rfl, _, rfl⟩ ⟨_, N.get hD, rfl, _, rfl⟩ (by simp at la lb; omega) fun j h1 h2 => ?_
  have hj : j < ch.length := by simp at la; omega
  obtain ⟨t, e1⟩ := a.get j hj
  obtain ⟨u, e2⟩ := b.get j hj
  have e1' : its[j] = .bytes ch[j] t := by
    rw [List.getElem?_eq_getElem (by simpa using h1)] at e1
    simpa using Option.some.inj e1
  have e2' : us[j] = .bytes ch[j] u := by
    rw [List.getElem?_eq_getElem (by simpa using h2)] at e2
    simpa using Option.some.inj e2
  rw [e1', e2']
  exact .bytes _ _ _
theorem lists_eqs {h₀ h : Heap} {L : Addr} {l ow : List (Addr × Obj)} {vs us : List Value} {css : List (List (Array UInt8))} (N : News h₀ L h l) (a : ListsAre l (fun T => ∃ o, (T, o) ∈ ow) vs css) (b : ListsAre l (fun D => ∀ q ∈ ow, q.1 < D) us css) : EqVs h vs us := by
  induction a generalizing us with
  | nil => cases b; exact .nil
  | cons hT hB hP _ ih =>
    cases b with
    | cons hD hB2 hQ b =>
      obtain ⟨o, ho⟩ := hP
      exact .cons (list_eqv N hT hD (Nat.ne_of_lt (hQ _ ho)) hB hB2) (ih b)

/-- the i-th item of the due list: a new list of three pieces -/
noncomputable def El5 (ps : List (Array UInt8)) (news : List (Addr × Obj)) (i : Nat) (v : Value) (own : List (Addr × Obj)) : Prop :=
  ∃ D us, BytesAre us ((ps.drop (3 * i)).take 3) ∧ v = .ref D ∧ own = [(D, listOf us.toArray 0)] ∧ ∀ q ∈ news, q.1 < D
theorem els_lists {ps : List (Array UInt8)} {news : List (Addr × Obj)} {k i : Nat} {vs : List Value} {ow : List (Addr × Obj)} (h : Els (El5 ps news) k i vs ow) : i + k = (chunks3 ps).length → ListsAre ow (fun D => ∀ q ∈ news, q.1 < D) vs ((chunks3 ps).drop i) := by
  induction h with
  | nil => intro e; rw [List.drop_eq_nil_of_le (by omega)]; exact .nil
  | @cons k i v own ow vs hv h ih =>
    intro e
    obtain ⟨D, us, hb, rfl, rfl, hD⟩ := hv
    have hi : i < (chunks3 ps).length := by omega
    have hg := chunks3_get ps i hi
    have e0 : (chunks3 ps)[i] = (ps.drop (3 * i)).take 3 := by
      rw [List.getElem?_eq_getElem hi] at hg
      exact Option.some.inj hg
    rw [List.drop_eq_getElem_cons hi, e0]
    refine .cons (its := us.toArray) (c := 0) ?_ (by simpa using hb) hD ((ih (by omega)).sub (by simp +contextual))
    simp

section
variable {w : World} {mean : ExcName → Option Value} {mg mb : Str → Option Value} {dp un : Nat} {gd : Option (List Code)} {outer : List Env} {A₀ : Around} {h₀ : Heap} {L : Addr} {E : Value → Shared → Prop}
  {c1 c2 c3 c4 c5 : Addr} {d : Array UInt8} {n : Int} {rest : List (Addr × Obj)} {TL DL S DS BA H DH M : Addr} {t1 t2 u1 u2 u3 u4 : Tok}
/-- one step of a for over the wrapper, with one object of the caller's ahead of the ledger -/
theorem pyNext_1 {cn : Str} {cs : Scope} {a : Addr} {ccd : Value} {cl : List (Str × Addr)} {m : Str → Option Value} {s : Shared} {p : Int} {t3 : Tok} {ps : List (Array UInt8)} {oT : Obj} {A : Around} (CC : CL w mean mg mb A₀ outer h₀) (C : HC w rest S DS BA H DH M d n u1 u2 u3 u4) (hk : cs.kind = .function) (hA : OkA cn cs L a ccd cl outer 0 A) (F : Fr h₀ L s.heap m)
    {Q : Option Value → Shared → Prop} (N : News h₀ L s.heap ((TL, oT) :: (DS, sD w.params BA p t1 t2 t3) :: rest)) (R : Rem d n p ps) (hT : DS < TL)
    (h0 : ps = [] → ∀ p' h' tk' t3', Rem d n p' [] → Fr h₀ L h' m → News h₀ L h' ((TL, oT) :: (DS, sD w.params BA p' t1 t2 t3') :: rest) → Q none { s with heap := h', toks := tk' })
    (h1 : ∀ b qs, ps = b :: qs → ∀ p' t h' tk' t3', Rem d n p' qs → Fr h₀ L h' m → News h₀ L h' ((TL, oT) :: (DS, sD w.params BA p' t1 t2 t3') :: rest) → Q (some (.bytes b t)) { s with heap := h', toks := tk' }) :
    wpAny (model pwS w) A (pyNext (.ref H)) Q E s := by
  refine pyNext_2 (DL := TL) (oD := oT) CC C hk hA F (news_more N (.head _)) R hT hT (fun e p' h' tk' t3' R' F' N' => h0 e p' h' tk' t3' R' F' (news_less N')) (fun b qs e p' t h' tk' t3' R' F' N' => h1 b qs e p' t h' tk' t3' R' F' (news_less N'))
theorem pyIter_1 {cn : Str} {cs : Scope} {a : Addr} {ccd : Value} {cl : List (Str × Addr)} {m : Str → Option Value} {s : Shared} {p : Int} {t3 : Tok} {ps : List (Array UInt8)} {oT : Obj} {A : Around} (CC : CL w mean mg mb A₀ outer h₀) (C : HC w rest S DS BA H DH M d n u1 u2 u3 u4) (hk : cs.kind = .function) (hA : OkA cn cs L a ccd cl outer 0 A) (F : Fr h₀ L s.heap m)
    {Q : Value → Shared → Prop} (N : News h₀ L s.heap ((TL, oT) :: (DS, sD w.params BA p t1 t2 t3) :: rest)) (R : Rem d n p ps) (hT : DS < TL)
    (h : ∀ h' tk', Fr h₀ L h' m → News h₀ L h' ((TL, oT) :: (DS, sD w.params BA p t1 t2 t3) :: rest) → Q (.ref H) { s with heap := h', toks := tk' }) :
    wpAny (model pwS w) A (pyIter (.ref H)) Q E s :=
  pyIter_2 (DL := TL) (oD := oT) CC C hk hA F (news_more N (.head _)) R hT hT fun h' tk' F' N' => h h' tk' F' (news_less N')
theorem loop5o {Q : Flow → Shared → Prop} (CC : CL w mean mg mb A₀ outer h₀) (hd : dp + 9 < recursionLimit) (hu : un + 100 < cLine) (hE : PassesOwn (model pwS w) (ktrTop dp un gd lawNm lawSc L 626 (.ref 625) (lawCl c1 c2 c3 c4 c5) outer) (envX lawNm lawSc L 626 (.ref 625) (lawCl c1 c2 c3 c4 c5)) E)
   (C : HC w rest S DS BA H DH M d n u1 u2 u3 u4) (hT : @LT.lt Nat _ DS TL) (nT : ∀ q ∈ rest, q.1 ≠ TL) :
   ∀ (j : Nat) (ps : List (Array UInt8)) (own : List (Addr × Obj)) (css : List (List (Array UInt8))) (fuel : Nat) (m : Str → Option Value) (its : Array Value) (c : Nat) (p : Int) (t3 : Tok) (s : Shared), ps.length ≤ j → ps.length < fuel → its.size + ps.length ≤ 60 →
     m (Str.ofString "told") = some (.ref TL) → m (Str.ofString "hand") = some (.ref H) → ListsAre own (fun T => ∃ o, (T, o) ∈ own) its.toList css → (∀ q ∈ own, @LT.lt Nat _ DS q.1 ∧ @LT.lt Nat _ TL q.1) → Fr h₀ L s.heap m →
     News h₀ L s.heap ((TL, listOf its c) :: (DS, sD w.params BA p t1 t2 t3) :: (rest ++ own)) → Rem d n p ps →
     (∀ m' its' c' p' h' tk' t3' own', (∀ z, z ≠ Str.ofString "piece" → z ≠ Str.ofString "other" → z ≠ Str.ofString "taken" → m' z = m z) → ListsAre own' (fun T => ∃ o, (T, o) ∈ own') its'.toList (css ++ chunks3 ps) → Rem d n p' [] → Fr h₀ L h' m' →
       News h₀ L h' ((TL, listOf its' c') :: (DS, sD w.params BA p' t1 t2 t3') :: (rest ++ own')) → Q .next { s with heap := h', toks := tk' }) →
     OwitRest pwS w (ktrTop dp un gd lawNm lawSc L 626 (.ref 625) (lawCl c1 c2 c3 c4 c5) outer) E (envX lawNm lawSc L 626 (.ref 625) (lawCl c1 c2 c3 c4 c5)) (Str.ofString "piece") for5 Q H fuel s := by
  intro j
  induction j with
  | zero =>
    intro ps own css fuel m its c p t3 s hj hfu hsz lt lh hl ho F N R hQ
    obtain rfl : ps = [] := List.length_eq_zero_iff.mp (by omega)
    obtain ⟨k, rfl⟩ : ∃ k, fuel = k + 1 := ⟨fuel - 1, by simp at hfu; omega⟩
    have C' : HC w (rest ++ own) S DS BA H DH M d n u1 u2 u3 u4 := C.more fun q hq => Nat.ne_of_gt (ho q hq).1
    refine OwitRest.succ (pyNext_1 CC C' rfl ⟨_, _, _, rfl, by omega, by omega⟩ F N R hT (fun _ p' h' tk' t3' R' F' N' => ?_) (fun b qs e => nomatch e))
    exact hQ m its c p' h' tk' t3' own (fun _ _ _ _ => rfl) (by simpa [chunks3] using hl) R' F' N'
  | succ j ih =>
    intro ps own css fuel m its c p t3 s hj hfu hsz lt lh hl ho F N R hQ
    obtain ⟨k, rfl⟩ : ∃ k, fuel = k + 1 := ⟨fuel - 1, by omega⟩
    have C' : HC w (rest ++ own) S DS BA H DH M d n u1 u2 u3 u4 := C.more fun q hq => Nat.ne_of_gt (ho q hq).1
    refine OwitRest.succ (pyNext_1 CC C' rfl ⟨_, _, _, rfl, by omega, by omega⟩ F N R hT (fun e p' h' tk' t3' R' F' N' => ?_) (fun b qs e p' t h' tk' t3' R' F' N' => ?_))
    · subst e
      exact hQ m its c p' h' tk' t3' own (fun _ _ _ _ => rfl) (by simpa [chunks3] using hl) R' F' N'
    · subst e
      simp only [List.length_cons] at hj hfu hsz
      show wpAny _ _ (storeName _ _ _) _ _ _
      refine storeX_L (s := { s with heap := h', toks := tk' }) F' N' fun h2 F2 N2 => ?_
      refine outer5 (m := fun y => if y = Str.ofString "piece" then some (.bytes b t) else m y) (b := b) (t := t) CC hd hu hE C' F2 N2 hT (fun q hq => ?_) lt rfl lh R' (by omega) (by omega) fun m' A items cA p2 h3 tk3 t3'' hm hb R2 F3 N3 hTA hDA hrA => ?_
      · rcases List.mem_append.mp hq with hq | hq
        · exact nT q hq
        · exact Nat.ne_of_gt (ho q hq).2
      · have N4 : News h₀ L h3 ((TL, listOf (its.push (.ref A)) (c + 1)) :: (DS, sD w.params BA p2 t1 t2 t3'') :: (rest ++ ((A, listOf items cA) :: own))) := news_sub N3 fun q hq => by
          simp only [List.mem_append, List.mem_cons] at hq ⊢
          rcases hq with h | h | h | h | h <;> simp [h]
        refine ih (qs.drop 2) ((A, listOf items cA) :: own) (css ++ [b :: qs.take 2]) k m' (its.push (.ref A)) (c + 1) p2 t3'' { s with heap := h3, toks := tk3 } (by simp; omega) (by simp; omega) (by simp; omega) ((hm _ (by decide) (by decide)).trans lt) ((hm _ (by decide) (by decide)).trans lh) ?_ (fun q hq => ?_) F3 N4 R2 fun m2 its2 c2 p3 h4 tk4 t4 own2 hm2 hl2 R3 F4 N5 => ?_
        · rw [Array.toList_push]
          exact ((hl.sub (fun q hq => List.mem_cons_of_mem _ hq)).imp (fun T ⟨o, ho⟩ => ⟨o, List.mem_cons_of_mem _ ho⟩)).snoc (its := items) (c := cA) (.head _) hb ⟨_, .head _⟩
        · rcases List.mem_cons.mp hq with rfl | hq
          · exact ⟨hDA, hTA⟩
          · exact ho q hq
        · refine hQ m2 its2 c2 p3 h4 tk4 t4 own2 (fun z z1 z2 z3 => (hm2 z z1 z2 z3).trans ((hm z z2 z3).trans (if_neg z1))) ?_ R3 F4 N5
          rw [chunks3_cons]
          simpa [List.append_assoc] using hl2
end
end

section
open PySem PySem.W PyProof.Rows PySem.Calls PyProof.Rows.LCg
noncomputable def due5 : Stmt := ((brS 5)[1]?).getD (.Pass default)
section
variable {w : World} {mean : ExcName → Option Value} {mg mb : Str → Option Value} {dp un : Nat} {gd : Option (List Code)} {outer : List Env} {A₀ : Around} {h₀ : Heap} {L : Addr} {m : Str → Option Value} {s : Shared} {E : Value → Shared → Prop}
  {c1 c2 c3 c4 c5 LS : Addr} {o5 : Obj} {vs : List Value} {ps : List (Array UInt8)} {news : List (Addr × Obj)}
local macro_rules | `(tactic| walk_at "call builtin:len") => `(tactic| (k_here; (with_reducible show wpAny _ _ (call (Value.builtin _) [Value.ref _]) _ _ _); (refine len_lo (by kmk_list) (by omega) ?_); intro _ _))
local macro_rules | `(tactic| walk_at "subscriptTail Name Slice ref ref") => `(tactic| (k_here; (with_reducible show wpAny _ _ (subscriptTail _ (PySem.Expr.Slice (some _) (some _) none _) (Value.ref _) (Value.ref _)) _ _ _); k_dflt (refine' kmk_slice_lit ?F ?N ?l ?p ?q (pick_run2 ?e ?f) ?_ ?s ?t ?z; (case F => k_asm); (case N => k_asm); (case l => kmk_list); (case p => kmk_part); (case q => kmk_part); (case e => omega); (case f => omega); (case s => with_unfolding_all rfl); (case t => kmk_pure); (case z => (rw [sizeLine_eq]; simp only [List.size_toArray]; omega))); intro D' h' F' N' l1; (try k_lt l1)))
set_option maxHeartbeats 1000000 in
theorem due5_spec {Q : Flow → Shared → Prop} (CC : CL w mean mg mb A₀ outer h₀) (hd : dp + 9 < recursionLimit) (hu : un + 80 < cLine) (F : Fr h₀ L s.heap m) (N : News h₀ L s.heap news) (h5 : (c5, o5) ∈ news) (hL : (LS, lst vs) ∈ news) (d5 : o5.data = .cell (some (.ref LS)))
   (hv : BytesAre vs ps) (hps : ps.length ≤ 60)
   (hQ : ∀ D us h' tk' ow, ListsAre ow (fun D => ∀ q ∈ news, q.1 < D) us (chunks3 ps) → Fr h₀ L h' (fun z => if z = Str.ofString "due" then some (.ref D) else m z) → News h₀ L h' ((D, lst us) :: (ow ++ news)) → Q .next { s with heap := h', toks := tk' }) :
   wpAny (model pwS w) (ktrTop dp un gd lawNm lawSc L 626 (.ref 625) (lawCl c1 c2 c3 c4 c5) outer) (exec due5 (envX lawNm lawSc L 626 (.ref 625) (lawCl c1 c2 c3 c4 c5))) Q E s := by
  obtain ⟨B, X, T⟩ := CC
  have hvl := hv.len
  show wpAny _ _ (exec (.Assign [.Name _ _] (.ListComp _ [⟨.Name _ _, _, [], 0⟩] _ _) _) _) _ _ _
  refine Assign_ListComp_S F rfl (by with_unfolding_all rfl) (by with_unfolding_all rfl) (by decide) (by rfl) (by decide) (by rfl) (by rfl) (by rfl) ?_
  have N1 := news_more (news_more N h5) (.tail _ hL)
  k_steps
  rename_i h₁ tk₁ t₁ u₁ v₁ hr F₁ N₁ _
  have hpl := chunks3_len ps
  have hcnt : Builtin.Range.rangeSize 0 (vs.length : Int) 3 = (((chunks3 ps).length : Nat) : Int) := by
    rw [hvl, hpl]
    simp only [Builtin.Range.rangeSize, show (3 : Int) > 0 by decide, if_true]
    by_cases h : (0 : Int) < (ps.length : Int)
    · rw [if_pos h]; omega
    · rw [if_neg h]; omega
  refine ⟨_, _, _, _, _, _, _, (chunks3 ps).length, _, rfl, rfl, F₁, N₁, hr, ?_, hcnt, by rw [sizeLine_eq]; omega, ?_⟩
  · unfold Builtin.Range.small
    rw [hcnt]
    rw [if_pos (show (3 : Int) > 0 by decide)]
    unfold Builtin.Range.rangeFitsLong
    simp only [Bool.and_eq_true, Bool.or_eq_true, decide_eq_true_eq]
    refine ⟨⟨⟨⟨by decide, by omega⟩, by decide⟩, by omega⟩, .inr (by omega)⟩
  · rintro s₂ ⟨g, rfl⟩
    refine comp_rest (own := []) (El5 ps news) _ ?_ (chunks3 ps).length 0 [] ?_
    · rintro i v I oI C oC D ys m₂ h tk own E' Q' ⟨hi, t, rfl⟩ hC hx F2 N2 hne hret
      have hi2 : 3 * i < ps.length := by omega
      have N3 := news_more (news_more (news_more N2 (x := (c5, o5)) (by simp)) (x := (LS, lst vs)) (by simp)) (x := (C, oC)) (by simp)
      clear hr F₁ N₁ N N2 hQ
      k_steps
      rename_i D' h5 F4 N4 l1
      have hall : ∀ q ∈ (I, oI) :: (C, oC) :: (D, lst ys) :: (own ++ (LS, lst vs) :: (c5, o5) :: news), q.1 < D' := fun q hq => by
        rcases List.mem_cons.mp hq with rfl | hq
        · exact l1.2.2.2.1
        · rcases List.mem_cons.mp hq with rfl | hq
          · exact l1.1
          · rcases List.mem_cons.mp hq with rfl | hq
            · exact l1.2.2.2.2.2.1
            · exact allLt_mem l1.2.2.2.2.2.2 q hq
      have hbb := (hv.drop (3 * i)).take 3
      have e1 : ((0 : Int) + (i : Int) * 3 + 3).toNat - ((0 : Int) + (i : Int) * 3).toNat = 3 := by omega
      have e2 : ((0 : Int) + (i : Int) * 3).toNat = 3 * i := by omega
      rw [e1, e2] at N4
      refine hret _ [(D', listOf ((vs.drop (3 * i)).take 3).toArray 0)] _ _ ⟨D', _, hbb, rfl, rfl, fun q hq => hall q (by simp [hq])⟩ F4 (news_sub N4 fun q hq => ?_) fun q hq p hp => by rw [List.mem_singleton.mp hq]; exact hall p hp
      simp only [List.mem_append, List.mem_cons, List.not_mem_nil, or_false] at hq ⊢
      rcases hq with h | h | h | h | h | h | h | h <;> simp [h]
    · intro us ow hE D h tk F2 N2 o1
      refine hQ D us h tk ow ?_ F2 (news_sub N2 fun q hq => ?_)
      · simpa using els_lists hE (by omega)
      · simp only [List.mem_append, List.mem_cons, List.nil_append] at hq ⊢
        rcases hq with h | h | h <;> simp [h]
end
end

section
open PySem PySem.W PyProof.Rows PySem.Calls PyProof.Rows.LCg
section
variable {w : World} {mean : ExcName → Option Value} {mg mb : Str → Option Value} {dp un : Nat} {gd : Option (List Code)} {outer : List Env} {A₀ : Around} {h₀ : Heap} {L : Addr} {m : Str → Option Value} {s : Shared} {E : Value → Shared → Prop}
  {c1 c2 c3 c4 c5 : Addr} {o3 o4 o5 : Obj} {d : Array UInt8} {n p : Int} {td tn tp : Tok} {rest : List (Addr × Obj)} {LS TL DL S DS BA H DH M : Addr} {vs : List Value} {ps : List (Array UInt8)} {t1 t2 t3 u1 u2 u3 u4 tk tq tu : Tok}

local macro_rules | `(tactic| walk_at "exec For Name Name cons nil") => `(tactic| fail "stop")

set_option maxHeartbeats 1000000 in
theorem kind5 {Q : Flow → Shared → Prop} (CC : CL w mean mg mb A₀ outer h₀) (hd : dp + 9 < recursionLimit) (hu : un + 100 < cLine) (C : HC w ((LS, lst vs) :: (c5, o5) :: rest) S DS BA H DH M d n u1 u2 u3 u4) (F : Fr h₀ L s.heap m)
   (N : News h₀ L s.heap ((DL, listOf #[] 0) :: (TL, listOf #[] 0) :: (DS, sD w.params BA p t1 t2 t3) :: (LS, lst vs) :: (c5, o5) :: rest)) (hT : @LT.lt Nat _ DS TL) (hD : @LT.lt Nat _ DS DL) (hTD : @LT.lt Nat _ TL DL) (hLT : @LT.lt Nat _ LS TL) (hLD : @LT.lt Nat _ LS DL) (h5T : @LT.lt Nat _ c5 TL) (h5D : @LT.lt Nat _ c5 DL) (nT : ∀ q ∈ rest, q.1 ≠ TL) (nD : ∀ q ∈ rest, q.1 ≠ DL)
   (R : Rem d n p ps) (hv : BytesAre vs ps) (hps : ps.length ≤ 60) (hvl : vs.length = ps.length) (d5 : o5.data = .cell (some (.ref LS)))
   (lt : m (Str.ofString "told") = some (.ref TL)) (ld : m (Str.ofString "due") = some (.ref DL)) (lu : m (Str.ofString "used") = some (.int (ps.length : Nat) tu)) (lh : m (Str.ofString "hand") = some (.ref H)) (lp : m (Str.ofString "place") = some (.int p tp)) (hE : PassesOwn (model pwS w) (ktrTop dp un gd lawNm lawSc L 626 (.ref 625) (lawCl c1 c2 c3 c4 c5) outer) (envX lawNm lawSc L 626 (.ref 625) (lawCl c1 c2 c3 c4 c5)) E)
   (hQ : BrEnd w h₀ L ((LS, lst vs) :: (c5, o5) :: rest) DS BA t1 t2 d m ps s Q) :
   wpAny (model pwS w) (ktrTop dp un gd lawNm lawSc L 626 (.ref 625) (lawCl c1 c2 c3 c4 c5) outer) (execs (brS 5) (envX lawNm lawSc L 626 (.ref 625) (lawCl c1 c2 c3 c4 c5))) Q E s := by
  have CC' := CC
  obtain ⟨B, X, T⟩ := CC'
  show wpAny _ _ (execs (_ :: _) _) _ _ _
  have hn := C.h1
  have N0 := news_less N
  refine wpAny_execs_cons ?_
  refine owit_for ?_ (hE := hE)
  refine nameX_L F lh ?_
  refine pyIter_1 CC C rfl ⟨_, _, _, rfl, by omega, by omega⟩ F N0 R hT fun h2 tk2 F2 N2 => OwitAt.intro ?_
  have nT2 : ∀ q ∈ (LS, lst vs) :: (c5, o5) :: rest, q.1 ≠ TL := fun q hq => by
    simp only [List.mem_cons] at hq
    rcases hq with rfl | rfl | h
    · exact Nat.ne_of_lt hLT
    · exact Nat.ne_of_lt h5T
    · exact nT q h
  refine loop5o CC hd hu hE C hT nT2 60 ps [] [] 64 m #[] 0 p t3 _ hps (by omega) (by simpa using hps) lt lh .nil (fun q hq => nomatch hq) F2 (by simpa using N2) R fun m' its' c' p' h3 tk3 t3' own' hm hl R' F3 N3 => ?_
  rw [List.nil_append] at hl
  refine wpAny_execs_cons ?_
  have N4 := news_sub (l' := (LS, lst vs) :: (c5, o5) :: (TL, listOf its' c') :: (DS, sD w.params BA p' t1 t2 t3') :: (((LS, lst vs) :: (c5, o5) :: rest) ++ own')) N3 (fun q hq => by
    simp only [List.mem_append, List.mem_cons] at hq ⊢
    rcases hq with h | h | h <;> simp [h])
  refine due5_spec CC (by omega) (by omega) F3 N4 (.tail _ (.head _)) (.head _) d5 hv hps fun D us h4 tk4 ow hl2 F4 N5 => ?_
  refine wpAny_execs_nil ?_
  have e : ∀ z, z ≠ Str.ofString "due" → z ≠ Str.ofString "piece" → z ≠ Str.ofString "other" → z ≠ Str.ofString "taken" → (fun z => if z = Str.ofString "due" then some (.ref D) else m' z) z = m z := fun z z1 z2 z3 z4 => (if_neg z1).trans (hm z z2 z3 z4)
  refine BrEnd.fin hQ 0 ps.length (by rwa [List.drop_length]) hn R F4 (news_sub (l' := (DS, sD w.params BA p' t1 t2 t3') :: (LS, lst vs) :: (c5, o5) :: rest) N5 fun q hq => ?_) rfl ((e _ (by decide) (by decide) (by decide) (by decide)).trans lt) rfl ((e _ (by decide) (by decide) (by decide) (by decide)).trans lu) ((e _ (by decide) (by decide) (by decide) (by decide)).trans lp) (e _ (by decide) (by decide) (by decide) (by decide)) (e _ (by decide) (by decide) (by decide) (by decide))
    (tv := its') (dv := us.toArray) ⟨_, N5.get (o := listOf its' c') (by simp), rfl, _, rfl⟩ ⟨_, N5.get (o := lst us) (.head _), rfl, _, rfl⟩ ?_ (Nat.le_refl _) rfl
  · simp only [List.mem_append, List.mem_cons] at hq ⊢
    rcases hq with h | h | h | h <;> simp [h]
  · exact lists_eqs (ow := own') N5 (hl.sub fun q hq => by simp [hq]) ((hl2.sub fun q hq => by simp [hq]).imp fun D hD q hq => hD q (by simp [hq]))
end
end

section
open PySem PySem.W PyProof.Rows PySem.Calls PyProof.Rows.LCg
section
variable {w : World} {mean : ExcName → Option Value} {mg mb : Str → Option Value} {dp un : Nat} {gd : Option (List Code)} {outer : List Env} {A₀ : Around} {h₀ : Heap} {L : Addr} {m : Str → Option Value} {s : Shared} {E : Value → Shared → Prop}
  {c1 c2 c3 c4 c5 : Addr} {o3 o4 o5 : Obj} {d : Array UInt8} {n p : Int} {td tn tp : Tok} {rest : List (Addr × Obj)} {LS TL DL S DS BA H DH M : Addr} {vs : List Value} {ps : List (Array UInt8)} {t1 t2 t3 u1 u2 u3 u4 tk tq tu : Tok}


local macro_rules | `(tactic| walk_at "call builtin:len") => `(tactic| (k_here; (with_reducible show wpAny _ _ (call (Value.builtin "len") [Value.bytes _ _]) _ _ _); (refine len_bytes (by omega) ?_)))
local macro_rules | `(tactic| walk_at "loadName") => `(tactic| (k_here; (with_reducible show wpAny _ _ (loadName (envX _ _ _ _ _ _) _) _ _ _); (refine wpAny_loadName_local rfl rfl (Fr.ns (by k_asm)) (by assumption) ?_)))
noncomputable def forP : List Stmt := forB (turnS 9)
set_option maxHeartbeats 1000000 in
theorem bodyP {Q : Flow → Shared → Prop} {b : Array UInt8} {t : Tok} {p0 : Int} {news : List (Addr × Obj)} (CC : CL w mean mg mb A₀ outer h₀) (hd : dp + 9 < recursionLimit) (hu : un + 100 < cLine) (F : Fr h₀ L s.heap m)
   (N : News h₀ L s.heap news) (lb : m (Str.ofString "piece") = some (.bytes b t)) (lp : m (Str.ofString "place") = some (.int p0 tp)) (hsz : b.size ≤ 1000000)
   (hn : ∀ h' tk' t', Fr h₀ L h' (fun y => if y = Str.ofString "place" then some (.int (p0 + (b.size : Int)) t') else m y) → News h₀ L h' news → Q .next { s with heap := h', toks := tk' }) :
   wpAny (model pwS w) (ktrTop dp un gd lawNm lawSc L 626 (.ref 625) (lawCl c1 c2 c3 c4 c5) outer) (execs forP (envX lawNm lawSc L 626 (.ref 625) (lawCl c1 c2 c3 c4 c5))) Q E s := by
  have CC' := CC
  obtain ⟨B, X, T⟩ := CC'
  show wpAny _ _ (execs (_ :: _) _) _ _ _
  k_steps
  all_goals exact hn _ _ _ (by assumption) (by assumption)

theorem place_loop {Q : Flow → Shared → Prop} {lu : Addr} {us : List Value} {qs : List (Array UInt8)} {k : Nat} {p0 : Int} {news : List (Addr × Obj)} (CC : CL w mean mg mb A₀ outer h₀) (hd : dp + 9 < recursionLimit) (hu : un + 100 < cLine) (F : Fr h₀ L s.heap m)
   (N : News h₀ L s.heap news) (hl : (lu, listOf us.toArray k) ∈ news) (hb : BytesAre us qs) (hsz : ∀ b ∈ qs, b.size ≤ 1000000) (lp : m (Str.ofString "place") = some (.int p0 tp))
   (hQ : ∀ m' h' tk' tp', (∀ z, z ≠ Str.ofString "piece" → z ≠ Str.ofString "place" → m' z = m z) → m' (Str.ofString "place") = some (.int (p0 + ((qs.map (·.size)).sum : Nat)) tp') → Fr h₀ L h' m' → News h₀ L h' news → Q .next { s with heap := h', toks := tk' }) :
   wpAny (model pwS w) (ktrTop dp un gd lawNm lawSc L 626 (.ref 625) (lawCl c1 c2 c3 c4 c5) outer) (pyIter (.ref lu)) (fun it s₂ => LoopAtV pwS w (ktrTop dp un gd lawNm lawSc L 626 (.ref 625) (lawCl c1 c2 c3 c4 c5) outer) h₀ (envX lawNm lawSc L 626 (.ref 625) (lawCl c1 c2 c3 c4 c5)) (Str.ofString "piece") forP Q E it s₂) E s := by
  have hlen := hb.len
  refine kdl_iter (env := envX lawNm lawSc L 626 (.ref 625) (lawCl c1 c2 c3 c4 c5)) (fun i m₁ nx => nx = news ∧ (∀ z, z ≠ Str.ofString "piece" → z ≠ Str.ofString "place" → m₁ z = m z) ∧ ∃ t, m₁ (Str.ofString "place") = some (.int (p0 + (((qs.take i).map (·.size)).sum : Nat)) t)) rfl hl F N ⟨rfl, fun _ _ _ => rfl, tp, by simpa using lp⟩ ?_ ?_
  · rintro i v m₁ news₁ h tk own hv hoff hl1 ⟨rfl, hm, t1, hp⟩ F1 N1
    have hi : i < qs.length := by
      rcases Nat.lt_or_ge i us.length with h | h
      · omega
      · rw [List.getElem?_eq_none h] at hv; cases hv
    obtain ⟨t, e⟩ := hb.get i hi
    rw [e] at hv
    obtain rfl := Option.some.inj hv
    refine bodyP (s := { s with heap := h, toks := tk }) CC hd hu F1 N1 rfl (by exact hp) (hsz _ (List.getElem_mem hi)) fun h' tk' t' F2 N2 => ?_
    refine InvEndG.intro F2 N2 ⟨hl1, rfl, fun z z1 z2 => (if_neg z2).trans ((if_neg z1).trans (hm z z1 z2)), t', ?_⟩ hoff (fun q hq => List.mem_append_left _ hq) (fun q hq => List.mem_append_right _ hq)
    show (if Str.ofString "place" = Str.ofString "place" then _ else _) = _
    rw [if_pos rfl]
    have e2 : ((qs.take (i + 1)).map (·.size)).sum = ((qs.take i).map (·.size)).sum + qs[i].size := by
      rw [List.take_succ_eq_append_getElem hi, List.map_append, List.sum_append]; simp only [List.map_cons, List.map_nil, List.sum_cons, List.sum_nil, Nat.add_zero]
    rw [e2]
    congr 2
    omega
  · rintro m₁ news₁ h tk ⟨rfl, hm, t1, hp⟩ F1 N1
    refine hQ m₁ h tk t1 hm ?_ F1 N1
    rwa [hlen, List.take_length] at hp
end
end

section
open PySem PySem.W PyProof.Rows PySem.Calls PyProof.Rows.LCg
/-- a place where the walk halts -/
noncomputable def Halt (P : Prop) : Prop := P
theorem Halt.mk {P : Prop} (h : Halt P) : P := h
section
variable {w : World} {mean : ExcName → Option Value} {mg mb : Str → Option Value} {dp un : Nat} {gd : Option (List Code)} {outer : List Env} {A₀ : Around} {h₀ : Heap} {L : Addr} {m : Str → Option Value} {s : Shared} {E : Value → Shared → Prop}
  {c1 c2 c3 c4 c5 : Addr} {o3 o4 o5 : Obj} {d : Array UInt8} {n p : Int} {td tn tp : Tok} {rest : List (Addr × Obj)} {LS TL DL S DS BA H DH M : Addr} {vs : List Value} {ps : List (Array UInt8)} {t1 t2 t3 u1 u2 u3 u4 tk tq tu : Tok}


local macro_rules | `(tactic| walk_at "exec For Name Subscript cons nil") => `(tactic| (refine Halt.mk ?_))
local macro_rules | `(tactic| walk_at "pyIter ref") => `(tactic| (refine Halt.mk ?_))
local macro_rules | `(tactic| walk_at "compareOp NotEq ref ref") => `(tactic| (k_here; (refine ne_same (by assumption) (by assumption) (by assumption) (by assumption) (by show _ + _ + _ < _; dsimp only [ktrTop]; omega) ?_)))
local macro_rules | `(tactic| walk_at "call ref") => `(tactic| (k_here; k_dflt (refine' tell_spec ?B ?X ?T ?hk ?hd ?hu ?F ?hS ?hD ?N ?_; (case B => k_asm); (case X => k_asm); (case T => k_asm); (case hk => first | exact rfl | assumption); (case F => k_asm); (case N => k_asm); (case hS => k_mem); (case hD => k_mem); (case hd => (try dsimp only [ktrTop]); omega); (case hu => (try dsimp only [ktrTop]); omega)); intro h' tk' t' F' N'; (try dsimp only)))
set_option maxHeartbeats 1000000 in
theorem turn_end {Q : Flow → Shared → Prop} {T1 D1 : Addr} {tv dv : Array Value} {u : Nat} {p0 : Int} (CC : CL w mean mg mb A₀ outer h₀) (hd : dp + 9 < recursionLimit) (hu : un + 100 < cLine) (hE : PassesOwn (model pwS w) (ktrTop dp un gd lawNm lawSc L 626 (.ref 625) (lawCl c1 c2 c3 c4 c5) outer) (envX lawNm lawSc L 626 (.ref 625) (lawCl c1 c2 c3 c4 c5)) E)
   (C : HC w ((LS, lst vs) :: (c5, o5) :: rest) S DS BA H DH M d n u1 u2 u3 u4) (F : Fr h₀ L s.heap m)
   (N : News h₀ L s.heap ((DS, sD w.params BA p t1 t2 t3) :: (LS, lst vs) :: (c5, o5) :: rest)) (hv : BytesAre vs ps) (hps : ps.length ≤ 60) (hvl : vs.length = ps.length) (hbs : ∀ b ∈ ps, b.size ≤ 1000000) (d5 : o5.data = .cell (some (.ref LS)))
   (lt : m (Str.ofString "told") = some (.ref T1)) (ld : m (Str.ofString "due") = some (.ref D1)) (lu : m (Str.ofString "used") = some (.int (u : Nat) tu)) (lp : m (Str.ofString "place") = some (.int p0 tp)) (ls : m (Str.ofString "stream") = some (.ref S))
   (l1 : s.heap.IsList T1 tv) (l2 : s.heap.IsList D1 dv) (hsz : tv.size = dv.size) (hj : ∀ j (h1 : j < tv.size) (h2 : j < dv.size), EqV s.heap 2 tv[j] dv[j])
   (huu : u ≤ ps.length) (hsum : p0 + (((ps.take u).map (·.size)).sum : Nat) = p)
   (hQ : ∀ m' h' tk' tp' t3', (∀ z, z ≠ Str.ofString "piece" → z ≠ Str.ofString "place" → m' z = m z) → m' (Str.ofString "place") = some (.int p tp') → Fr h₀ L h' m' → News h₀ L h' ((DS, sD w.params BA p t1 t2 t3') :: (LS, lst vs) :: (c5, o5) :: rest) → Q .next { s with heap := h', toks := tk' }) :
   wpAny (model pwS w) (ktrTop dp un gd lawNm lawSc L 626 (.ref 625) (lawCl c1 c2 c3 c4 c5) outer) (execs (forBody.drop 8) (envX lawNm lawSc L 626 (.ref 625) (lawCl c1 c2 c3 c4 c5))) Q E s := by
  have CC' := CC
  obtain ⟨B, X, T⟩ := CC'
  have eS := C.hne _ C.hS
  replace N := news_more N (.tail _ C.hS)
  show wpAny _ _ (execs (_ :: _) _) _ _ _
  k_steps
  show wpAny _ _ (exec (.For (.Name _ _) _ forP [] _) _) _ _ _
  refine For_invV h₀ rfl rfl ?_ (hE := hE)
  k_steps
  rename_i D1' h1 F1 N1 l1'
  refine place_loop (us := vs.take u) (qs := ps.take u) CC hd hu F1 N1 (.head _) (hv.take u) (fun b hb => hbs b (List.mem_of_mem_take hb)) lp fun m' h2 tk2 tp2 hm hp2 F2 N2 => ?_
  rw [hsum] at hp2
  have ls2 := (hm (Str.ofString "stream") (by decide) (by decide)).trans ls
  show wpAny _ _ (execs (_ :: _) _) _ _ _
  clear F N F1 N1 l1 l2 hj
  k_steps
  · rename_i hpp
    exact absurd rfl hpp
  · exact hQ m' _ _ tp2 t3 hm hp2 (by assumption) (news_less (news_less (by assumption)))
end
end

section
open PySem PySem.W PyProof.Rows PySem.Calls PyProof.Rows.LCg
theorem rem_ex {d : Array UInt8} {n : Int} (hn : 1 ≤ n) : ∀ (k : Nat) (p : Int), 0 ≤ p → p ≤ d.size → ((d.size : Int) - p).toNat ≤ k → ∃ ps, Rem d n p ps := by
  intro k
  induction k with
  | zero =>
    intro p h0 h1 hk
    obtain rfl : p = d.size := by omega
    exact ⟨_, .nil⟩
  | succ k ih =>
    intro p h0 h1 hk
    by_cases h : p = d.size
    · subst h; exact ⟨_, .nil⟩
    · obtain ⟨ps, R⟩ := ih (min (p + n) d.size) (by omega) (by omega) (by omega)
      exact ⟨_, .cons h0 (by omega) R⟩
theorem Rem.count {d : Array UInt8} {n p : Int} {ps : List (Array UInt8)} (hn : 1 ≤ n) (R : Rem d n p ps) : ps.length ≤ d.size := by
  by_cases h0 : ps.length = 0
  · omega
  · have g := R.get hn (ps.length - 1) (by omega)
    have g2 : ((ps.length - 1 : Nat) : Int) * 1 ≤ ((ps.length - 1 : Nat) : Int) * n := Int.mul_le_mul_of_nonneg_left hn (by omega)
    omega
theorem Rem.small {d : Array UInt8} {n p : Int} {ps : List (Array UInt8)} (R : Rem d n p ps) : ∀ b ∈ ps, b.size ≤ d.size := by
  induction R with
  | nil => intro b h; cases h
  | cons h0 h1 R ih =>
    intro b hb
    rcases List.mem_cons.mp hb with rfl | hb
    · rw [Array.size_extract]; omega
    · exact ih b hb
theorem HC.front {w : World} {rest pre : List (Addr × Obj)} {S DS BA H DH M : Addr} {d : Array UInt8} {n : Int} {u1 u2 u3 u4 : Tok} (C : HC w rest S DS BA H DH M d n u1 u2 u3 u4) (h : ∀ q ∈ pre, q.1 ≠ DS) : HC w (pre ++ rest) S DS BA H DH M d n u1 u2 u3 u4 :=
  ⟨C.h1, C.h2, C.hsz, List.mem_append_right _ C.hH, List.mem_append_right _ C.hDH, List.mem_append_right _ C.hS, List.mem_append_right _ C.hB, fun q hq => (List.mem_append.mp hq).elim (h q) (C.hne q)⟩
section
variable {w : World} {mean : ExcName → Option Value} {mg mb : Str → Option Value} {dp un : Nat} {gd : Option (List Code)} {outer : List Env} {A₀ : Around} {h₀ : Heap} {L : Addr} {m : Str → Option Value} {s : Shared} {E : Value → Shared → Prop}
  {c1 c2 c3 c4 c5 : Addr} {o3 o4 o5 : Obj} {d : Array UInt8} {n p : Int} {td tn tp : Tok} {rest : List (Addr × Obj)} {LS TL DL S DS BA H DH M : Addr} {vs : List Value} {ps : List (Array UInt8)} {t1 t2 t3 u1 u2 u3 u4 tk tq tu : Tok}


set_option maxHeartbeats 1000000 in
theorem iter_if {Q : Flow → Shared → Prop} {oT oD : Obj} (CC : CL w mean mg mb A₀ outer h₀) (hd : dp + 9 < recursionLimit) (hu : un + 100 < cLine) (C : HC w rest S DS BA H DH M d n u1 u2 u3 u4) (F : Fr h₀ L s.heap m)
   (N : News h₀ L s.heap ((DL, oD) :: (TL, oT) :: (DS, sD w.params BA p t1 t2 t3) :: rest)) (R : Rem d n p ps) (hT : @LT.lt Nat _ DS TL) (hD : @LT.lt Nat _ DS DL) (lh : m (Str.ofString "hand") = some (.ref H))
   (hQ : ∀ h' tk', Fr h₀ L h' m → News h₀ L h' ((DL, oD) :: (TL, oT) :: (DS, sD w.params BA p t1 t2 t3) :: rest) → Q .next { s with heap := h', toks := tk' }) :
   wpAny (model pwS w) (ktrTop dp un gd lawNm lawSc L 626 (.ref 625) (lawCl c1 c2 c3 c4 c5) outer) (exec (turnS 6) (envX lawNm lawSc L 626 (.ref 625) (lawCl c1 c2 c3 c4 c5))) Q E s := by
  have CC' := CC
  obtain ⟨B, X, T⟩ := CC'
  show wpAny _ _ (exec (.If _ _ _ _) _) _ _ _
  k_steps
  all_goals exact hQ _ _ (by assumption) (by assumption)

local macro_rules | `(tactic| walk_at "exec Assign cons ListComp") => `(tactic| (refine Halt.mk ?_))
local macro_rules | `(tactic| walk_at "exec If Compare cons cons") => `(tactic| (refine Halt.mk ?_))
local macro_rules | `(tactic| walk_at "exec If BoolOp cons nil") => `(tactic| (refine Halt.mk ?_))
local macro_rules | `(tactic| walk_at "call builtin:len") => `(tactic| (k_here; (with_reducible show wpAny _ _ (call (Value.builtin _) [Value.ref _]) _ _ _); (refine len_lo (by kmk_list) (by omega) ?_); intro _ _))
set_option maxHeartbeats 2000000 in
theorem turn {Q : Flow → Shared → Prop} {x : Int} {tx : Tok} {v₀ : Option Value} (CC : CL w mean mg mb A₀ outer h₀) (hd : dp + 9 < recursionLimit) (hu : un + 100 < cLine) (hE : PassesOwn (model pwS w) (ktrTop dp un gd lawNm lawSc L 626 (.ref 625) (lawCl c1 c2 c3 c4 c5) outer) (envX lawNm lawSc L 626 (.ref 625) (lawCl c1 c2 c3 c4 c5)) E)
   (C : HC w rest S DS BA H DH M d n u1 u2 u3 u4) (F : Fr h₀ L s.heap m)
   (N : News h₀ L s.heap ((DS, sD w.params BA p t1 t2 t3) :: (c5, o5) :: (c3, o3) :: (c4, o4) :: rest))
   (n5 : @Ne Nat c5 DS) (n3 : @Ne Nat c3 DS) (n4 : @Ne Nat c4 DS) (n53 : @Ne Nat c3 c5) (n54 : @Ne Nat c4 c5) (n5r : ∀ q ∈ rest, q.1 ≠ c5)
   (d3 : o3.data = .cell (some (.bytes d td))) (d4 : o4.data = .cell (some (.int n tn))) (d5 : o5.data = .cell v₀) (hn2 : n ≤ 10) (hs0 : 0 < d.size) (hs : d.size ≤ 60) (h0 : 0 ≤ p) (h1 : p ≤ d.size)
   (lx : m (Str.ofString "x") = some (.int x tx)) (lh : m (Str.ofString "hand") = some (.ref H)) (ls : m (Str.ofString "stream") = some (.ref S)) (lp : m (Str.ofString "place") = some (.int p tp))
   (hQ : ∀ m' h' tk' (p' : Int) o5' v' t3' tp', 0 ≤ p' → p' ≤ d.size → o5'.data = .cell (some v') → m' (Str.ofString "hand") = some (.ref H) → m' (Str.ofString "stream") = some (.ref S) → m' (Str.ofString "place") = some (.int p' tp') → Fr h₀ L h' m' →
      News h₀ L h' ((DS, sD w.params BA p' t1 t2 t3') :: (c5, o5') :: (c3, o3) :: (c4, o4) :: rest) → Q .next { s with heap := h', toks := tk' }) :
   wpAny (model pwS w) (ktrTop dp un gd lawNm lawSc L 626 (.ref 625) (lawCl c1 c2 c3 c4 c5) outer) (execs forBody (envX lawNm lawSc L 626 (.ref 625) (lawCl c1 c2 c3 c4 c5))) Q E s := by
  have CC' := CC
  obtain ⟨B, X, T⟩ := CC'
  have hn := C.h1
  obtain ⟨ps, R⟩ := rem_ex hn _ p h0 h1 (Nat.le_refl _)
  have hps := R.count hn
  show wpAny _ _ (execs (_ :: _) _) _ _ _
  k_steps
  show wpAny _ _ (exec (turnS 2) _) _ _ _
  rename_i F1 N1
  obtain ⟨m1, F1, ⟨tk1, a_k⟩, ⟨tq1, a_q⟩, a_h, a_s, a_p⟩ : ∃ m1, Fr h₀ L _ m1 ∧ (∃ t, m1 (Str.ofString "kind") = some (.int (x.fmod 8) t)) ∧ (∃ t, m1 (Str.ofString "q") = some (.int (x.fdiv 8) t)) ∧ m1 (Str.ofString "hand") = some (.ref H) ∧ m1 (Str.ofString "stream") = some (.ref S) ∧ m1 (Str.ofString "place") = some (.int p tp) := ⟨_, F1, ⟨_, rfl⟩, ⟨_, rfl⟩, lh, ls, lp⟩
  refine left_spec (pre := [(DS, sD w.params BA p t1 t2 t3)]) (post := (c3, o3) :: (c4, o4) :: rest) CC (by omega) (by omega) F1 N1 a_p (by simp) (by simp) d3 d4 d5 R hn hn2 hs (fun q hq => ?_) (fun q hq => ?_) fun LS vs h2 tk2 o5' hv F2 N2 e5 off => ?_
  · rw [List.mem_singleton.mp hq]; exact Ne.symm n5
  · rcases List.mem_cons.mp hq with rfl | hq
    · exact n53
    · rcases List.mem_cons.mp hq with rfl | hq
      · exact n54
      · exact n5r q hq
  have N3 := news_sub (l' := (DS, sD w.params BA p t1 t2 t3) :: (LS, lst vs) :: (c5, o5') :: (c3, o3) :: (c4, o4) :: rest) N2 (fun q hq => by
    simp only [List.mem_cons, List.mem_append, List.not_mem_nil, or_false] at hq ⊢
    rcases hq with h | h | h | h | h | h <;> simp [h])
  have hvl := hv.len
  have oS : @Ne Nat DS LS := off (DS, _) (.head _)
  have o5S : @Ne Nat c5 LS := off (c5, _) (.tail _ (.head _))
  have o3S : @Ne Nat c3 LS := off (c3, _) (.tail _ (.tail _ (.head _)))
  have o4S : @Ne Nat c4 LS := off (c4, _) (.tail _ (.tail _ (.tail _ (.head _))))
  have oR : ∀ q ∈ rest, q.1 ≠ LS := fun q hq => off q (.tail _ (.tail _ (.tail _ (.tail _ hq))))
  have C2 : HC w ((LS, lst vs) :: (c5, o5') :: (c3, o3) :: (c4, o4) :: rest) S DS BA H DH M d n u1 u2 u3 u4 := HC.front (pre := [(LS, lst vs), (c5, o5'), (c3, o3), (c4, o4)]) C fun q hq => by
    simp only [List.mem_cons, List.not_mem_nil, or_false] at hq
    rcases hq with rfl | rfl | rfl | rfl
    · exact Ne.symm oS
    · exact n5
    · exact n3
    · exact n4
  clear F1 N1 N2 off
  show wpAny _ _ (execs (_ :: _) _) _ _ _
  k_steps
  rename_i TL hh1 lT hh2 kk1 DL hh3 lD hh4 kk2 tu4 kk3 hh5 F4 N4
  have hT := lT.1
  have hD := lD.2.1
  have hTD := lD.1
  have allT := allLt_mem lT.2.2.2.2.2
  have allD := allLt_mem lD.2.2.2.2.2.2
  obtain ⟨m4, F4, b_t, b_d, b_u, b_k, b_q, b_h, b_s, b_p⟩ : ∃ m4, Fr h₀ L hh5 m4 ∧ m4 (Str.ofString "told") = some (.ref TL) ∧ m4 (Str.ofString "due") = some (.ref DL) ∧ m4 (Str.ofString "used") = some (.int (ps.length : Nat) tu4) ∧ m4 (Str.ofString "kind") = some (.int (x.fmod 8) tk1) ∧ m4 (Str.ofString "q") = some (.int (x.fdiv 8) tq1) ∧ m4 (Str.ofString "hand") = some (.ref H) ∧ m4 (Str.ofString "stream") = some (.ref S) ∧ m4 (Str.ofString "place") = some (.int p tp) := ⟨_, F4, rfl, rfl, by rw [← hvl]; rfl, a_k, a_q, a_h, a_s, a_p⟩
  clear a_k a_q a_h a_s a_p
  show wpAny _ _ (exec (turnS 6) _) _ _ _
  refine iter_if (s := ⟨hh5, s.gens, s.drawn, _, s.os⟩) CC hd hu C2 F4 N4 R hT hD b_h fun h5 tk5 F5 N5 => ?_
  show wpAny _ _ (execs (turnS 7 :: forBody.drop 8) _) _ _ _
  refine wpAny_execs_cons ?_
  have hps6 : ps.length ≤ 60 := by omega
  have hB : BrEnd w h₀ L ((LS, lst vs) :: (c5, o5') :: (c3, o3) :: (c4, o4) :: rest) DS BA t1 t2 d m4 ps ⟨h5, s.gens, s.drawn, tk5, s.os⟩ (fun f s' =>
      match f with
      | Flow.next => wpAny (model pwS w) (ktrTop dp un gd lawNm lawSc L 626 (Value.ref 625) (lawCl c1 c2 c3 c4 c5) outer) (execs (List.drop 8 forBody) (envX lawNm lawSc L 626 (Value.ref 625) (lawCl c1 c2 c3 c4 c5))) Q E s'
      | f => Q f s') := by
    intro h' tk' m' u p0 p' tp' T1 D1 tv dv tu' t3' F' N' q1 q2 q3 q4 q5 q6 l1 l2 q7 q8 q9 r0 r1 r2
    show wpAny _ _ (execs (forBody.drop 8) _) _ _ _
    refine turn_end (s := ⟨h', s.gens, s.drawn, tk', s.os⟩) CC hd hu hE C2 F' N' hv hps6 hvl (fun b hb => by have := R.small b hb; omega) e5 q1 q2 q3 q4 (q6.trans b_s) l1 l2 q7 q8 q9 r2 fun m2 h6 tk6 tp6 t36 hm hp F6 N6 => ?_
    refine hQ m2 h6 tk6 p' o5' _ t36 tp6 r0 r1 e5 ((hm _ (by decide) (by decide)).trans (q5.trans b_h)) ((hm _ (by decide) (by decide)).trans (q6.trans b_s)) hp F6 (news_sub N6 fun q hq => ?_)
    simp only [List.mem_cons] at hq ⊢
    rcases hq with h | h | h | h | h <;> simp [h]
  have nT : ∀ q ∈ rest, q.1 ≠ TL := fun q hq => Nat.ne_of_lt (allT q hq)
  have nD : ∀ q ∈ rest, q.1 ≠ DL := fun q hq => Nat.ne_of_lt (allD q hq)
  have nT2 : ∀ q ∈ (c3, o3) :: (c4, o4) :: rest, q.1 ≠ TL := fun q hq => by
    rcases List.mem_cons.mp hq with rfl | hq
    · exact Nat.ne_of_lt lT.2.2.2.1
    · rcases List.mem_cons.mp hq with rfl | hq
      · exact Nat.ne_of_lt lT.2.2.2.2.1
      · exact nT q hq
  have nD2 : ∀ q ∈ (c3, o3) :: (c4, o4) :: rest, q.1 ≠ DL := fun q hq => by
    rcases List.mem_cons.mp hq with rfl | hq
    · exact Nat.ne_of_lt lD.2.2.2.2.1
    · rcases List.mem_cons.mp hq with rfl | hq
      · exact Nat.ne_of_lt lD.2.2.2.2.2.1
      · exact nD q hq
  refine kind_go (s := ⟨h5, s.gens, s.drawn, tk5, s.os⟩) (k := x.fmod 8) CC F5 N5 b_k (fmod_hi x (by omega)) (fun c hc h8 tk' => ?_) 6 0 rfl (fmod_lo x (by omega)) tk5
  match c, h8 with
  | 0, _ => exact kind0 (s := ⟨h5, s.gens, s.drawn, tk', s.os⟩) CC hd hu C2 F5 N5 hT hD hTD lT.2.1 lD.2.2.1 lT.2.2.1 lD.2.2.2.1 nT2 nD2 R hv hps6 hvl e5 b_t b_d b_u b_h b_p hB
  | 1, _ => exact kind1 (s := ⟨h5, s.gens, s.drawn, tk', s.os⟩) CC hd hu C2 F5 N5 hT hD hTD lT.2.1 lD.2.2.1 lT.2.2.1 lD.2.2.2.1 nT2 nD2 R hv hps6 hvl e5 b_t b_d b_u b_h b_p b_q hE hB
  | 2, _ => exact kind2 (s := ⟨h5, s.gens, s.drawn, tk', s.os⟩) CC hd hu C2 F5 N5 hT hD hTD lT.2.1 lD.2.2.1 lT.2.2.1 lD.2.2.2.1 nT nD R hv hps6 hvl e5 b_t b_d b_u b_h b_p b_q lT.2.2.2.1 lD.2.2.2.2.1 lT.2.2.2.2.1 lD.2.2.2.2.2.1 d3 d4 hs hs0 hB
  | 3, _ => exact kind3 (s := ⟨h5, s.gens, s.drawn, tk', s.os⟩) CC hd hu C2 F5 N5 hT hD hTD lT.2.1 lD.2.2.1 lT.2.2.1 lD.2.2.2.1 nT2 nD2 R hv hps6 hvl e5 b_t b_d b_u b_h b_p hB
  | 4, _ => exact kind4 (s := ⟨h5, s.gens, s.drawn, tk', s.os⟩) CC hd hu C2 F5 N5 hT hD hTD lT.2.1 lD.2.2.1 lT.2.2.1 lD.2.2.2.1 nT2 nD2 R hv hps6 hvl e5 b_t b_d b_u b_h b_p hB
  | 5, _ => exact kind5 (s := ⟨h5, s.gens, s.drawn, tk', s.os⟩) CC hd hu C2 F5 N5 hT hD hTD lT.2.1 lD.2.2.1 lT.2.2.1 lD.2.2.2.1 nT2 nD2 R hv hps6 hvl e5 b_t b_d b_u b_h b_p hE hB
  | 6, _ => exact kind6 (s := ⟨h5, s.gens, s.drawn, tk', s.os⟩) CC hd hu C2 F5 N5 hT hD hTD lT.2.1 lD.2.2.1 lT.2.2.1 lD.2.2.2.1 nT2 nD2 R hv hps6 hvl e5 b_t b_d b_u b_h b_p hB
  | 7, _ => exact kind7 (s := ⟨h5, s.gens, s.drawn, tk', s.os⟩) CC hd hu C2 F5 N5 hT hD hTD lT.2.1 lD.2.2.1 lT.2.2.1 lD.2.2.2.1 nT2 nD2 R hv hps6 hvl e5 b_t b_d b_u b_h b_p b_q b_s (by simp) d3 hs hB
end
end
end

section
open PySem PySem.W PyProof.Rows PySem.Calls Builtin
/-- a class of the text whose __new__ is IOBase's -/
structure NewK (C : Addr) : Prop where
  chk : ∀ P, peek (K P) ⟨pwS, P⟩ (checkBuiltinCall "object.__new__" ⟨[.ref C], []⟩) = some ()
  here : ∀ P, peek (K P) ⟨pwS, P⟩ (Bind.madeHere "object.__new__" (.ref C)) = some ()
  cls : ∀ P, ∃ oc od cd sl, (K P).lookup C = some ⟨oc, od, .cls cd, sl⟩ ∧ cd.abstract = false ∧ cd.hasDel = false
theorem newB : NewK 365 := ⟨fun P => by kernel_rfl, fun P => by kernel_rfl, fun P => ⟨_, _, _, _, rfl, rfl, rfl⟩⟩
theorem newS : NewK 612 := ⟨fun P => by kernel_rfl, fun P => by kernel_rfl, fun P => ⟨_, _, _, _, rfl, rfl, rfl⟩⟩
section
variable {w : World} {A : Around} {E : Value → Shared → Prop} {C : Addr}
set_option maxHeartbeats 4000000 in
theorem obj_new0 {R : Result → Shared → Prop} {h : Heap} {g : Array GenState} {d : Drawn} {t : Nat} {os : OsState} (Y : NewK C) (X : (K w.params).In h)
    (hq : R (.ok (.ret (.ref (h.objs.size + 1)))) ⟨(h.push emptyDict).push (instObj C h.objs.size), g, d, t, os⟩) :
    codeAny (model pwS w) A (.call (.builtin "object.__new__") ⟨[.ref C], []⟩) R ⟨h, g, d, t, os⟩ := by
  obtain ⟨oc, od, cd, sl, hC0, e1, e2⟩ := Y.cls w.params
  have hC := X _ _ hC0
  have F := PySem.F.objNew
  refine codeAny_call_builtin_code (Code.quiet_builtin _ F.quiet) ?_
  refine Looks.here (Looks.of_peek (M := model pwS w) X (Y.chk w.params)) ?_
  have here : Looks (model pwS w) h (Bind.madeHere "object.__new__" (.ref C)) () := Looks.of_peek (M := model pwS w) X (Y.here w.params)
  refine codeAny_builtin F.entry ?_
  unfold Builtin.«object.__new__»
  have fin : ∀ A', wpAny (model pwS w) A' (do
      let d ← if typeHasDict (.ref C) then some <$> alloc { cls := .type "dict", data := .dict #[] } else pure none
      ret (← newObj (.ref C) .plain d)) (fun fin s' => match fin with | .done f => R (.ok f) s' | .again c' => c'.quiet = true ∧ codeAny (model pwS w) A c' R s') (fun e s' => R (.error e) s') ⟨h, g, d, t, os⟩ := by
    intro A'
    show wpAny _ _ ((alloc emptyDict >>= fun x => pure (some x)) >>= _) _ _ _
    refine wpAny_bind (wpAny_bind (wpAny_alloc (wpAny_pure (wpAny_bind ?_))))
    show wpAny _ _ (newObjAsIs _ _ _) _ _ _
    unfold newObjAsIs classHasDel
    refine wpAny_bind (wpAny_alloc (wpAny_bind (wpAny_bind (wpAny_load (Heap.get?_push_of_some _ (Heap.get?_push_of_some _ hC)) (wpAny_pure ?_)))))
    rw [e2]
    refine wpAny_pure (wpAny_pure ?_)
    show R _ _
    rw [Heap.size_push]
    exact hq
  repeat (first | simp only [e1, Bool.false_eq_true, if_false] | exact fin _ | lk)
theorem obj_new {s : Shared} {h₀ : Heap} {L : Addr} {m : Str → Option Value} {news : List (Addr × Obj)} {Q : Value → Shared → Prop} (Y : NewK C) (X : (K w.params).In h₀) (F : Fr h₀ L s.heap m) (N : News h₀ L s.heap news)
    (h : ∀ x dx h', Fr h₀ L h' m → News h₀ L h' ((x, instObj C dx) :: (dx, emptyDict) :: news) → (∀ p ∈ news, p.1 < dx) → dx < x → Q (.ref x) { s with heap := h' }) :
    wpAny (model pwS w) A (call (.builtin "object.__new__") [.ref C]) Q E s := by
  have X' := X.keeps F.keep
  obtain ⟨hh, g, d, t, os⟩ := s
  refine wpAny_call (obj_new0 Y X' ?_)
  have N' := (N.push F emptyDict).push (F.push _) (instObj C hh.objs.size)
  rw [Heap.size_push] at N'
  exact h _ hh.objs.size _ ((F.push _).push _) N' (fun p hp => Heap.lt_size (N p hp).1) (Nat.lt_succ_self _)
end
section
variable {w : World} {mean : ExcName → Option Value} {mg mb : Str → Option Value} {dp un : Nat} {gd : Option (List Code)} {cn : Str} {cs : Scope} {a : Addr} {ccd : Value} {cl : List (Str × Addr)} {outer : List Env} {A₀ : Around} {base h₀ : Heap} {L : Addr} {m : Str → Option Value} {s : Shared} {Q E : Value → Shared → Prop}
  (B : Below A₀ base outer h₀) (X : (K w.params).In h₀) (T : Top qv Lz mean mg mb h₀) (hk : cs.kind = .function) (hd : dp + 5 < recursionLimit) (hu : un + 60 < cLine) (F : Fr h₀ L s.heap m)
  {news : List (Addr × Obj)}
include B X T hk hd hu F
local macro_rules | `(tactic| k_all) => `(tactic| assumption)
local macro_rules | `(tactic| walk_at "my enter") => `(tactic| (refine' kp_both ?k1 ?k2 ?k3 ?k4 ?k5 ?kA ?kF ?kK ?k6 ?k7 ?k8 ?kV ?kX ?kQ ?kM ?kN ?kD ?kR ?kP ?kS ?kT ?kB ?_ ?c2 ?c3 ?c4 ?c5; (case kA => exact rfl); (case kF => exact rfl); (case kK => assumption); (case k1 => k_asm); (case k2 => k_asm); (case k3 => k_asm); (case k4 => k_asm); (case k5 => k_asm); (case k6 => k_is); (case k7 => k_is); (case k8 => dsimp only [ktrTop]; omega); (case kV => kp_lit); (case kX => kp_lit); (case kQ => exact rfl); (case kM => exact rfl); (case kN => exact rfl); (case kD => kp_flats); (case kR => exact rfl); (case kP => exact rfl); (case kS => exact fun _ => rfl); (case kT => exact fun _ _ => rfl); (case kB => exact fun _ _ => locs rfl); (case c5 => decide); (case c2 => exact rfl); (case c3 => exact rfl); (case c4 => exact rfl); k_whole; intro C' D' o' g' L' h' tk' l1 l2 lo' hs' fs' FG' F' N' B' X' T'; (try k_lt l1); (try k_lt2 l2); (try dsimp only); (try k_lift B'); (try k_fold)))
local macro_rules | `(tactic| walk_at "call builtin:object.__new__") => `(tactic| (k_here; k_dflt (refine obj_new (by first | exact newB | exact newS) (by k_asm) (by k_asm) (by k_asm) ?_); intro x' d' h' F' N' l1 l2))
set_option maxHeartbeats 1000000 in
theorem newB_code {R : Result → Shared → Prop} (N : News h₀ L s.heap news)
    (hret : ∀ x dx h' tk', Fr h₀ L h' m → News h₀ L h' ((x, instObj 365 dx) :: (dx, emptyDict) :: news) → (∀ p ∈ news, p.1 < dx) → dx < x → R (.ok (.ret (.ref x))) { s with heap := h', toks := tk' }) :
    codeAny (model pwS w) (ktrTop dp un gd cn cs L a ccd cl outer) (.call (.ref 105) ⟨[.ref 365], []⟩) R s := by
  k_dflt (walk_at "my enter")
  k_steps
  all_goals (rename_i l1 l2 kF kN Tc kX; exact hret _ _ _ _ kF (fun q hq => kN q (by simp only [List.mem_cons] at hq ⊢; rcases hq with h | h | h <;> simp [h])) (fun p hp => l1 p (by simp [hp])) l2)
set_option maxHeartbeats 1000000 in
theorem newS_code {R : Result → Shared → Prop} (N : News h₀ L s.heap news)
    (hret : ∀ x dx h' tk', Fr h₀ L h' m → News h₀ L h' ((x, instObj 612 dx) :: (dx, emptyDict) :: news) → (∀ p ∈ news, p.1 < dx) → dx < x → R (.ok (.ret (.ref x))) { s with heap := h', toks := tk' }) :
    codeAny (model pwS w) (ktrTop dp un gd cn cs L a ccd cl outer) (.call (.ref 105) ⟨[.ref 612], []⟩) R s := by
  k_dflt (walk_at "my enter")
  k_steps
  all_goals (rename_i l1 l2 kF kN Tc kX; exact hret _ _ _ _ kF (fun q hq => kN q (by simp only [List.mem_cons] at hq ⊢; rcases hq with h | h | h <;> simp [h])) (fun p hp => l1 p (by simp [hp])) l2)
end
end

section
open PySem PySem.W PyProof.Rows PySem.Calls Builtin
/-- what making an object of such a class asks of the heap part -/
structure MadeK (C fI : Addr) : Prop where
  made : ∀ P, peek (K P) ⟨pwS, P⟩ (Bind.madeBy (.ref C)) = some none
  call : ∀ P, peek (K P) ⟨pwS, P⟩ (specialOf (.ref C) "__call__") = some (some (.builtin "type.__call__"))
  chk : ∀ P, peek (K P) ⟨pwS, P⟩ (checkBuiltinCall "type.__call__" ⟨[.ref C], []⟩) = some ()
  mro : ∃ x l, ∀ P, peek (K P) ⟨pwS, P⟩ (mroOf (.ref C)) = some (x :: l)
  self : ∀ P, peek (K P) ⟨pwS, P⟩ (isSubtype (.ref C) (.ref C)) = some true
  cls : ∀ P, ∃ oc od cd sl, (K P).lookup C = some ⟨oc, od, .cls cd, sl⟩
  rd : ∀ P, readsIn (K P) C (.type "type") = true
  typ : ∀ P, typeIn (K P) (.ref C) = some (.type "type")
  fnd : ∀ P, findCls (K P) (.ref C) (.type "type") "__new__" = some (.get (.builtin "staticmethod.__get__") (.ref 109) .none (.ref C))
  ini : ∀ P, findIn (K P) (.ref C) "__init__" = some (some (.ref fI))
  ifn : ∀ P, typeIn (K P) (.ref fI) = some (.type "function")
theorem recSm (P : Params) : recIn (K P) 109 "staticmethod" = some [.ref 105] := by kernel_rfl
theorem madeB : MadeK 365 152 := ⟨fun P => by kernel_rfl, fun P => by kernel_rfl, fun P => by kernel_rfl, ⟨.ref 365, [.ref 123, .ref 108, .type "object"], fun P => by kernel_rfl⟩, fun P => by kernel_rfl, fun P => ⟨_, _, _, _, rfl⟩, fun P => by kernel_rfl, fun P => by kernel_rfl, fun P => by kernel_rfl, fun P => by kernel_rfl, fun P => by kernel_rfl⟩
theorem madeS : MadeK 612 382 := ⟨fun P => by kernel_rfl, fun P => by kernel_rfl, fun P => by kernel_rfl, ⟨.ref 612, [.ref 135, .ref 108, .type "object"], fun P => by kernel_rfl⟩, fun P => by kernel_rfl, fun P => ⟨_, _, _, _, rfl⟩, fun P => by kernel_rfl, fun P => by kernel_rfl, fun P => by kernel_rfl, fun P => by kernel_rfl, fun P => by kernel_rfl⟩
section
variable {w : World} {mean : ExcName → Option Value} {mg mb : Str → Option Value} {dp un : Nat} {gd : Option (List Code)} {cn : Str} {cs : Scope} {a : Addr} {ccd : Value} {cl : List (Str × Addr)} {outer : List Env} {A₀ : Around} {base h₀ : Heap} {L : Addr} {m : Str → Option Value} {s : Shared} {Q E : Value → Shared → Prop}
  (B : Below A₀ base outer h₀) (X : (K w.params).In h₀) (T : Top qv Lz mean mg mb h₀) (hk : cs.kind = .function) (hd : dp + 9 < recursionLimit) (hu : un + 80 < cLine) (F : Fr h₀ L s.heap m)
  {news : List (Addr × Obj)} {C fI : Addr}
set_option maxHeartbeats 4000000 in
theorem make_own (F : Fr h₀ L s.heap m) (X : (K w.params).In h₀) (Y : MadeK C fI)
    (hnew : ∀ (R' : Result → Shared → Prop), (∀ x dx h' tk', Fr h₀ L h' m → News h₀ L h' ((x, instObj C dx) :: (dx, emptyDict) :: news) → (∀ p ∈ news, p.1 < dx) → dx < x → R' (.ok (.ret (.ref x))) { s with heap := h', toks := tk' }) → ∀ tk, codeAny (model pwS w) (ktrTop (dp + 1) (un + 1) gd cn cs L a ccd cl outer) (.call (.ref 105) ⟨[.ref C], []⟩) R' { s with toks := tk })
    (hret : ∀ x dx h' tk', Fr h₀ L h' m → News h₀ L h' ((x, instObj C dx) :: (dx, emptyDict) :: news) → (∀ p ∈ news, p.1 < dx) → dx < x → wpAny (model pwS w) (ktrTop (dp + 1) (un + 1) gd cn cs L a ccd cl outer) (call (.ref fI) [.ref x]) (fun v s' => v = .none ∧ Q (.ref x) s') E { s with heap := h', toks := tk' }) :
    wpAny (model pwS w) (ktrTop dp un gd cn cs L a ccd cl outer) (call (.ref C) []) Q E s := by
  obtain ⟨oc, od, cd, sl, hC0⟩ := Y.cls w.params
  obtain ⟨x0, l0, hmro⟩ := Y.mro
  have X' := X.keeps F.keep
  have hC := X' _ _ hC0
  have made : Looks (model pwS w) s.heap (Bind.madeBy (.ref C)) none := Looks.of_peek (M := model pwS w) X' (Y.made w.params)
  have call : Looks (model pwS w) s.heap (specialOf (.ref C) "__call__") (some (.builtin "type.__call__")) := Looks.of_peek (M := model pwS w) X' (Y.call w.params)
  have chk : Looks (model pwS w) s.heap (checkBuiltinCall "type.__call__" ⟨[.ref C], []⟩) () := Looks.of_peek (M := model pwS w) X' (Y.chk w.params)
  have hm : Looks (model pwS w) s.heap (mroOf (.ref C)) (x0 :: l0) := Looks.of_peek (M := model pwS w) X' (hmro w.params)
  refine wpAny_call (codeAny_of_tree ?_)
  show wpAny _ _ (callAny (.ref C) _) _ _ _
  refine nd_load hC ?_
  show wpAny _ _ (callAny.viaDunder (.ref C) _) _ _ _
  unfold callAny.viaDunder
  refine wpAny_bind (call.here ?_)
  dsimp only
  rw [tc_bind]
  refine wpAny_bind (wpAny_pure (wpAny_bind (wpAny_pure ?_)))
  refine wpAny_pure (a := Fin.again (.call (.builtin "type.__call__") ⟨[.ref C], []⟩)) (And.intro rfl ?_)
  refine codeAny_call_builtin_at (Code.quiet_builtin _ (by decide +kernel)) entry_typeCall (chk.here ?_)
  have hA : (ktrTop dp un gd cn cs L a ccd cl outer).under (Code.builtin "type.__call__" ⟨[.ref C], []⟩) = ktrTop (dp + 1) (un + 1) gd cn cs L a ccd cl outer := by cases gd <;> rfl
  rw [hA]
  unfold Builtin.«type.__call__»
  repeat (first
    | simp only [List.isEmpty_cons, Bool.false_eq_true, if_false]
    | (with_reducible refine cls_sm (C := C) F X (Y.typ _) (Y.rd _) (Y.fnd _) (recSm _) rfl ?_)
    | (with_reducible refine wpAny_call ?_)
    | lk)
  refine hnew _ (fun x dx h' tk' F' N' l1 l2 => ?_) (s.toks + 1)
  have I : InstAt h' x (instObj C dx) C (some emptyDict) := InstAt.of_news N' (.head _) (.tail _ (.head _))
  have X2 := X.keeps F'.keep
  have self : Looks (model pwS w) h' (isSubtype (.ref C) (.ref C)) true := Looks.of_peek (M := model pwS w) X2 (Y.self w.params)
  show wpAny _ _ _ _ _ _
  unfold isInstance
  refine wpAny_bind (wpAny_bind (I.type.here (self.here ?_)))
  simp only [Bool.not_true, Bool.false_eq_true, if_false]
  refine wpAny_bind (wpAny_holding (special_fn X2 I (Y.ini _) (Y.ifn _) ?_))
  refine wpAny_mono (hret x dx h' tk' F' N' l1 l2) (fun v s' hv => ?_) fun _ _ e => e
  obtain ⟨rfl, hv⟩ := hv
  dsimp only
  rw [if_neg (by decide)]
  exact wpAny_pure hv
include B X T hk hd hu F
theorem makeB (N : News h₀ L s.heap news)
    (hret : ∀ x dx h' tk', Fr h₀ L h' m → News h₀ L h' ((x, instObj 365 dx) :: (dx, emptyDict) :: news) → (∀ p ∈ news, p.1 < dx) → dx < x → wpAny (model pwS w) (ktrTop (dp + 1) (un + 1) gd cn cs L a ccd cl outer) (call (.ref 152) [.ref x]) (fun v s' => v = .none ∧ Q (.ref x) s') E { s with heap := h', toks := tk' }) :
    wpAny (model pwS w) (ktrTop dp un gd cn cs L a ccd cl outer) (call (.ref 365) []) Q E s :=
  make_own F X madeB (fun R' hR tk => newB_code (s := { s with toks := tk }) B X T hk (by omega) (by omega) F N hR) hret
theorem makeS (N : News h₀ L s.heap news)
    (hret : ∀ x dx h' tk', Fr h₀ L h' m → News h₀ L h' ((x, instObj 612 dx) :: (dx, emptyDict) :: news) → (∀ p ∈ news, p.1 < dx) → dx < x → wpAny (model pwS w) (ktrTop (dp + 1) (un + 1) gd cn cs L a ccd cl outer) (call (.ref 382) [.ref x]) (fun v s' => v = .none ∧ Q (.ref x) s') E { s with heap := h', toks := tk' }) :
    wpAny (model pwS w) (ktrTop dp un gd cn cs L a ccd cl outer) (call (.ref 612) []) Q E s :=
  make_own F X madeS (fun R' hR tk => newS_code (s := { s with toks := tk }) B X T hk (by omega) (by omega) F N hR) hret
end
end

section
open PySem PySem.W PyProof.Rows PySem.Calls
/-! A logic over clean contexts: those whose stack holds no codecs' decoder. -/
noncomputable def cleanC : Code → Bool
  | .builtin id _ => !Builtin.Bytes.decodersThatHold.contains id
  | _ => true
noncomputable def Clean (Γ : Ctx) : Prop := cleanC Γ.code = true ∧ ∀ c ∈ Γ.below, cleanC c.1 = true
noncomputable def wpOk {α : Type} (M : Model) (A : Around) (t : Sem α) (Q : α → Shared → Prop) (E : Value → Shared → Prop) (s : Shared) : Prop :=
  ∀ Γ p, Γ.In A → Clean Γ → Sem.wp M Γ t (fun a _ s' => Q a s') (fun e _ s' => E e s') p s
noncomputable def codeOk (M : Model) (A : Around) (c : Code) (R : Result → Shared → Prop) (s : Shared) : Prop :=
  ∀ Γ p, Γ.code = c → Γ.Below A → Clean Γ → wpCode M Γ R p s
theorem mem_guards {c : Code} {q : Pos} : ∀ {l : List (Code × Pos)}, (c, q) ∈ l → c.isGuard = true → c ∈ guardsOf l
  | (c', q') :: l, h, hg => by
    rw [guardsOf_cons]
    rcases List.mem_cons.mp h with e | h
    · cases e; exact List.mem_append_left _ (by simp [Code.guards, hg])
    · exact List.mem_append_right _ (mem_guards h hg)
section
variable {α β : Type} {M : Model} {A : Around} {E : Value → Shared → Prop} {s : Shared}
theorem wpOk.of {t : Sem α} {Q : α → Shared → Prop} (h : wpAny M A t Q E s) : wpOk M A t Q E s := fun Γ p hΓ _ => h Γ p hΓ
theorem wpOk.mono {t : Sem α} {Q Q' : α → Shared → Prop} {E' : Value → Shared → Prop} (h : wpOk M A t Q E s) (hQ : ∀ a s, Q a s → Q' a s) (hE : ∀ e s, E e s → E' e s) : wpOk M A t Q' E' s :=
  fun Γ p hΓ hc => Sem.wp_mono M Γ t (fun a _ s => hQ a s) (fun e _ s => hE e s) p s (h Γ p hΓ hc)
theorem wpOk.bind {m : Sem α} {f : α → Sem β} {Q : β → Shared → Prop} (h : wpOk M A m (fun a s' => wpOk M A (f a) Q E s') E s) : wpOk M A (m >>= f) Q E s := fun Γ p hΓ hc => by
  rw [Sem.wp_bind']
  exact Sem.wp_mono M Γ m (fun _ p' _ h' => h' Γ p' hΓ hc) (fun _ _ _ h' => h') p s (h Γ p hΓ hc)
theorem wpOk.pure {a : α} {Q : α → Shared → Prop} (h : Q a s) : wpOk M A (Pure.pure a) Q E s := fun _ _ _ _ => h
theorem wpOk.holding {vs : List Value} {m : Sem α} {Q : α → Shared → Prop} (h : wpOk M A m Q E s) : wpOk M A (PySem.holding vs m) Q E s := fun Γ p hΓ hc => by
  rw [Sem.wp_holding]; exact h Γ p hΓ hc
theorem wpOk.onRaise {m : Sem α} {k : Value → Sem Unit} {Q : α → Shared → Prop} (h : wpOk M A m Q (fun _ _ => False) s) : wpOk M A (m.onRaise k) Q E s := fun Γ p hΓ hc => by
  rw [Sem.wp_onRaise]
  exact Sem.wp_mono M Γ m (fun _ _ _ h' => h') (fun _ _ _ h' => h'.elim) p s (h Γ p hΓ hc)
theorem wpOk.value {c : Code} {Q : Value → Shared → Prop} (hcc : cleanC c = true)
    (hc : codeOk M A c (fun r s' => match r with | .ok (.ret v) => Q v s' | .ok _ => False | .error e => E e s') s) : wpOk M A (runValue c) Q E s := fun Γ p hΓ hcl => by
  rw [Sem.wp_runValue]
  refine hc _ p rfl (hΓ.enter c none p (by intro x; cases x)) ⟨hcc, fun x hx => ?_⟩
  rcases List.mem_cons.mp hx with rfl | hx
  · exact hcl.1
  · exact hcl.2 x hx
theorem wpOk.call {f : Value} {pos : List Value} {kw : List (Str × Value)} {Q : Value → Shared → Prop}
    (hc : codeOk M A (.call f ⟨pos, kw⟩) (fun r s' => match r with | .ok (.ret v) => Q v s' | .ok _ => False | .error e => E e s') s) : wpOk M A (PySem.call f pos kw) Q E s := wpOk.value rfl hc
theorem codeOk.of {c : Code} {R : Result → Shared → Prop} (h : codeAny M A c R s) : codeOk M A c R s := fun Γ p hc hΓ _ => h Γ p hc hΓ
theorem codeOk.mono {c : Code} {R R' : Result → Shared → Prop} (h : codeOk M A c R s) (hR : ∀ r s, R r s → R' r s) : codeOk M A c R' s := fun Γ p hc hΓ hcl => wpCode_mono hR (h Γ p hc hΓ hcl)
theorem codeOk.tree {c : Code} {R : Result → Shared → Prop}
    (h : wpOk M (A.under c) (M.den c) (fun fin s' => match fin with | .done f => R (.ok f) s' | .again c' => c'.quiet = true ∧ cleanC c' = true ∧ codeOk M A c' R s') (fun e s' => R (.error e) s') s) : codeOk M A c R s := fun Γ p hc hΓ hcl => by
  rw [wpCode_iff_wp, hc]
  refine Sem.wp_mono M Γ _ (fun fin p' s' h' => ?_) (fun _ _ _ h' => h') p s (h Γ p (hc ▸ hΓ.in) hcl)
  cases fin with
  | done f => exact h'
  | again c' => exact ⟨h'.1, h'.2.2 (Γ.goto c') p' rfl (hΓ.goto c') ⟨h'.2.1, hcl.2⟩⟩
theorem wpOk.stack {f : Code × Pos → Bool} {g : List Code} {Q : Bool → Shared → Prop} (hg : A.guards = some g) (hf : ∀ c p, c.isGuard = false → cleanC c = true → f (c, p) = false)
    (hno : ∀ c ∈ g, ∀ p, f (c, p) = false) (h : Q false s) : wpOk M A (do return (← PySem.stack).any f) Q E s := fun Γ p hΓ hcl => by
  show Q (((Γ.code, p) :: Γ.below).any f) s
  have e : ((Γ.code, p) :: Γ.below).any f = false := by
    have hG := hΓ.2.2.2.1 g hg
    rw [List.any_eq_false]
    rintro ⟨c, q⟩ hx
    rw [Bool.not_eq_true]
    have hcc : cleanC c = true := by
      rcases List.mem_cons.mp hx with e | hx
      · cases e; exact hcl.1
      · exact hcl.2 _ hx
    cases hgd : c.isGuard with
    | false => exact hf c q hgd hcc
    | true =>
      refine hno c ?_ q
      rw [← hG]
      rcases List.mem_cons.mp hx with e | hx
      · cases e; exact List.mem_append_left _ (by simp [Code.guards, hgd])
      · exact List.mem_append_right _ (mem_guards hx hgd)
  rw [e]; exact h
end
section
variable {prog : Program} {w : World} {A : Around} {E : Value → Shared → Prop} {s : Shared} {env : Env}
theorem wpOk.execs_nil {M : Model} {Q : Flow → Shared → Prop} (h : Q .next s) : wpOk M A (execs [] env) Q E s := wpOk.of (wpAny_execs_nil h)
theorem wpOk.execs_cons {M : Model} {st : Stmt} {rest : List Stmt} {Q : Flow → Shared → Prop} (h : wpOk M A (exec st env) (fun f s' => match f with | .next => wpOk M A (execs rest env) Q E s' | f => Q f s') E s) : wpOk M A (execs (st :: rest) env) Q E s := by
  rw [PySem.execs_cons]
  refine wpOk.bind (h.mono (fun f s' h' => ?_) fun _ _ e => e)
  cases f <;> first | exact h' | exact wpOk.pure h'
theorem codeOk.func {body : List Stmt} {R : Result → Shared → Prop} (h : wpOk (model prog w) (A.deeper env) (execs body env) (fun f s' => R (.ok (.ret (match f with | .ret v => v | _ => .none))) s') (fun _ _ => False) s) : codeOk (model prog w) A (.func body env) R s := by
  refine codeOk.tree ?_
  show wpOk _ (A.deeper env) (do point; match ← (execs body env).onRaise (leaving env) with | .ret v => ret v | _ => ret .none) _ _ s
  refine wpOk.bind (wpOk.of (wpAny_point (wpOk.bind (wpOk.onRaise (h.mono (fun f s' h' => ?_) fun _ _ e => e)))))
  cases f <;> exact wpOk.pure h'
/-- a def of the text is called: its frame, over clean contexts -/
theorem codeOk.function {a : Addr} {args : Args} {o : Obj} {fd : FuncData} {body : List Stmt} {R : Result → Shared → Prop} (hroom : A.depth < recursionLimit) (ho : s.heap.get? a = some o)
    (hd : o.data = .func fd) (hco : fd.scope.isCoroutine = false) (hgen : fd.scope.isGenerator = false) (hbody : fd.body = .stmts body) (hcd : s.heap.CodeRec fd.code fd.qualname)
    (h : wpAny (model prog w) A.in1 (bindArgs fd args) (fun binds s₁ => wpAny (model prog w) A.in1 (newFunctionEnv fd.scope fd.globals fd.closure binds (fd.qualname ++ ".<locals>.") (some a) fd.code none fd.builtins)
        (fun env s₂ => s₂.heap.NoLimit ∧ codeOk (model prog w) A (.func body env) R s₂) (fun e s' => R (.error e) s') s₁) (fun e s' => R (.error e) s') s) :
    codeOk (model prog w) A (.call (.ref a) args) R s := by
  obtain ⟨c, oc, vs, tq, hc, hoc, hdc, hq⟩ := hcd
  rw [hc] at h
  refine codeOk.tree (wpOk.of ?_)
  show wpAny _ A.in1 (callAny (.ref a) args) _ _ s
  simp only [callAny]
  refine wpAny_bind (wpAny_load ho ?_)
  simp only [hd, callFunction, hco, hgen, hbody, hc]
  refine wpAny_bind (m := field (.ref c) 1) (wpAny_field hoc hdc hq (wpAny_bind (wpAny_pure (wpAny_bind (wpAny_mono h (fun binds s₁ h₁ => ?_) fun _ _ e => e)))))
  refine wpAny_bind (wpAny_mono h₁ (fun env s₂ h₂ => ?_) fun _ _ e => e)
  exact wpAny_bind (wpAny_enterFrame h₂.1 hroom (wpAny_pure ⟨rfl, rfl, h₂.2⟩))
end
end

section
open PySem PySem.W PyProof.Rows PySem.Calls
theorem slot_ba_init : Slot "bytearray" "__init__" "bytearray.__init__" :=
  .of (owner := "bytearray") (n := "__init__") (by rw [typeLookup_type, builtinLookup_eq_fast]; kernel_rfl) (by decide +kernel) (by decide +kernel) (by decide +kernel)
    (by first | exact .inl (by decide +kernel) | exact .inr (by decide +kernel)) (by rw [isSubtype_type]; kernel_rfl)
theorem mro_ba : mroOf (.type "bytearray") = pure [.type "bytearray", .type "object"] := by rw [mroOf_type]; kernel_rfl
theorem lookup_ba_new : typeLookup (.type "bytearray") "__new__" = pure (some (.builtin "bytearray.__new__")) := by rw [typeLookup_type, builtinLookup_eq_fast]; kernel_rfl
theorem ba_called : TypeCalled "bytearray" "bytearray.__new__" "bytearray.__init__" :=
  ⟨by decide +kernel, by decide +kernel, ⟨_, _, mro_ba⟩, madeBy_type mro_ba lookup_ba_new (by decide +kernel), by decide +kernel, by rw [isSubtype_type]; kernel_rfl, slot_ba_init⟩
theorem ba_typeCall0 : checkTypeCall "bytearray" ⟨[], []⟩ = pure () := by kernel_rfl
theorem ba_typeCall1 (a : Value) : checkTypeCall "bytearray" ⟨[a], []⟩ = pure () := by kernel_rfl
theorem ba_newCall0 : checkBuiltinCall "bytearray.__new__" ⟨[.type "bytearray"], []⟩ = pure () := by kernel_rfl
theorem ba_newCall1 (a : Value) : checkBuiltinCall "bytearray.__new__" ⟨[.type "bytearray", a], []⟩ = pure () := by kernel_rfl
theorem ba_entry_new : entryFor table "bytearray.__new__" = some Builtin.«list.__new__» := entryFor_alias (id' := "list.__new__") (by rw [fastTable_eq_tree]; kernel_rfl) (by first | rfl | decide +kernel) (by decide +kernel) (by rw [fastTable_eq_tree]; kernel_rfl)
theorem ba_entry_init : entryFor table "bytearray.__init__" = some Builtin.«bytearray.__init__» := by first | exact entryFor_of_fast (by kernel_rfl) | exact entryFor_of_tree (by kernel_rfl)
theorem ba_plain_new : plainId "bytearray.__new__" = true := by decide +kernel
theorem ba_args0 (o : Value) : argsOk "bytearray.__init__" ⟨[o], []⟩ := by unfold argsOk; kernel_rfl
theorem ba_args1 (o a : Value) : argsOk "bytearray.__init__" ⟨[o, a], []⟩ := by unfold argsOk; kernel_rfl
set_option maxRecDepth 1000000 in
set_option maxHeartbeats 4000000 in
theorem ba_owner : ("bytearray.__new__".splitOn ".__new__").headD "" = "bytearray" := by simp +decide [String.splitOn, String.splitOnAux]
theorem ba_bind0 : Builtin.Bytes.bindOptional "bytearray.__init__" "bytearray" ["source", "encoding", "errors"] [] [] = pure [none, none, none] := by kernel_rfl
theorem ba_bind1 (v : Value) : Builtin.Bytes.bindOptional "bytearray.__init__" "bytearray" ["source", "encoding", "errors"] [v] [] = pure [some v, none, none] := by kernel_rfl
section
variable {prog : Program} {w : World} {A : Around} {E : Value → Shared → Prop} {s : Shared}
theorem code_ba_new {args : List Value} {Q₁ : Value → Shared → Prop} (hc : checkBuiltinCall "bytearray.__new__" ⟨.type "bytearray" :: args, []⟩ = pure ())
    (h : Q₁ (.ref s.heap.objs.size) { s with heap := s.heap.push (baO #[]) }) :
    codeAny (model prog w) A (.call (.builtin "bytearray.__new__") ⟨.type "bytearray" :: args, []⟩) (wants Q₁ E) s := by
  refine codeAny_of_tree ?_
  show wpAny _ A.in1 (do checkBuiltinCall "bytearray.__new__" ⟨.type "bytearray" :: args, []⟩; again (.builtin "bytearray.__new__" ⟨.type "bytearray" :: args, []⟩)) _ _ s
  refine wpAny_bind (wpAny_of_eq hc (wpAny_pure ⟨plainId_quiet ba_plain_new _, codeAny_builtin_stack ba_entry_new rfl fun p st => ?_⟩))
  rw [Around.under_plainId ba_plain_new _]
  have hsub := ba_sub
  have hown := ba_owner
  obtain ⟨hp, g, d, tk, os⟩ := s
  simp only [hown]
  wp_walk
  exact h
end
end

section
open PySem PySem.W PyProof.Rows PySem.Calls
theorem by_no_index : typeLookup (.type "bytes") "__index__" = pure none := by rw [typeLookup_type, builtinLookup_eq_fast]; kernel_rfl
theorem by_no_release : typeLookup (.type "bytes") "__release_buffer__" = pure none := by rw [typeLookup_type, builtinLookup_eq_fast]; kernel_rfl
theorem by_buffer : typeLookup (.type "bytes") "__buffer__" = pure (some (.builtin "bytes.__buffer__")) := by rw [typeLookup_type, builtinLookup_eq_fast]; kernel_rfl
theorem by_sub : isSubtype (.type "bytes") (.type "bytes") = pure true := by rw [isSubtype_type]; kernel_rfl
section
variable {prog : Program} {w : World} {A : Around} {E : Value → Shared → Prop} {s : Shared} {a : Addr} {d : Array UInt8}
theorem not_exported {Q : Bool → Shared → Prop} (hg : A.guards = some []) (q : Q false s) : wpOk (model prog w) A (Builtin.Bytes.exported (.ref a)) Q E s := by
  unfold Builtin.Bytes.exported
  refine wpOk.stack hg (fun c p h1 h2 => ?_) (fun c hc => nomatch hc) q
  cases c with
  | builtin id args =>
    have g (x : String) (hx : guardIds.contains x = true) : ¬ id = x := fun e => by
      subst e
      change guardIds.contains id = false at h1
      rw [hx] at h1
      cases h1
    delta Builtin.Bytes.exported.match_1
    with_unfolding_all show dite (id = "bytearray.__contains__") _ _ = false
    rw [dif_neg (g _ (by decide +kernel))]
    show dite (id = "bytearray.__mod__") _ _ = false
    rw [dif_neg (g _ (by decide +kernel))]
    show dite (id = "bytearray.__rmod__") _ _ = false
    rw [dif_neg (g _ (by decide +kernel))]
    show dite (id = "_struct.pack_into.held") _ _ = false
    rw [dif_neg (g _ (by decide +kernel))]
    show dite (id = "bytearray.find.held") _ _ = false
    rw [dif_neg (g _ (by decide +kernel))]
    rcases args with ⟨_ | ⟨v, r⟩, kw⟩
    · rfl
    · show (_ && Builtin.Bytes.decodersThatHold.contains id) = false
      change (!Builtin.Bytes.decodersThatHold.contains id) = true at h2
      rw [Bool.not_eq_true'] at h2
      rw [h2, Bool.and_false]
  | _ => rfl
theorem exports_zero {Q : Nat → Shared → Prop} (h : s.heap.get? a = some (baO d)) (q : Q 0 s) : wpAny (model prog w) A (Builtin.Bytes.exportsOf (.ref a)) Q E s := by
  unfold Builtin.Bytes.exportsOf
  exact wpAny_bind (wpAny_load h (wpAny_pure q))
theorem not_held {Q : Bool → Shared → Prop} (hg : A.guards = some []) (h : s.heap.get? a = some (baO d)) (q : Q false s) :
    wpOk (model prog w) A (Builtin.Bytes.exported (.ref a) <||> (do return (← Builtin.Bytes.exportsOf (.ref a)) > 0)) Q E s := by
  show wpOk _ _ (Builtin.Bytes.exported (.ref a) >>= _) _ _ _
  refine wpOk.bind (not_exported hg ?_)
  show wpOk _ _ (Builtin.Bytes.exportsOf (.ref a) >>= _) _ _ _
  exact wpOk.bind (wpOk.of (exports_zero h (wpOk.pure q)))
/-- the bytes of a bytearray are written -/
theorem ba_write {f : Array UInt8 → Array UInt8} {Q : Unit → Shared → Prop} (h : s.heap.get? a = some (baO d)) (hz : (f d).size ≤ sizeLine) (q : Q () { s with heap := s.heap.update a (Obj.mapBytearray f) }) :
    wpAny (model prog w) A (Builtin.Bytes.write (.ref a) f) Q E s := by
  show wpAny _ _ (updateBytearray a f) _ _ _
  unfold updateBytearray
  refine wpAny_bind (wpAny_load h ?_)
  refine wpAny_bind (wpAny_update h ?_)
  have h2 : (s.heap.update a (Obj.mapBytearray f)).get? a = some (baO (f d)) := Heap.get?_update_self _ h rfl
  unfold lookBehind
  refine wpAny_bind (wpAny_loadPart h2 ?_)
  have e : (baO (f d)).data.pastItsLine = none := by
    show (if (f d).size > sizeLine then some "bytearray:memory" else none) = none
    rw [if_neg (by omega)]
  rw [e]
  exact wpAny_pure q
theorem init0 {Q : PySem.Fin → Shared → Prop} (hg : A.guards = some []) (h : s.heap.get? a = some (baO d)) (q : Q (.done (.ret .none)) { s with heap := s.heap.update a (Obj.mapBytearray fun _ => #[]) }) :
    wpOk (model prog w) A (Builtin.«bytearray.__init__» ⟨[.ref a], []⟩) Q E s := by
  unfold Builtin.«bytearray.__init__»
  refine wpOk.bind (wpOk.of (ba_ownRel h ?_))
  show wpOk _ _ (Builtin.Bytes.bindOptional _ _ _ _ _ >>= _) _ _ _
  refine wpOk.bind (wpOk.of (wpAny_of_eq ba_bind0 ?_))
  dsimp only
  refine wpOk.bind (wpOk.of (wpAny_pure ?_))
  refine wpOk.bind (wpOk.of (wpAny_pure ?_))
  refine wpOk.bind (not_held hg h ?_)
  simp only [Bool.false_eq_true, if_false]
  refine wpOk.bind (wpOk.of (ba_write h (by simp) ?_))
  exact wpOk.pure q
theorem by_bufferQ {b : Array UInt8} {t : Tok} {id : String} {full : Bool} {Q : Option (Array UInt8) → Shared → Prop} (q : Q (some b) s) :
    wpAny (model prog w) A (Builtin.Bytes.buffer? id (.bytes b t) full) Q E s := by
  have hT := PySem.W.typeIs_bytes s b t
  unfold Builtin.Bytes.buffer?
  refine wpAny_bind (wpAny_specialOf hT by_buffer ?_)
  dsimp only
  unfold Builtin.Bytes.slotIsOwn
  refine wpAny_bind (wpAny_bind (wpAny_specialOf hT by_buffer ?_))
  refine bm_if_false (by decide +kernel) ?_
  rw [show ("bytes.__buffer__".dropRight ("__buffer__".length + 1)) = "bytes" from by decide +kernel]
  refine wpAny_isInstance hT by_sub ?_
  refine bm_if_false rfl ?_
  refine wpAny_bind (wpAny_specialOf hT by_buffer ?_)
  unfold Builtin.Bytes.ownRelease Builtin.Bytes.slotIsOwn
  refine wpAny_bind (wpAny_bind (wpAny_bind (wpAny_specialOf hT by_no_release ?_)))
  refine wpAny_pure (wpAny_pure ?_)
  refine bm_if_false rfl ?_
  unfold Builtin.Bytes.payload Builtin.Bytes.payload?
  exact wpAny_bind (wpAny_bind (wpAny_pure (wpAny_pure (wpAny_pure q))))
theorem init1 {b : Array UInt8} {t : Tok} {Q : PySem.Fin → Shared → Prop} (hg : A.guards = some []) (h : s.heap.get? a = some (baO d)) (hz : b.size ≤ sizeLine)
    (q : ∀ h', h'.get? a = some (baO b) → Heap.SameBut a s.heap h' → Q (.done (.ret .none)) { s with heap := h' }) :
    wpOk (model prog w) A (Builtin.«bytearray.__init__» ⟨[.ref a, .bytes b t], []⟩) Q E s := by
  have hT := fun s => PySem.W.typeIs_bytes s b t
  unfold Builtin.«bytearray.__init__»
  refine wpOk.bind (wpOk.of (ba_ownRel h ?_))
  show wpOk _ _ (Builtin.Bytes.bindOptional _ _ _ _ _ >>= _) _ _ _
  refine wpOk.bind (wpOk.of (wpAny_of_eq (ba_bind1 _) ?_))
  dsimp only
  refine wpOk.bind (wpOk.of (wpAny_pure ?_))
  refine wpOk.bind (wpOk.of (wpAny_pure ?_))
  refine wpOk.bind (not_held hg h ?_)
  simp only [Bool.false_eq_true, if_false]
  refine wpOk.bind (wpOk.of (ba_write h (by simp) ?_))
  have h2 : (s.heap.update a (Obj.mapBytearray fun _ => #[])).get? a = some (baO #[]) := Heap.get?_update_self _ h rfl
  refine wpOk.bind (wpOk.of (wpAny_of_eq (a := none) rfl ?_))
  simp only [Option.isSome_none, Bool.false_eq_true, if_false]
  refine wpOk.of ?_
  refine wpAny_bind (wpAny_pure ?_)
  refine wpAny_bind (wpAny_specialOf (hT _) by_no_index ?_)
  simp only [Option.isSome_none, Bool.false_eq_true, if_false]
  refine wpAny_bind (by_bufferQ ?_)
  dsimp only
  refine wpAny_bind (wpAny_rule ?_)
  refine wpAny_bind (ba_write h2 hz ?_)
  refine wpAny_pure ?_
  exact q _ (Heap.get?_update_self _ h2 rfl) ((Heap.SameBut.update ..).trans (Heap.SameBut.update ..))
theorem clean_id {id : String} (h : Builtin.Bytes.decodersThatHold.contains id = false) (args : Args) : cleanC (.builtin id args) = true := by
  simp only [cleanC, h, Bool.not_false]
theorem codeOk.builtin {id : String} {args : Args} {b : Builtin} {R : Result → Shared → Prop} (hb : entryFor table id = some b)
    (h : wpOk (model prog w) (A.under (.builtin id args)) (b args) (fun fin s' => match fin with | .done f => R (.ok f) s' | .again c' => c'.quiet = true ∧ cleanC c' = true ∧ codeOk (model prog w) A c' R s') (fun e s' => R (.error e) s') s) :
    codeOk (model prog w) A (.builtin id args) R s := by
  refine codeOk.tree ?_
  show wpOk _ _ (match entryFor table id with | some b => b args | none => unsupported ((withoutEnding? id "#data").getD id)) _ _ s
  rw [hb]; exact h
theorem wpOk.special {M : Model} {self : Value} {T : String} {name : Str} {id : String} {args : List Value} {Q : Option Value → Shared → Prop} (hT : s.TypeIs self T) (h : Slot T name id)
    (hc : wpOk M A (PySem.call (.builtin id) (self :: args)) (fun v => Q (some v)) E s) : wpOk M A (callSpecial? self name args) Q E s := by
  unfold callSpecial?
  refine wpOk.bind (wpOk.of (wpAny_specialOf hT h.lookup ?_))
  dsimp only
  refine wpOk.holding ?_
  rw [h.bind]
  exact wpOk.bind (wpOk.pure (wpOk.bind (hc.mono (fun v s' h' => wpOk.pure h') fun _ _ e => e)))
theorem wpOk.entry {self : Value} {T : String} {name : Str} {id : String} {b : Builtin} {rest : List Value} {Q : Value → Shared → Prop} (h : Slot T name id) (hT : s.TypeIs self T) (hb : entryFor table id = some b) (hcl : Builtin.Bytes.decodersThatHold.contains id = false)
    (hc : wpOk (model prog w) A.in1 (b ⟨self :: rest, []⟩) (fun fin s' => ∃ v, fin = .done (.ret v) ∧ Q v s') (fun _ _ => False) s) (ha : argsOk id ⟨self :: rest, []⟩) :
    wpOk (model prog w) A (PySem.call (.builtin id) (self :: rest)) Q E s := by
  refine wpOk.call (codeOk.tree ?_)
  show wpOk _ A.in1 (do checkBuiltinCall id ⟨self :: rest, []⟩; again (.builtin id ⟨self :: rest, []⟩)) _ _ s
  refine wpOk.bind (wpOk.of (h.check _ _ _ _ _ _ _ _ hT ha (wpOk.pure ⟨plainId_quiet h.plain _, clean_id hcl _, codeOk.builtin hb ?_⟩)))
  rw [Around.under_plainId h.plain]
  refine hc.mono (fun fin s' hq => ?_) (fun _ _ e => e.elim)
  obtain ⟨v, rfl, q⟩ := hq
  exact q
theorem ba_make {args : List Value} {Q : Value → Shared → Prop} (hct : checkTypeCall "bytearray" ⟨args, []⟩ = pure ()) (hnc : checkBuiltinCall "bytearray.__new__" ⟨.type "bytearray" :: args, []⟩ = pure ()) (hok : ∀ o, argsOk "bytearray.__init__" ⟨o :: args, []⟩)
    (hi : wpOk (model prog w) A.in1.in1 (Builtin.«bytearray.__init__» ⟨.ref s.heap.objs.size :: args, []⟩) (fun fin s' => fin = .done (.ret .none) ∧ Q (.ref s.heap.objs.size) s') (fun _ _ => False) { s with heap := s.heap.push (baO #[]) }) :
    wpOk (model prog w) A (call (.type "bytearray") args) Q E s := by
  have ft := ba_called
  obtain ⟨c, tl, hmro⟩ := ft.mro
  have hmade := ft.made
  have h1 := ft.notType
  have h2 := ft.canCreate
  refine wpOk.call (codeOk.tree ?_)
  show wpOk _ _ (callAny (.type "bytearray") _) _ _ _
  refine wpOk.pure ⟨Code.quiet_builtin _ (by decide +kernel), clean_id (by decide +kernel) _, codeOk.builtin entry_typeCall ?_⟩
  rw [Around.under_plain (weight_type_call_type "bytearray" args []) rfl]
  dsimp only
  unfold Builtin.«type.__call__»
  dsimp only
  rw [if_neg (by rw [h1]; decide)]
  rw [if_neg (by rw [h2]; decide)]
  refine wpOk.bind (wpOk.of (wpAny_of_eq hct ?_))
  refine wpOk.bind (wpOk.of (wpAny_of_eq hmro ?_))
  rw [if_neg (by simp)]
  refine wpOk.bind (wpOk.of (wpAny_of_eq hmade ?_))
  dsimp only
  refine wpOk.bind (wpOk.pure ?_)
  refine wpOk.bind (wpOk.holding (wpOk.of (wpAny_call (code_ba_new (E := E) (Q₁ := fun v s' => _) hnc ?_))))
  have h0 : (s.heap.push (baO #[])).get? s.heap.objs.size = some (baO #[]) := Heap.get?_push_size _ rfl
  refine wpOk.bind (wpOk.of (wpAny_isInstance (ba_T (s := { s with heap := s.heap.push (baO #[]) }) h0) ba_sub ?_))
  simp only [Bool.not_true, Bool.false_eq_true, if_false]
  refine wpOk.bind (wpOk.holding (wpOk.special (ba_T (s := { s with heap := s.heap.push (baO #[]) }) h0) slot_ba_init (wpOk.entry slot_ba_init (ba_T (s := { s with heap := s.heap.push (baO #[]) }) h0) ba_entry_init (by decide +kernel) ?_ (hok _))))
  refine hi.mono (fun fin s' hq => ?_) fun _ _ e => e
  obtain ⟨rfl, q⟩ := hq
  refine ⟨_, rfl, ?_⟩
  dsimp only
  rw [if_neg (by decide)]
  exact wpOk.pure q
/-- bytearray() -/
theorem ba_make0 {Q : Value → Shared → Prop} (hg : A.guards = some []) (q : ∀ h', h'.get? s.heap.objs.size = some (baO #[]) → Heap.SameBut s.heap.objs.size (s.heap.push (baO #[])) h' → Q (.ref s.heap.objs.size) { s with heap := h' }) :
    wpOk (model prog w) A (call (.type "bytearray") []) Q E s := by
  refine ba_make ba_typeCall0 ba_newCall0 ba_args0 (init0 (d := #[]) hg (Heap.get?_push_size _ rfl) ⟨rfl, q _ (Heap.get?_update_self _ (Heap.get?_push_size _ rfl) rfl) (Heap.SameBut.update ..)⟩)
/-- bytearray(b) -/
theorem ba_make1 {b : Array UInt8} {t : Tok} {Q : Value → Shared → Prop} (hg : A.guards = some []) (hz : b.size ≤ sizeLine) (q : ∀ h', h'.get? s.heap.objs.size = some (baO b) → Heap.SameBut s.heap.objs.size (s.heap.push (baO #[])) h' → Q (.ref s.heap.objs.size) { s with heap := h' }) :
    wpOk (model prog w) A (call (.type "bytearray") [.bytes b t]) Q E s := by
  refine ba_make (ba_typeCall1 _) (ba_newCall1 _) (fun _ => ba_args1 _ _) (init1 (d := #[]) hg (Heap.get?_push_size _ rfl) hz fun h' e1 e2 => ⟨rfl, q h' e1 e2⟩)
end
end

section
open PySem PySem.W PyProof.Rows PySem.Calls
section
variable {prog : Program} {w : World} {A A₀ : Around} {s : Shared} {K' : Frag} {L : Addr} {h₀ base : Heap} {m mg mb : Str → Option Value} {news : List (Addr × Obj)} {p : Program} {loose : List Str} {mean : ExcName → Option Value}
/-- a def of the text is entered, over clean contexts -/
theorem defOk {env : Env} {outer : List Env} {R : Result → Shared → Prop} {name qual : Str} {params : Arguments} {body : List Stmt} {scope : Scope} {dV kV doc pm cdv ct oc : Value} {an od : Option Addr} {osl : Array (Option Value)} {f : Addr} {args : Args} {binds : List (Str × Value)}
    (B : Below A₀ base outer h₀) (F : Fr h₀ L s.heap m) (X₀ : K'.In h₀) (N : News h₀ L s.heap news) (T : Top p loose mean mg mb h₀) (hA : A.frames = some (env :: outer)) (hf : env.frame = some L) (hke : env.scope.kind = .function)
    (ho : K'.lookup f = some ⟨oc, od, .func (fnOf name qual params body scope dV kV doc pm an cdv ct), osl⟩) (hcd : codeIn K' cdv qual = true) (hroom : A.depth < recursionLimit)
    (hbind : BindsTo s (fnOf name qual params body scope dV kV doc pm an cdv ct) args binds) (hloc : ∀ y ∈ binds, scope.names.lookup y.1 = some .local)
    (h : ∀ g L' h₁, Fr h₀ L g m → Fr g L' h₁ (fun y => binds.reverse.lookup y) → News g L' h₁ news → Below A base (env :: outer) g → K'.In g → Top p loose mean mg mb g →
      wpOk (model prog w) (A.deeper (envOf qual scope L' f cdv)) (execs body (envOf qual scope L' f cdv)) (fun fl s' => LeaveK h₀ L m g R (match fl with | .ret v => v | _ => .none) s') (fun _ _ => False) { s with heap := h₁, toks := s.toks + binds.length })
    (hco : scope.isCoroutine = false) (hgen : scope.isGenerator = false) (hk : scope.kind = .function) (hcell : ∀ x ∈ scope.names, x.2 ≠ .cell) : codeOk (model prog w) A (.call (.ref f) args) R s := by
  obtain ⟨FG, BG, st, lv⟩ := groundX (R := R) B F N hA hf hke
  refine codeOk.function (fd := fnOf name qual params body scope dV kV doc pm an cdv ct) hroom ((X₀.keeps F.keep) _ _ ho) rfl hco hgen rfl (codeRec_of (X₀.keeps F.keep) hcd) (hbind _ _ _ _ ?_)
  refine wpAny_newFunctionEnv hcell hloc (fun h₁ hns hsb => ?_) hk
  have hk₁ : ∀ b o, s.heap.get? b = some o → h₁.get? b = some o := fun b o e => hsb.extBut b o (Nat.ne_of_lt (Heap.lt_size e)) (Heap.get?_push_of_some _ e)
  refine ⟨(T.nolimit.keeps F.keep).fresh _ hsb, codeOk.func ?_⟩
  refine (h _ s.heap.objs.size h₁ FG ⟨hns, fun b o e => hk₁ b o (of_hideAll _ e), Nat.le_of_eq (hideAll_size _ _)⟩ (fun q hq => ⟨hk₁ _ _ (N q hq).1, Nat.ne_of_lt (Heap.lt_size (N q hq).1), hideAll_none _ (List.mem_map_of_mem hq)⟩) BG (X₀.keeps st) (T.keeps st)).mono (fun fl s' hl => lv _ _ hl) fun _ _ e => e
end
end

section
open PySem PySem.W PyProof.Rows PySem.Calls
section
variable {M : Model} {A : Around} {E : Value → Shared → Prop} {s : Shared} {env : Env}
theorem wpOk.assign_attr {o value : Expr} {attr : Str} {pos' pos : Pos} {Q : Flow → Shared → Prop} (hs : swapsWith value (some (.Attribute o attr pos')) pos.line env = Pure.pure false)
    (h : wpOk M A (eval value env) (fun v s₁ => wpAny M A (eval o env) (fun ov s₂ => wpAny M A (setAttr ov attr v) (fun _ s' => Q .next s') E s₂) E s₁) E s) :
    wpOk M A (exec (.Assign [.Attribute o attr pos'] value pos) env) Q E s := by
  rw [plainObj_exec_Assign_Attribute (hs := hs)]
  refine wpOk.bind (wpOk.of (wpAny_standAt (wpOk.bind (h.mono (fun v s₁ h₁ => ?_) fun _ _ e => e))))
  refine wpOk.bind (wpOk.of ?_)
  rw [assign_Attribute]
  refine wpAny_bind (wpAny_holding (wpAny_mono h₁ (fun ov s₂ h₂ => ?_) fun _ _ e => e))
  refine wpAny_bind (wpAny_standAt (wpAny_bind (wpAny_holding (wpAny_mono h₂ (fun _ s₃ h₃ => ?_) fun _ _ e => e))))
  exact wpAny_release (wpOk.pure h₃)
theorem wpOk.ifExp {test body orelse : Expr} {pos : Pos} {Q : Value → Shared → Prop} (h : wpAny M A (isTrue test env (eval test env)) (fun c s₂ => if c then wpOk M A (eval body env) Q E s₂ else wpOk M A (eval orelse env) Q E s₂) E s) :
    wpOk M A (eval (.IfExp test body orelse pos) env) Q E s := by
  rw [eval_IfExp]
  refine wpOk.bind (wpOk.of (wpAny_mono h (fun c s₂ h₂ => ?_) fun _ _ e => e))
  cases c <;> exact h₂
theorem splicedOk_nil {Q : List Value → Shared → Prop} (h : Q [] s) : wpOk M A (spliced []) Q E s := wpOk.of (Calls.spliced_nil h)
theorem splicedOk_cons {x : Sem Value} {rest : List (Bool × Sem Value)} {Q : List Value → Shared → Prop} (h : wpOk M A x (fun v s₁ => wpOk M A (spliced rest) (fun vs s₂ => Q (v :: vs) s₂) E s₁) E s) : wpOk M A (spliced ((false, x) :: rest)) Q E s := by
  rw [spliced]
  refine wpOk.bind (h.mono (fun v s₁ h₁ => ?_) fun _ _ e => e)
  simp only [Bool.false_eq_true, if_false]
  exact wpOk.bind (wpOk.pure (wpOk.bind (wpOk.holding (h₁.mono (fun vs s₂ h₂ => wpOk.pure h₂) fun _ _ e => e))))
theorem evalArgsOk {f : Value} {x : Sem Value} {rest : List (Bool × Sem Value)} {Q : Args → Shared → Prop} (h : wpOk M A (spliced ((false, x) :: rest)) (fun vs s' => Q ⟨vs, []⟩ s') E s) : wpOk M A (evalArgs f true ((false, x) :: rest) []) Q E s := by
  unfold evalArgs
  show wpOk M A (spliced ((false, x) :: rest) >>= _) Q E s
  refine wpOk.bind (h.mono (fun vs s' h' => ?_) fun _ _ e => e)
  exact wpOk.holding (wpOk.bind (wpOk.pure (wpOk.bind (wpOk.pure (wpOk.pure h')))))
theorem evalArgsOk0 {f : Value} {Q : Args → Shared → Prop} (h : Q ⟨[], []⟩ s) : wpOk M A (evalArgs f true [] []) Q E s := wpOk.of (evalArgs_nil3 h)
theorem wpOk.keep {α : Type} {vs : List Value} {m : Sem α} {Q : α → Shared → Prop} (h : wpOk M A m Q E s) : wpOk M A (m.keep vs) Q E s := fun Γ p hΓ hc => by rw [Sem.wp_keep]; exact h Γ p hΓ hc
theorem callWithOk {P : Heap → Prop} {pos : Pos} {f : Value} {first : List Value} {args : List (Bool × Sem Value)} {keywords : List (Option Str × Sem Value)} {Q : Value → Shared → Prop} (hplain : (args.any (·.1) || keywords.any (·.1.isNone)) = false)
    (hk : ∀ h, P h → ∃ k, (k = Keeper.frame ∨ k = Keeper.machine ∨ k = Keeper.boundFrame) ∧ Looks M h (keeperOf f) k)
    (h : wpOk M A (evalArgs f true args keywords) (fun a s₁ => P s₁.heap ∧ wpOk M A (call f (first ++ a.pos) a.kw) Q E s₁) E s) : wpOk M A (callWith pos f first args keywords) Q E s := by
  unfold callWith
  refine wpOk.bind (wpOk.holding (h.mono (fun a s₁ h₁ => wpOk.bind (wpOk.of (wpAny_standAt ?_))) fun _ _ e => e))
  obtain ⟨hP, hc⟩ := h₁
  obtain ⟨k, hk', hL⟩ := hk _ hP
  simp only [hplain]
  refine wpOk.bind (wpOk.of (hL.here ?_))
  have fin : ∀ {t : Sem Value}, wpOk M A t Q E s₁ → wpOk M A (t >>= fun r => holding [r] point >>= fun _ => Pure.pure r) Q E s₁ :=
    fun ht => wpOk.bind (ht.mono (fun r s₂ hr => wpOk.bind (wpOk.of (wpAny_holding (wpAny_point (wpOk.pure hr))))) fun _ _ e => e)
  have mk : ∀ v, wpOk M A (callMarked v f (first ++ a.pos) a.kw) Q E s₁ := fun v => wpOk.keep hc
  rcases hk' with rfl | rfl | rfl
  · dsimp only; split
    · exact fin hc
    · exact fin (mk _)
  · exact fin hc
  · dsimp only; split
    · exact fin hc
    · exact fin (mk _)
theorem callNameOk {x : Str} {np pos : Pos} {args : List Expr} {keywords : List Keyword} {Q : Value → Shared → Prop}
    (h : wpAny M A (eval (.Name x np) env) (fun f s₁ => wpOk M A (callWith pos f [] (backTo pos (starEach args env)) (backToKw pos (keywordEach keywords env))) Q E s₁) E s) :
    wpOk M A (eval (.Call (.Name x np) args keywords pos) env) Q E s := by
  show wpOk M A (do callWith pos (← eval (.Name x np) env) [] (backTo pos (starEach args env)) (backToKw pos (keywordEach keywords env))) Q E s
  exact wpOk.bind (wpOk.of h)
theorem callAttrOk {o : Expr} {name : Str} {apos pos : Pos} {args : List Expr} {kws : List Keyword} {pl : Sem Bool} {Q : Value → Shared → Prop}
    (h : wpAny M A (eval o env) (fun ov s₁ => wpAny M A (getMethod ov name pl) (fun fx s₂ => wpOk M A (callWith pos fx.1 fx.2 (backTo pos (starEach args env)) (backToKw pos (keywordEach kws env))) Q E s₂) E s₁) E s)
    (he : eval (.Call (.Attribute o name apos) args kws pos) env = (do
      let ov ← eval o env
      standAt apos.atName
      let (f, first) ← holding [ov] (getMethod ov name pl)
      callWith pos f first (backTo pos (starEach args env)) (backToKw pos (keywordEach kws env))) := by rfl) :
    wpOk M A (eval (.Call (.Attribute o name apos) args kws pos) env) Q E s := by
  rw [he]
  refine wpOk.bind (wpOk.of (wpAny_mono h (fun ov s₁ h₁ => wpOk.bind (wpOk.of (wpAny_standAt ?_))) fun _ _ e => e))
  exact wpOk.bind (wpOk.of (wpAny_holding h₁))
theorem exprOk {e : Expr} {pos : Pos} {Q : Flow → Shared → Prop} (h : wpOk M A (eval e env) (fun v s' => wpAny M A (dropValue e pos v) Q E s') E s)
    (hi : interactive env = false) (hs : swapsWith e none pos.line env = Pure.pure false) : wpOk M A (exec (.Expr e pos) env) Q E s := by
  rw [exec_Expr env e pos hi hs]
  exact wpOk.bind (wpOk.of (wpAny_standAt (wpOk.bind (h.mono (fun v s' h' => wpOk.of h') fun _ _ e => e))))
end
end

section
open PySem PySem.W PyProof.Rows PySem.Calls
local macro_rules | `(tactic| k_all) => `(tactic| assumption)
local macro_rules | `(tactic| walk_at "my enter") => `(tactic| (refine' defOk ?k1 ?k2 ?k3 ?k4 ?k5 ?kA ?kF ?kK ?k6 ?k7 ?k8 ?k9 ?kB ?_ ?c2 ?c3 ?c4 ?c5; (case kA => exact rfl); (case kF => exact rfl); (case kK => assumption); (case k1 => k_asm); (case k2 => k_asm); (case k3 => k_asm); (case k4 => k_asm); (case k5 => k_asm); (case k6 => k_is); (case k7 => k_is); (case k8 => dsimp only [ktrTop]; omega); (case k9 => first | exact BindsTo.of_eq rfl | exact binds_K (by k_in) rfl (by k_is) rfl rfl rfl); (case c5 => decide); (case kB => exact locs rfl); (case c2 => exact rfl); (case c3 => exact rfl); (case c4 => exact rfl); intro g' L' h' FG' F' N' B' X' T'; (try dsimp only); (try k_lift B'); (try k_fold)))
section
open PySem PySem.W PyProof.Rows PySem.Calls
theorem ba_FN {h₀ h h' : Heap} {L : Addr} {m : Str → Option Value} {news : List (Addr × Obj)} {d : Array UInt8} (F : Fr h₀ L h m) (N : News h₀ L h news) (e1 : h'.get? h.objs.size = some (baO d)) (e2 : Heap.SameBut h.objs.size (h.push (baO #[])) h') :
    Fr h₀ L h' m ∧ News h₀ L h' ((h.objs.size, baO d) :: news) ∧ ∀ p ∈ news, @LT.lt Nat _ p.1 h.objs.size := by
  have F1 := F.push (baO #[])
  have N1 := N.push F (baO #[])
  have hlt : ∀ p ∈ news, @LT.lt Nat _ p.1 h.objs.size := fun p hp => Heap.lt_size (N p hp).1
  refine ⟨F1.change e2 (Nat.ne_of_gt F.ns.lt) (next_is_new F), fun p hp => ?_, hlt⟩
  rcases List.mem_cons.mp hp with rfl | hp
  · exact ⟨e1, (N1 _ (.head _)).2⟩
  · exact ⟨e2.extBut _ _ (Nat.ne_of_lt (hlt p hp)) (N1 p (.tail _ hp)).1, (N1 p (.tail _ hp)).2⟩
theorem baK0 {prog : Program} {w : World} {A : Around} {E : Value → Shared → Prop} {s : Shared} {h₀ : Heap} {L : Addr} {m : Str → Option Value} {news : List (Addr × Obj)} {Q : Value → Shared → Prop} (hg : A.guards = some []) (F : Fr h₀ L s.heap m) (N : News h₀ L s.heap news)
    (q : ∀ BA h', Fr h₀ L h' m → News h₀ L h' ((BA, baO #[]) :: news) → (∀ p ∈ news, p.1 < BA) → Q (.ref BA) { s with heap := h' }) : wpOk (model prog w) A (call (.type "bytearray") []) Q E s :=
  ba_make0 hg fun h' e1 e2 => by
    obtain ⟨F2, N2, l2⟩ := ba_FN F N e1 e2
    exact q _ h' F2 N2 l2
theorem baK1 {prog : Program} {w : World} {A : Around} {E : Value → Shared → Prop} {s : Shared} {h₀ : Heap} {L : Addr} {m : Str → Option Value} {news : List (Addr × Obj)} {b : Array UInt8} {t : Tok} {Q : Value → Shared → Prop} (hg : A.guards = some []) (hz : b.size ≤ sizeLine) (F : Fr h₀ L s.heap m) (N : News h₀ L s.heap news)
    (q : ∀ BA h', Fr h₀ L h' m → News h₀ L h' ((BA, baO b) :: news) → (∀ p ∈ news, p.1 < BA) → Q (.ref BA) { s with heap := h' }) : wpOk (model prog w) A (call (.type "bytearray") [.bytes b t]) Q E s :=
  ba_make1 hg hz fun h' e1 e2 => by
    obtain ⟨F2, N2, l2⟩ := ba_FN F N e1 e2
    exact q _ h' F2 N2 l2
section
variable {w : World} {mean : ExcName → Option Value} {mg mb : Str → Option Value} {dp un : Nat} {cn : Str} {cs : Scope} {a : Addr} {ccd : Value} {cl : List (Str × Addr)} {outer : List Env} {A₀ : Around} {base h₀ : Heap} {L : Addr} {m : Str → Option Value} {s : Shared}
  (B : Below A₀ base outer h₀) (X : (K w.params).In h₀) (T : Top qv Lz mean mg mb h₀) (hk : cs.kind = .function) (hd : dp + 8 < recursionLimit) (hu : un + 70 < cLine) (F : Fr h₀ L s.heap m)
  {news : List (Addr × Obj)} {x dx : Addr} {R : Result → Shared → Prop}
include B X T hk hd hu F
set_option maxHeartbeats 1000000 in
theorem initB (N : News h₀ L s.heap ((x, instObj 365 dx) :: (dx, emptyDict) :: news)) (hlt : @LT.lt Nat _ dx x) (hn : ∀ p ∈ news, p.1 ≠ dx)
    (hret : ∀ BA h' tk' t1 t2 t3, Fr h₀ L h' m → News h₀ L h' ((BA, baO #[]) :: (x, instObj 365 dx) :: (dx, sD w.params BA 0 t1 t2 t3) :: news) → @LT.lt Nat _ x BA → @LT.lt Nat _ dx BA → (∀ p ∈ news, @LT.lt Nat _ p.1 BA) → R (.ok (.ret .none)) { s with heap := h', toks := tk' }) :
    codeOk (model pwS w) (ktrTop dp un (some []) cn cs L a ccd cl outer) (.call (.ref 152) ⟨[.ref x], []⟩) R s := by
  k_dflt (walk_at "my enter")
  show wpOk _ _ (execs (_ :: _ :: _ :: []) _) _ _ _
  refine wpOk.execs_cons (wpOk.of ?_)
  k_steps
  show wpOk _ _ (execs (_ :: _) _) _ _ _
  refine wpOk.execs_cons (wpOk.assign_attr rfl (wpOk.ifExp ?_))
  k_steps
  refine callNameOk ?_
  k_steps
  rename_i F1 N1 B1 X1 T1
  refine callWithOk (P := fun _ => True) rfl (fun h _ => ⟨.machine, .inr (.inl rfl), Looks.of_pure rfl⟩) (evalArgsOk0 ⟨trivial, baK0 rfl F1 N1 fun BA h2 F2 N2 l2 => ?_⟩)
  have l3 : ∀ p ∈ news, @LT.lt Nat _ p.1 BA := fun p hp => l2 p (.tail _ (.tail _ hp))
  k_lt l2
  clear F1 N1
  k_steps
  refine wpOk.of (?_ : wpAny _ _ (execs (_ :: _) _) _ _ _)
  k_steps
  all_goals (rename_i kF kN Tc kX; exact hret BA _ _ _ _ _ kF kN (by omega) (by omega) l3)
end
end

section
open PySem PySem.W PyProof.Rows PySem.Calls Builtin
theorem wpOk.specialFn {M : Model} {K' : Frag} {A : Around} {E : Value → Shared → Prop} {s : Shared} {x C f : Addr} {ox : Obj} {od : Option Obj} {name : Str} {args : List Value} {Q : Option Value → Shared → Prop} (X : K'.In s.heap) (I : InstAt s.heap x ox C od)
    (hs : findIn K' (.ref C) name = some (some (.ref f))) (hf : typeIn K' (.ref f) = some (.type "function")) (h : wpOk M A (PySem.call (.ref f) (.ref x :: args)) (fun v => Q (some v)) E s) : wpOk M A (callSpecial? (.ref x) name args) Q E s := by
  unfold callSpecial?
  refine wpOk.bind (wpOk.of (wpAny_bind (I.type.here ((looks_findIn X hs).here ?_))))
  dsimp only
  refine wpOk.holding (wpOk.bind (wpOk.of ((bind_fn X _ hf).here ?_)))
  exact wpOk.bind (h.mono (fun v s' h' => wpOk.pure h') fun _ _ e => e)
section
variable {w : World} {mean : ExcName → Option Value} {mg mb : Str → Option Value} {dp un : Nat} {cn : Str} {cs : Scope} {a : Addr} {ccd : Value} {cl : List (Str × Addr)} {outer : List Env} {A₀ : Around} {base h₀ : Heap} {L : Addr} {m : Str → Option Value} {s : Shared} {Q E : Value → Shared → Prop}
  {news : List (Addr × Obj)}
theorem makeOk {C fI : Addr} (F : Fr h₀ L s.heap m) (X : (K w.params).In h₀) (Y : MadeK C fI)
    (hnew : ∀ (R' : Result → Shared → Prop), (∀ x dx h' tk', Fr h₀ L h' m → News h₀ L h' ((x, instObj C dx) :: (dx, emptyDict) :: news) → (∀ p ∈ news, p.1 < dx) → dx < x → R' (.ok (.ret (.ref x))) { s with heap := h', toks := tk' }) → ∀ tk, codeAny (model pwS w) (ktrTop (dp + 1) (un + 1) (some []) cn cs L a ccd cl outer) (.call (.ref 105) ⟨[.ref C], []⟩) R' { s with toks := tk })
    (hret : ∀ x dx h' tk', Fr h₀ L h' m → News h₀ L h' ((x, instObj C dx) :: (dx, emptyDict) :: news) → (∀ p ∈ news, p.1 < dx) → dx < x → wpOk (model pwS w) (ktrTop (dp + 1) (un + 1) (some []) cn cs L a ccd cl outer) (PySem.call (.ref fI) [.ref x]) (fun v s' => v = .none ∧ Q (.ref x) s') E { s with heap := h', toks := tk' }) :
    wpOk (model pwS w) (ktrTop dp un (some []) cn cs L a ccd cl outer) (PySem.call (.ref C) []) Q E s := by
  obtain ⟨oc, od, cd, sl, hC0⟩ := Y.cls w.params
  obtain ⟨x0, l0, hmro⟩ := Y.mro
  have X' := X.keeps F.keep
  have hC := X' _ _ hC0
  have made : Looks (model pwS w) s.heap (Bind.madeBy (.ref C)) none := Looks.of_peek (M := model pwS w) X' (Y.made w.params)
  have call : Looks (model pwS w) s.heap (specialOf (.ref C) "__call__") (some (.builtin "type.__call__")) := Looks.of_peek (M := model pwS w) X' (Y.call w.params)
  have chk : Looks (model pwS w) s.heap (checkBuiltinCall "type.__call__" ⟨[.ref C], []⟩) () := Looks.of_peek (M := model pwS w) X' (Y.chk w.params)
  have hm : Looks (model pwS w) s.heap (mroOf (.ref C)) (x0 :: l0) := Looks.of_peek (M := model pwS w) X' (hmro w.params)
  refine wpOk.call (codeOk.tree (wpOk.of ?_))
  show wpAny _ _ (callAny (.ref C) _) _ _ _
  refine nd_load hC ?_
  show wpAny _ _ (callAny.viaDunder (.ref C) _) _ _ _
  unfold callAny.viaDunder
  refine wpAny_bind (call.here ?_)
  dsimp only
  rw [tc_bind]
  refine wpAny_bind (wpAny_pure (wpAny_bind (wpAny_pure ?_)))
  refine wpAny_pure (a := Fin.again (.call (.builtin "type.__call__") ⟨[.ref C], []⟩)) ⟨rfl, rfl, codeOk.tree (wpOk.of ?_)⟩
  show wpAny _ _ (do checkBuiltinCall "type.__call__" ⟨[.ref C], []⟩; again (.builtin "type.__call__" ⟨[.ref C], []⟩)) _ _ _
  refine wpAny_bind (chk.here (wpAny_pure ⟨Code.quiet_builtin _ (by decide +kernel), clean_id (by decide +kernel) _, codeOk.builtin entry_typeCall ?_⟩))
  have hA : (ktrTop dp un (some []) cn cs L a ccd cl outer).under (Code.builtin "type.__call__" ⟨[.ref C], []⟩) = ktrTop (dp + 1) (un + 1) (some []) cn cs L a ccd cl outer := rfl
  rw [hA]
  unfold Builtin.«type.__call__»
  show wpOk _ _ (mroOf (.ref C) >>= _) _ _ _
  refine wpOk.bind (wpOk.of (hm.here ?_))
  rw [if_neg (by simp)]
  refine wpOk.bind (wpOk.of (made.here ?_))
  dsimp only
  refine wpOk.bind (wpOk.of (cls_sm (C := C) F X (Y.typ _) (Y.rd _) (Y.fnd _) (recSm _) rfl ?_))
  refine wpOk.bind (wpOk.holding (wpOk.of (wpAny_call (hnew _ (fun x dx h' tk' F' N' l1 l2 => ?_) (s.toks + 1)))))
  have I : InstAt h' x (instObj C dx) C (some emptyDict) := InstAt.of_news N' (.head _) (.tail _ (.head _))
  have X2 := X.keeps F'.keep
  have self : Looks (model pwS w) h' (isSubtype (.ref C) (.ref C)) true := Looks.of_peek (M := model pwS w) X2 (Y.self w.params)
  dsimp only
  unfold isInstance
  refine wpOk.bind (wpOk.of (wpAny_bind (I.type.here (self.here ?_))))
  simp only [Bool.not_true, Bool.false_eq_true, if_false]
  refine wpOk.bind (wpOk.holding (wpOk.specialFn X2 I (Y.ini _) (Y.ifn _) ?_))
  refine (hret x dx h' tk' F' N' l1 l2).mono (fun v s' hv => ?_) fun _ _ e => e
  obtain ⟨rfl, hv⟩ := hv
  dsimp only
  rw [if_neg (by decide)]
  exact wpOk.pure hv
end
end

section
open PySem PySem.W PyProof.Rows PySem.Calls
section
variable {w : World} {mean : ExcName → Option Value} {mg mb : Str → Option Value} {dp un : Nat} {gd : Option (List Code)} {cn : Str} {cs : Scope} {a : Addr} {ccd : Value} {cl : List (Str × Addr)} {outer : List Env} {A₀ : Around} {base h₀ : Heap} {L : Addr} {m : Str → Option Value} {s : Shared} {Q E : Value → Shared → Prop}
  (B : Below A₀ base outer h₀) (X : (K w.params).In h₀) (T : Top qv Lz mean mg mb h₀) (hk : cs.kind = .function)
  {news : List (Addr × Obj)} {x dx : Addr}
include B X T hk
/-- BytesIO() -/
theorem bytesIO (hd : dp + 10 < recursionLimit) (hu : un + 90 < cLine) (F : Fr h₀ L s.heap m) (N : News h₀ L s.heap news)
    (hret : ∀ x dx BA h' tk' t1 t2 t3, Fr h₀ L h' m → News h₀ L h' ((BA, baO #[]) :: (x, instObj 365 dx) :: (dx, sD w.params BA 0 t1 t2 t3) :: news) → (∀ p ∈ news, p.1 < dx) → @LT.lt Nat _ dx x → @LT.lt Nat _ x BA → Q (.ref x) { s with heap := h', toks := tk' }) :
    wpOk (model pwS w) (ktrTop dp un (some []) cn cs L a ccd cl outer) (call (.ref 365) []) Q E s :=
  makeOk F X madeB (fun R' hR tk => newB_code (s := { s with toks := tk }) B X T hk (by omega) (by omega) F N hR) fun x dx h' tk' F' N' l1 l2 =>
    wpOk.call (initB (s := { s with heap := h', toks := tk' }) B X T hk (by omega) (by omega) F' N' l2 (fun p hp => Nat.ne_of_lt (l1 p hp)) fun BA h2 tk2 t1 t2 t3 F2 N2 l3 l4 l5 => ⟨rfl, hret x dx BA h2 tk2 t1 t2 t3 F2 N2 l1 l2 l3⟩)
local macro_rules | `(tactic| walk_at "my enter") => `(tactic| (refine' code_def ?k1 ?k2 ?k3 ?k4 ?k5 ?kA ?kF ?kK ?k6 ?k7 ?k8 ?k9 ?kB ?_ ?c2 ?c3 ?c4 ?c5; (case kA => exact rfl); (case kF => exact rfl); (case kK => assumption); (case k1 => k_asm); (case k2 => k_asm); (case k3 => k_asm); (case k4 => k_asm); (case k5 => k_asm); (case k6 => k_is); (case k7 => k_is); (case k8 => dsimp only [ktrTop]; omega); (case k9 => first | exact BindsTo.of_eq rfl | exact binds_K (by k_in) rfl (by k_is) rfl rfl rfl); (case c5 => decide); (case kB => exact locs rfl); (case c2 => exact rfl); (case c3 => exact rfl); (case c4 => exact rfl); k_whole; intro g' L' h' FG' F' N' B' X' T'; (try dsimp only); (try k_lift B'); (try k_fold)))
/-- the StringIO object's own dict -/
noncomputable abbrev zD (P : Params) (p1 p2 p3 p4 p5 p6 : Tok) : Obj :=
  dictOf [⟨PyData.keyHash P "_StringIO__newline", .str "_StringIO__newline" p1, .str "\n" p2⟩, ⟨PyData.keyHash P "_StringIO__buf", .str "_StringIO__buf" p3, .str "" p4⟩, ⟨PyData.keyHash P "_StringIO__pos", .str "_StringIO__pos" p5, .int 0 p6⟩] 3
set_option maxHeartbeats 1000000 in
theorem translated_spec {p1 p2 p3 p4 p5 p6 tz : Tok} (hd : dp + 5 < recursionLimit) (hu : un + 40 < cLine) (F : Fr h₀ L s.heap m) (hS : (x, instObj 612 dx) ∈ news) (hD : (dx, zD w.params p1 p2 p3 p4 p5 p6) ∈ news) (N : News h₀ L s.heap news)
    (hret : ∀ h' tk' t', Fr h₀ L h' m → News h₀ L h' news → Q (.str "" t') { s with heap := h', toks := tk' }) :
    wpAny (model pwS w) (ktrTop dp un gd cn cs L a ccd cl outer) (call (.ref 389) [.ref x, .str "" tz]) Q E s := by
  replace N := news_more (news_more N hS) (.tail _ hD)
  refine wpAny_call ?_
  k_dflt (walk_at "my enter")
  k_steps
  all_goals exact hret _ _ _ (by assumption) (news_less (news_less (by assumption)))
local macro_rules | `(tactic| walk_at "call ref") => `(tactic| (k_here; k_dflt (refine' translated_spec ?B ?X ?T ?hk ?hd ?hu ?F ?hS ?hD ?N ?_; (case B => k_asm); (case X => k_asm); (case T => k_asm); (case hk => first | exact rfl | assumption); (case F => k_asm); (case N => k_asm); (case hS => k_mem); (case hD => k_mem); (case hd => (try dsimp only [ktrTop]); omega); (case hu => (try dsimp only [ktrTop]); omega)); intro h' tk' t' F' N'; (try dsimp only)))
set_option maxHeartbeats 2000000 in
theorem initS (hd : dp + 8 < recursionLimit) (hu : un + 80 < cLine) (F : Fr h₀ L s.heap m) (N : News h₀ L s.heap ((x, instObj 612 dx) :: (dx, emptyDict) :: news)) (hlt : @LT.lt Nat _ dx x) (hn : ∀ p ∈ news, p.1 ≠ dx)
    (hret : ∀ h' tk', Fr h₀ L h' m → News h₀ L h' news → Q .none { s with heap := h', toks := tk' }) :
    wpAny (model pwS w) (ktrTop dp un gd cn cs L a ccd cl outer) (call (.ref 382) [.ref x]) Q E s := by
  refine wpAny_call ?_
  k_dflt (walk_at "my enter")
  k_steps
  all_goals exact hret _ _ (by assumption) (news_less (news_less (by assumption)))
/-- StringIO() -/
theorem stringIO (hd : dp + 10 < recursionLimit) (hu : un + 90 < cLine) (F : Fr h₀ L s.heap m) (N : News h₀ L s.heap news)
    (hret : ∀ x h' tk', Fr h₀ L h' m → News h₀ L h' news → Q (.ref x) { s with heap := h', toks := tk' }) :
    wpAny (model pwS w) (ktrTop dp un gd cn cs L a ccd cl outer) (call (.ref 612) []) Q E s :=
  makeS B X T hk (by omega) (by omega) F N fun x dx h' tk' F' N' l1 l2 => initS (s := { s with heap := h', toks := tk' }) B X T hk (by omega) (by omega) F' N' l2 (fun p hp => Nat.ne_of_lt (l1 p hp)) fun h2 tk2 F2 N2 => ⟨rfl, hret x h2 tk2 F2 N2⟩
end
end

section
open PySem PySem.W PyProof.Rows PySem.Calls
theorem slot_ba_set : Slot "bytearray" "__setitem__" "bytearray.__setitem__" :=
  .of (owner := "bytearray") (n := "__setitem__") (by rw [typeLookup_type, builtinLookup_eq_fast]; kernel_rfl) (by decide +kernel) (by decide +kernel) (by decide +kernel)
    (by first | exact .inl (by decide +kernel) | exact .inr (by decide +kernel)) (by rw [isSubtype_type]; kernel_rfl)
theorem entry_ba_set : entryFor table "bytearray.__setitem__" = some Builtin.«bytearray.__setitem__» := entryFor_of_tree (by kernel_rfl)
theorem args_ba_set (a b c : Value) : argsOk "bytearray.__setitem__" ⟨[a, b, c], []⟩ := by unfold argsOk; kernel_rfl
theorem by_no_int : typeLookup (.type "bytes") "__int__" = pure none := by rw [typeLookup_type, builtinLookup_eq_fast]; kernel_rfl
theorem by_no_float : typeLookup (.type "bytes") "__float__" = pure none := by rw [typeLookup_type, builtinLookup_eq_fast]; kernel_rfl
theorem by_no_complex : isSubtype (.type "bytes") (.type "complex") = pure false := by rw [isSubtype_type]; kernel_rfl
theorem by_no_ba : isSubtype (.type "bytes") (.type "bytearray") = pure false := by rw [isSubtype_type]; kernel_rfl
section
variable {prog : Program} {w : World} {A : Around} {E : Value → Shared → Prop} {s : Shared} {a : Addr} {d : Array UInt8}
theorem ba_sliceParts {sl : Addr} {x y : Int} {t u : Tok} {Q : Value × Value × Value → Shared → Prop} (hs : s.heap.IsSliceOf sl (.int x t) (.int y u) .none) (q : Q (rawInt x, rawInt y, .none) s) :
    wpAny (model prog w) A (Builtin.Bytes.sliceParts (.ref sl)) Q E s := by
  obtain ⟨os, hos, hcs, hds⟩ := hs
  unfold Builtin.Bytes.sliceParts
  refine wpAny_bind (wpAny_field hos hds (x := .none) rfl ?_)
  refine wpAny_bind (wpAny_ite ?_)
  rw [if_pos (by decide)]
  refine wpAny_pure ?_
  rw [if_neg (show ¬ ((Value.none == rawInt 0) = true) from Bool.false_ne_true)]
  refine wpAny_bind (wpAny_field hos hds (x := .int x t) rfl ?_)
  refine wpAny_bind (ba_part ?_)
  refine wpAny_bind (wpAny_field hos hds (x := .int y u) rfl ?_)
  refine wpAny_bind (ba_part ?_)
  exact wpAny_pure q
theorem ba_checkResize {Q : Unit → Shared → Prop} (hg : A.guards = some []) (h : s.heap.get? a = some (baO d)) (q : Q () s) : wpOk (model prog w) A (Builtin.Bytes.checkResize (.ref a)) Q E s := by
  unfold Builtin.Bytes.checkResize
  refine wpOk.bind (not_held hg h ?_)
  simp only [Bool.false_eq_true, if_false]
  exact wpOk.pure q
theorem wp_or_false {M : Model} {m₁ m₂ : Sem Bool} {Q : Bool → Shared → Prop} (h : wpAny M A m₁ (fun r s' => r = false ∧ wpAny M A m₂ Q E s') E s) : wpAny M A (m₁ <||> m₂) Q E s := by
  unfold orM
  refine wpAny_bind (wpAny_mono h (fun r s' hr => ?_) fun _ _ e => e)
  obtain ⟨rfl, hr⟩ := hr
  exact hr
theorem has_none {M : Model} {v : Value} {T : String} {name : Str} {Q : Bool → Shared → Prop} (hT : s.TypeIs v T) (hl : typeLookup (.type T) name = pure none) (q : Q false s) : wpAny M A (do let z ← specialOf v name; pure z.isSome) Q E s :=
  wpAny_bind (wpAny_specialOf hT hl (wpAny_pure q))
set_option maxHeartbeats 1000000 in
/-- an empty bytearray's slice 0:n gets these n bytes -/
theorem ba_setRun {sl : Addr} {b : Array UInt8} {t u tb : Tok} {Q : PySem.Fin → Shared → Prop} (hg : A.guards = some []) (h : s.heap.get? a = some (baO #[])) (hs : s.heap.IsSliceOf sl (.int 0 t) (.int b.size u) .none) (hz : b.size ≤ sizeLine) (hb : 0 < b.size)
    (q : ∀ h' h2, (∀ x o, s.heap.get? x = some o → h'.get? x = some o) → h2.get? a = some (baO b) → Heap.SameBut a h' h2 → Q (.done (.ret .none)) { s with heap := h2 }) :
    wpOk (model prog w) A (Builtin.«bytearray.__setitem__» ⟨[.ref a, .ref sl, .bytes b tb], []⟩) Q E s := by
  have hT := fun s => PySem.W.typeIs_bytes s b tb
  have hTs : s.TypeIs (.ref sl) "slice" := by obtain ⟨os, hos, hcs, hds⟩ := hs; exact ⟨os, hos, hcs⟩
  unfold Builtin.«bytearray.__setitem__»
  show wpOk _ _ (Builtin.Bytes.subscript? (.ref sl) >>= _) _ _ _
  refine wpOk.bind (wpOk.of ?_)
  unfold Builtin.Bytes.subscript?
  refine wpAny_bind (wpAny_specialOf hTs slice_no_index ?_)
  simp only [Option.isNone_none, if_true]
  refine wpAny_pure ?_
  dsimp only
  refine wpOk.bind (wpOk.of (wpAny_typeOf hTs ?_))
  rw [if_neg (by decide)]
  refine wpOk.bind (wpOk.of (ba_sliceParts hs ?_))
  rw [if_neg (show ¬ (Builtin.Bytes.sameRef (Value.ref a) (Value.bytes b tb) = true) from Bool.false_ne_true)]
  refine wpOk.bind (wpOk.of (wpAny_isInstance (hT _) by_no_ba ?_))
  simp only [Bool.not_false, if_true]
  refine wpOk.bind (wpOk.of ?_)
  refine wp_or_false (has_none (hT _) by_no_index ⟨rfl, ?_⟩)
  refine wp_or_false (has_none (hT _) by_no_int ⟨rfl, ?_⟩)
  refine wp_or_false (has_none (hT _) by_no_float ⟨rfl, ?_⟩)
  refine wpAny_isInstance (hT _) by_no_complex ?_
  refine wpOk.bind (wpOk.of (wpAny_of_eq (a := none) rfl ?_))
  simp only [Option.isSome_none, Bool.or_false, Bool.false_eq_true, if_false]
  refine wpOk.bind (wpOk.of (wpAny_rule ?_))
  refine wpOk.bind (ba_make1 hg hz fun h1 e1 e2 => ?_)
  have k1 : ∀ x o, s.heap.get? x = some o → h1.get? x = some o := fun x o e => e2.extBut x o (Nat.ne_of_lt (Heap.lt_size e)) (Heap.get?_push_of_some _ e)
  have hs1 : h1.IsSliceOf sl (.int 0 t) (.int b.size u) .none := by obtain ⟨os, hos, hcs, hds⟩ := hs; exact ⟨os, k1 _ _ hos, hcs, hds⟩
  refine wpOk.bind (wpOk.of (wpAny_holding (ba_sliceParts (s := { s with heap := h1 }) hs1 ?_)))
  refine wpOk.bind (wpOk.of (ba_payload (s := { s with heap := h1 }) e1 ?_))
  refine wpOk.bind (wpOk.of (ba_payload (s := { s with heap := h1 }) (k1 _ _ h) ?_))
  refine wpOk.bind (wpOk.of (wpAny_of_eq (sliceIndices_raw (some 0) (some (b.size : Int)) none 0 (by simp)) ?_))
  have eb : sliceBounds (some 0) (some (b.size : Int)) none 0 = (0, 0, 1) := by
    simp only [sliceBounds, Option.getD_none, show (1 : Int) > 0 by decide, if_true, if_neg (show ¬ ((b.size : Int) < 0) by omega), if_neg (show ¬ ((0 : Int) < 0) by omega)]
    congr 1
    congr 1
    omega
  rw [eb]
  dsimp only
  rw [if_pos (by decide)]
  refine wpOk.bind (wpOk.of (wpAny_rule ?_))
  rw [if_pos (show ((b.size : Int) != max 0 0 - 0) = true by rw [bne_iff_ne]; omega)]
  have hf : ((#[] : Array UInt8).extract 0 (0 : Int).toNat ++ b ++ (#[] : Array UInt8).extract (max (0 : Int) 0).toNat (#[] : Array UInt8).size) = b := by simp
  refine wpOk.bind (ba_checkResize (s := { s with heap := h1 }) hg (k1 _ _ h) ?_)
  refine wpOk.bind (wpOk.of (ba_write (s := { s with heap := h1 }) (k1 _ _ h) (by rw [hf]; exact hz) ?_))
  refine wpOk.pure (q h1 _ k1 ?_ (Heap.SameBut.update ..))
  refine (Heap.get?_update_self (Obj.mapBytearray fun b0 => b0.extract 0 (0 : Int).toNat ++ b ++ b0.extract (max (0 : Int) 0).toNat b0.size) (k1 _ _ h) rfl).trans ?_
  exact congrArg (fun x => some (baO x)) hf
theorem setItemK {h₀ : Heap} {L : Addr} {m : Str → Option Value} {pre post : List (Addr × Obj)} {b : Array UInt8} {t u tb : Tok} {Q : Unit → Shared → Prop} (hg : A.guards = some []) (F : Fr h₀ L s.heap m) (N : News h₀ L s.heap (pre ++ (a, baO #[]) :: post))
    (h1 : ∀ q ∈ pre, q.1 ≠ a) (h2 : ∀ q ∈ post, q.1 ≠ a) (hz : b.size ≤ sizeLine) (hb : 0 < b.size)
    (q : ∀ h', Fr h₀ L h' m → News h₀ L h' (pre ++ (a, baO b) :: post) → Q () { s with heap := h' }) :
    wpOk (model prog w) A (setItem (.ref a) (.ref s.heap.objs.size) (.bytes b tb)) Q E { s with heap := s.heap.push { cls := .type "slice", data := .fields #[.int 0 t, .int b.size u, .none] } } := by
  have hm := N (a, baO #[]) (List.mem_append_right _ (.head _))
  have ha := Heap.get?_push_of_some { cls := .type "slice", data := .fields #[.int 0 t, .int b.size u, .none] } hm.1
  have hTa := ba_T (s := { s with heap := s.heap.push { cls := .type "slice", data := .fields #[.int 0 t, .int b.size u, .none] } }) ha
  unfold setItem
  refine wpOk.holding (wpOk.bind (wpOk.of (wpAny_sequenceKey hTa (by decide) ?_)))
  refine wpOk.bind (wpOk.special (name := Str.ofString "__setitem__") hTa slot_ba_set (wpOk.entry slot_ba_set hTa entry_ba_set (by decide +kernel) ?_ (args_ba_set _ _ _)))
  refine ba_setRun hg ha (Heap.IsSliceOf.new ..) hz hb fun h' h3 k e1 e2 => ⟨_, rfl, wpOk.pure (q h3 ?_ ?_)⟩
  · exact ((F.push _).keeps k).change e2 hm.2.1 hm.2.2
  · intro x hx
    rcases List.mem_append.mp hx with hx | hx
    · have := N x (List.mem_append_left _ hx)
      exact ⟨e2.extBut _ _ (h1 x hx) (k _ _ (Heap.get?_push_of_some _ this.1)), this.2⟩
    · rcases List.mem_cons.mp hx with rfl | hx
      · exact ⟨e1, hm.2⟩
      · have := N x (List.mem_append_right _ (.tail _ hx))
        exact ⟨e2.extBut _ _ (h2 x hx) (k _ _ (Heap.get?_push_of_some _ this.1)), this.2⟩
end
end

section
open PySem PySem.W PyProof.Rows PySem.Calls
theorem wpOk.assign_sub {M : Model} {A : Around} {E : Value → Shared → Prop} {s : Shared} {env : Env} {o i value : Expr} {pos' pos : Pos} {Q : Flow → Shared → Prop} (hs : swapsWith value (some (.Subscript o i pos')) pos.line env = Pure.pure false)
    (h : wpAny M A (eval value env) (fun v s₁ => wpAny M A (eval o env) (fun ov s₂ => wpAny M A (eval i env) (fun iv s₃ => wpOk M A (setItem ov iv v) (fun _ s' => Q .next s') E s₃) E s₂) E s₁) E s) :
    wpOk M A (exec (.Assign [.Subscript o i pos'] value pos) env) Q E s := by
  rw [exec_Assign_Subscript (hs := hs)]
  refine wpOk.bind (wpOk.of (wpAny_standAt (wpOk.bind (wpOk.of (wpAny_mono h (fun v s₁ h₁ => ?_) fun _ _ e => e)))))
  rw [assign_Subscript]
  refine wpOk.bind (wpOk.bind (wpOk.of (wpAny_holding (wpAny_mono h₁ (fun ov s₂ h₂ => ?_) fun _ _ e => e))))
  refine wpOk.bind (wpOk.of (wpAny_holding (wpAny_mono h₂ (fun iv s₃ h₃ => ?_) fun _ _ e => e)))
  refine wpOk.bind (wpOk.of (wpAny_standAt (wpOk.bind (wpOk.holding (h₃.mono (fun _ s₄ q => ?_) fun _ _ e => e)))))
  exact wpOk.of (wpAny_release (wpOk.pure q))
section
variable {w : World} {mean : ExcName → Option Value} {mg mb : Str → Option Value} {dp un : Nat} {cn : Str} {cs : Scope} {a : Addr} {ccd : Value} {cl : List (Str × Addr)} {outer : List Env} {A₀ : Around} {base h₀ : Heap} {L : Addr} {m : Str → Option Value} {s : Shared}
  (B : Below A₀ base outer h₀) (X : (K w.params).In h₀) (T : Top qv Lz mean mg mb h₀) (hk : cs.kind = .function) (hd : dp + 8 < recursionLimit) (hu : un + 70 < cLine) (F : Fr h₀ L s.heap m)
  {news : List (Addr × Obj)} {S DS BA : Addr} {R : Result → Shared → Prop} {b : Array UInt8} {tb t1 t2 t3 : Tok}
include B X T hk hd hu F
local macro_rules | `(tactic| walk_at "call ref") => `(tactic| (k_here; k_dflt (refine' check_spec ?B ?X ?T ?hk ?hd ?hu ?F ?hS ?hD ?N ?_; (case B => k_asm); (case X => k_asm); (case T => k_asm); (case hk => first | exact rfl | assumption); (case F => k_asm); (case N => k_asm); (case hS => k_mem); (case hD => k_mem); (case hd => dsimp only [ktrTop]; omega); (case hu => dsimp only [ktrTop]; omega)); intro h' tk' F' N'; (try dsimp only)))
local macro_rules | `(tactic| walk_at "call builtin:len") => `(tactic| (k_here; (with_reducible show wpAny _ _ (call (Value.builtin "len") [Value.bytes _ _]) _ _ _); (refine len_bytes (by omega) ?_)))
local macro_rules | `(tactic| walk_at "call builtin:len") => `(tactic| (k_here; (with_reducible show wpAny _ _ (call (Value.builtin "len") [Value.ref _]) _ _ _); (refine ba_len (News.get (by k_asm) (by k_mem)) (by simp) ?_)))
local macro_rules | `(tactic| walk_at "call type:type") => `(tactic| (k_here; (with_reducible show wpAny _ _ (call _ [Value.bytes _ _]) _ _ _); refine call_type_of (Tx := "bytes") (typeIs_bytes _ _ _) (by decide +kernel) ?_))
set_option maxHeartbeats 2000000 in
theorem write_code (N : News h₀ L s.heap ((BA, baO #[]) :: (S, instObj 365 DS) :: (DS, sD w.params BA 0 t1 t2 t3) :: news)) (l1 : @LT.lt Nat _ DS S) (l2 : @LT.lt Nat _ S BA) (hB : ∀ p ∈ news, p.1 ≠ BA) (hD : ∀ p ∈ news, p.1 ≠ DS) (hb0 : 0 < b.size) (hb1 : b.size ≤ 1000)
    (hret : ∀ h' tk' t' t3', Fr h₀ L h' m → News h₀ L h' ((BA, baO b) :: (S, instObj 365 DS) :: (DS, sD w.params BA b.size t1 t2 t3') :: news) → R (.ok (.ret (.int b.size t'))) { s with heap := h', toks := tk' }) :
    codeOk (model pwS w) (ktrTop dp un (some []) cn cs L a ccd cl outer) (.call (.ref 348) ⟨[.ref S, .bytes b tb], []⟩) R s := by
  k_dflt (walk_at "my enter")
  show wpOk _ _ (execs (_ :: _) _) _ _ _
  refine wpOk.execs_cons (wpOk.of ?_)
  k_steps
  show wpOk _ _ (execs (_ :: _) _) _ _ _
  refine wpOk.execs_cons (wpOk.of ?_)
  k_steps
  show wpOk _ _ (execs (_ :: _) _) _ _ _
  refine wpOk.execs_cons (wpOk.of ?_)
  k_steps
  show wpOk _ _ (execs (_ :: _) _) _ _ _
  refine wpOk.execs_cons (wpOk.of ?_)
  k_steps
  show wpOk _ _ (execs (_ :: _) _) _ _ _
  refine wpOk.execs_cons (wpOk.of ?_)
  k_steps
  show wpOk _ _ (execs (_ :: _) _) _ _ _
  refine wpOk.execs_cons (wpOk.of ?_)
  k_steps
  show wpOk _ _ (execs (_ :: _) _) _ _ _
  refine wpOk.execs_cons (wpOk.of ?_)
  k_steps
  show wpOk _ _ (execs (_ :: _) _) _ _ _
  refine wpOk.execs_cons (wpOk.assign_sub rfl ?_)
  k_steps
  · with_reducible rename Fr _ _ _ _ => F1
    with_reducible rename News _ _ _ _ => N1
    rw [Int.zero_add]
    refine setItemK (s := ⟨_, s.gens, s.drawn, _, s.os⟩) (pre := []) rfl F1 N1 (fun q hq => nomatch hq) (fun q hq => ?_) (by rw [sizeLine_eq]; omega) hb0 fun h2 F2 N2 => ?_
    · rcases List.mem_cons.mp hq with rfl | hq
      · exact Nat.ne_of_lt l2
      · rcases List.mem_cons.mp hq with rfl | hq
        · exact Nat.ne_of_lt (Nat.lt_trans l1 l2)
        · exact hB q hq
    · rw [List.nil_append] at N2
      clear F1 N1
      refine wpOk.of (?_ : wpAny _ _ (execs (_ :: _) _) _ _ _)
      k_steps
      all_goals (rename_i kF kN Tc kX; rw [Int.zero_add] at kN; exact hret _ _ _ _ kF kN)
  · exfalso; omega
end
end

section
open PySem PySem.W PyProof.Rows PySem.Calls
theorem exprOkM {prog : Program} {w : World} {A : Around} {E : Value → Shared → Prop} {s : Shared} {env : Env} {e : Expr} {pos : Pos} {Q : Flow → Shared → Prop} (h : wpOk (model prog w) A (eval e env) (fun v s' => Q .next s') E s)
    (hi : interactive env = false) (hs : swapsWith e none pos.line env = Pure.pure false) : wpOk (model prog w) A (exec (.Expr e pos) env) Q E s :=
  exprOk (h.mono (fun _ _ q => wpAny_dropValue q) fun _ _ e => e) hi hs
theorem none_in3 {prog : Program} {w : World} {A : Around} {E : Value → Shared → Prop} {s : Shared} {l : Addr} {x y z : Str} {tx ty tz : Tok} {Q : Value → Shared → Prop} (hl : s.heap.IsTuple l #[.str x tx, .str y ty, .str z tz]) (c1 : (PyData.str x).canLay0 = true) (c2 : (PyData.str y).canLay0 = true) (c3 : (PyData.str z).canLay0 = true) (hu : A.units + 3 < cLine) (h : Q (.bool false) s) :
    wpAny (model prog w) A (compareOp .In .none (.ref l)) Q E s := by
  refine SeqAt.in_tupleAt (fun _ => false) hl (fun v hv => ?_) (by simpa using h)
  have : ∃ x t, v = .str x t ∧ (PyData.str x).canLay0 = true := by
    simp at hv
    rcases hv with rfl | rfl | rfl
    · exact ⟨_, _, rfl, c1⟩
    · exact ⟨_, _, rfl, c2⟩
    · exact ⟨_, _, rfl, c3⟩
  obtain ⟨x, t, rfl, c⟩ := this
  exact SeqAt.eqAt_reads (.str x) .none A.in1 s _ _ _ _ (.str x t) .none c rfl (by show A.units + 1 + _ < _; simp [PyData.depth]; omega)
noncomputable def setupB : List Stmt := bodyS (topS pwS 14)
section
variable {w : World} {mean : ExcName → Option Value} {mg mb : Str → Option Value} {dp un : Nat} {cn : Str} {cs : Scope} {a : Addr} {ccd : Value} {cl : List (Str × Addr)} {outer : List Env} {A₀ : Around} {base h₀ : Heap} {L : Addr} {m : Str → Option Value} {s : Shared}
  {news : List (Addr × Obj)} {D : Addr} {oD : Obj}
local macro_rules | `(tactic| walk_at "my enter0") => `(tactic| (refine' code_def ?k1 ?k2 ?k3 ?k4 ?k5 ?kA ?kF ?kK ?k6 ?k7 ?k8 ?k9 ?kB ?_ ?c2 ?c3 ?c4 ?c5; (case kA => exact rfl); (case kF => exact rfl); (case kK => assumption); (case k1 => k_asm); (case k2 => k_asm); (case k3 => k_asm); (case k4 => k_asm); (case k5 => k_asm); (case k6 => k_is); (case k7 => k_is); (case k8 => dsimp only [ktrTop]; omega); (case k9 => first | exact BindsTo.of_eq rfl | exact binds_K (by k_in) rfl (by k_is) rfl rfl rfl); (case c5 => decide); (case kB => exact locs rfl); (case c2 => exact rfl); (case c3 => exact rfl); (case c4 => exact rfl); k_whole; intro g' L' h' FG' F' N' B' X' T'; (try dsimp only); (try k_lift B'); (try k_fold)))
local macro_rules | `(tactic| walk_at "call builtin:dict.get") => `(tactic| (k_here; k_dflt (refine kdg_get1 (knd := PySem.strKind _ _) (by k_asm) (by k_mem) (by k_asm) (by k_asm) (strKind_is _ _ _ _) none (by assumption) ?_); (try dsimp only [Option.getD_none])))
local macro_rules | `(tactic| walk_at "compareOp In none ref") => `(tactic| (k_here; (refine none_in3 ⟨_, News.get (by k_asm) (by k_mem), rfl, _, rfl⟩ (by decide +kernel) (by decide +kernel) (by decide +kernel) (by show un + 3 + 3 < _; omega) ?_)))
set_option maxHeartbeats 1000000 in
theorem guess_spec {gd : Option (List Code)} {Q E : Value → Shared → Prop} {kvs : List (Str × Value)} (B : Below A₀ base outer h₀) (X : (K w.params).In h₀) (T : Top qv Lz mean mg mb h₀) (hk : cs.kind = .function) (hd : dp + 5 < recursionLimit) (hu : un + 40 < cLine) (F : Fr h₀ L s.heap m) (N : News h₀ L s.heap news) (hD : (D, oD) ∈ news) (lo : (D == sysModules) = false) (hi : oD.IsDictOf (PySem.strKind pwS w) kvs) (hv : valueAt kvs (Str.ofString "HTTPS") = none)
    (hret : ∀ h' tk' t', Fr h₀ L h' m → News h₀ L h' news → Q (.str "http" t') { s with heap := h', toks := tk' }) :
    wpAny (model pwS w) (ktrTop dp un gd cn cs L a ccd cl outer) (call (.ref 64) [.ref D]) Q E s := by
  replace N := news_more N hD
  refine wpAny_call ?_
  k_dflt (walk_at "my enter0")
  k_steps
  all_goals (rename_i kF kN Tc kX; exact hret _ _ _ kF (fun q hq => kN q (by simp [hq])))
variable  (B : Below A₀ base outer h₀) (X : (K w.params).In h₀) (T : Top qv Lz mean mg mb h₀) (hk : cs.kind = .function) (hd : dp + 20 < recursionLimit) (hu : un + 120 < cLine) (F : Fr h₀ L s.heap m)
  {R : Result → Shared → Prop}
include B X T hk hd hu F
local macro_rules | `(tactic| walk_at "call ref nil") => `(tactic| (k_here; (show wpAny _ _ (call (Value.ref 612) []) _ _ _); k_dflt (refine' stringIO ?B ?X ?T ?hk ?hd ?hu ?F ?N ?_; (case B => k_asm); (case X => k_asm); (case T => k_asm); (case hk => first | exact rfl | assumption); (case F => k_asm); (case N => k_asm); (case hd => (try dsimp only [ktrTop]); omega); (case hu => (try dsimp only [ktrTop]); omega)); intro x' h' tk' F' N'; (try dsimp only)))
local macro_rules | `(tactic| walk_at "call ref") => `(tactic| (k_here; (show wpAny _ _ (call (Value.ref 612) []) _ _ _); k_dflt (refine' stringIO ?B ?X ?T ?hk ?hd ?hu ?F ?N ?_; (case B => k_asm); (case X => k_asm); (case T => k_asm); (case hk => first | exact rfl | assumption); (case F => k_asm); (case N => k_asm); (case hd => (try dsimp only [ktrTop]); omega); (case hu => (try dsimp only [ktrTop]); omega)); intro x' h' tk' F' N'; (try dsimp only)))
local macro_rules | `(tactic| walk_at "call ref") => `(tactic| (k_here; (show wpAny _ _ (call (Value.ref 64) [Value.ref _]) _ _ _); k_dflt (refine' guess_spec ?B ?X ?T ?hk ?hd ?hu ?F ?N ?m ?lo ?i ?e ?_; (case B => k_asm); (case X => k_asm); (case T => k_asm); (case hk => first | exact rfl | assumption); (case F => k_asm); (case N => k_asm); (case m => k_mem); (case lo => k_asm); (case i => k_asm); (case e => rfl); (case hd => (try dsimp only [ktrTop]); omega); (case hu => (try dsimp only [ktrTop]); omega)); intro h' tk' t' F' N'; (try dsimp only)))
set_option maxHeartbeats 4000000 in
theorem setup_code (N : News h₀ L s.heap ((D, oD) :: news)) (hD : ∀ p ∈ news, p.1 ≠ D) (lo : (D == sysModules) = false) (hi : oD.IsDictOf (PySem.strKind pwS w) [])
    (hret : ∀ o' kvs' x dx BA h' tk' t1 t2 t3, o'.IsDictOf (PySem.strKind pwS w) kvs' → valueAt kvs' (Str.ofString "wsgi.input") = some (.ref x) → Fr h₀ L h' m → News h₀ L h' ((BA, baO #[]) :: (x, instObj 365 dx) :: (dx, sD w.params BA 0 t1 t2 t3) :: (D, o') :: news) → @LT.lt Nat _ D dx → @LT.lt Nat _ dx x → @LT.lt Nat _ x BA → (∀ p ∈ news, @LT.lt Nat _ p.1 dx) → R (.ok (.ret .none)) { s with heap := h', toks := tk' }) :
    codeOk (model pwS w) (ktrTop dp un (some []) cn cs L a ccd cl outer) (.call (.ref 621) ⟨[.ref D], []⟩) R s := by
  k_dflt (walk_at "my enter")
  show wpOk _ _ (execs (_ :: _) _) _ _ _
  refine wpOk.execs_cons (wpOk.of ?_)
  k_steps
  show wpOk _ _ (execs (_ :: _) _) _ _ _
  refine wpOk.execs_cons (wpOk.of ?_)
  k_steps
  show wpOk _ _ (execs (_ :: _) _) _ _ _
  refine wpOk.execs_cons (wpOk.of ?_)
  k_steps
  show wpOk _ _ (execs (_ :: _) _) _ _ _
  refine wpOk.execs_cons (wpOk.of ?_)
  k_steps
  show wpOk _ _ (execs (_ :: _) _) _ _ _
  refine wpOk.execs_cons (wpOk.of ?_)
  k_steps
  show wpOk _ _ (execs (_ :: _) _) _ _ _
  refine wpOk.execs_cons (wpOk.of ?_)
  k_steps
  show wpOk _ _ (execs (_ :: _) _) _ _ _
  refine wpOk.execs_cons (wpOk.of ?_)
  k_steps
  show wpOk _ _ (execs (_ :: _) _) _ _ _
  refine wpOk.execs_cons (wpOk.of ?_)
  k_steps
  show wpOk _ _ (execs (_ :: _) _) _ _ _
  refine wpOk.execs_cons (wpOk.of ?_)
  k_steps
  show wpOk _ _ (execs (_ :: _) _) _ _ _
  refine wpOk.execs_cons (wpOk.of ?_)
  k_steps
  show wpOk _ _ (execs (_ :: _) _) _ _ _
  refine wpOk.execs_cons (exprOkM (callAttrOk ?_) rfl rfl)
  k_steps
  refine callWithOk (P := fun _ => True) rfl (fun h _ => ⟨.machine, .inr (.inl rfl), Looks.of_pure rfl⟩) (evalArgsOk (splicedOk_cons (wpOk.of (show wpAny _ _ (eval _ _) _ _ _ from ?_))))
  k_steps
  show wpOk _ _ (spliced ((false, eval _ _) :: _)) _ _ _
  refine splicedOk_cons (callNameOk ?_)
  k_steps
  with_reducible rename Fr _ _ _ _ => F1
  with_reducible rename News _ _ _ _ => N1
  with_reducible rename Frag.In _ _ => X1
  with_reducible rename Below _ _ _ _ => B1
  with_reducible rename Top _ _ _ _ _ _ => T1
  refine callWithOk (P := fun h => (K w.params).In h) rfl (keeps_K (by k_is)) (evalArgsOk0 ⟨X1.keeps F1.keep, ?_⟩)
  show wpOk (model pwS w) (ktrTop (dp + 1) (un + 3) (some []) _ _ _ _ _ _ _) (call (.ref 365) []) _ _ _
  refine bytesIO B1 X1 T1 rfl (by omega) (by omega) F1 N1 fun x dx BA h2 tk2 t1 t2 t3 F2 N2 l1 l2 l3 => ?_
  have lN : ∀ p ∈ news, @LT.lt Nat _ p.1 dx := fun p hp => l1 p (by simp [hp])
  k_lt l1
  clear F1 N1
  refine splicedOk_nil ⟨trivial, wpOk.of ?_⟩
  show wpAny _ _ (call (.builtin "dict.setdefault") [_, _, _]) _ _ _
  k_steps
  refine wpOk.of (?_ : wpAny _ _ (execs (_ :: _) _) _ _ _)
  k_steps
  all_goals (rename_i kF kN Tc kX; with_reducible rename Obj.IsDictOf _ _ _ => hd9; k_dflt (refine hret _ _ x dx BA _ _ t1 t2 t3 hd9 (by rfl) kF (news_sub kN fun q hq => ?_) (by omega) l2 l3 lN); simp only [List.mem_cons] at hq ⊢; rcases hq with h | h | h | h | h <;> simp [h])
end
end
end

section
open PySem PySem.W PyProof.Rows PySem.Calls PyProof.Rows.LCg
/-- a def with cells is entered, over clean contexts -/
theorem cellsOk {prog : Program} {w : World} {A : Around} {R : Result → Shared → Prop} {s : Shared} {name : Str} {params : Arguments} {body : List Stmt} {scope : Scope} {pm cd doc : Value} {a : Addr} {o : Obj} {args : List Value} {binds : List (Str × Value)}
    (hroom : A.depth < recursionLimit) (ho : s.heap.get? a = some o) (hdata : o.data = .func (Calls.docDef name params body scope pm cd doc)) (hlim : s.heap.NoLimit) (hcd : s.heap.CodeRec cd name)
    (hbind : bindArgs (Calls.docDef name params body scope pm cd doc) ⟨args, []⟩ = pure binds)
    (hkind : ∀ x ∈ binds, scope.names.lookup x.1 = some .local ∨ (scope.names.lookup x.1 = some .cell ∧ ((cellsFrom (s.heap.objs.size + 1) scope.names []).lookup x.1).isSome = true))
    (hnd : ((cellsFrom 0 scope.names []).map (·.1)).Nodup)
    (h : ∀ h₁ tk cells, Fr s.heap s.heap.objs.size h₁ (bindL (envOfC name scope s.heap.objs.size a cd).kindOf binds fun _ => none) → News s.heap s.heap.objs.size h₁ cells →
      CellsAre (bindC (envOfC name scope s.heap.objs.size a cd).kindOf binds fun _ => none) (cellsFrom (s.heap.objs.size + 1) scope.names []) cells →
      wpOk (model prog w) (A.deeper (envOfC name scope s.heap.objs.size a cd)) (execs body (envOfC name scope s.heap.objs.size a cd)) (fun f s' => R (.ok (.ret (match f with | .ret v => v | _ => .none))) s') (fun _ _ => False) { s with heap := h₁, toks := tk })
    (hco : scope.isCoroutine = false := by rfl) (hgen : scope.isGenerator = false := by rfl) (hk : scope.kind = .function := by rfl) :
    codeOk (model prog w) A (.call (.ref a) ⟨args, []⟩) R s := by
  refine codeOk.function (fd := Calls.docDef name params body scope pm cd doc) hroom ho hdata hco hgen rfl hcd ?_
  rw [hbind]
  refine wpAny_pure (wpAny_newFunctionEnv_cells hk hkind fun env he s' x => ?_)
  subst he
  refine ⟨hlim.keeps x.toInCall.keep, codeOk.func ?_⟩
  obtain ⟨h₁, tk, rfl, _⟩ := x.done
  obtain ⟨cells, N, Y⟩ := Cl.news (h₀ := s.heap) (Nat.le_refl _) fun n c hm => ⟨x.cell n c (lookup_of_mem_nodup (cellsFrom_names scope.names 0 (s.heap.objs.size + 1) [] [] rfl ▸ hnd) hm), x.above n c hm⟩
  exact h h₁ tk cells ⟨x.toInCall.ns, x.toInCall.keep, x.toInCall.fresh⟩ N Y
theorem lawCells (L : Nat) : cellsFrom (L + 1) lawSc.names [] = lawCl (L + 1) (L + 2) (L + 3) (L + 4) (L + 5) := by rfl
end

section
open PySem PySem.W PyProof.Rows PySem.Calls PyProof.Rows.LCg
noncomputable def dataArg : Expr := match (lawBody[4]?).getD (.Pass default) with
  | .Assign _ (.Call _ (e :: _) _ _) _ => e
  | _ => .Constant .none 0 default
theorem els_ints {k i : Nat} {vs : List Value} {ow : List (Addr × Obj)} (h : Els (fun i v own => own = [] ∧ ∃ n t, v = .int n t ∧ 0 ≤ n ∧ n < 256) k i vs ow) : ow = [] ∧ ∃ ns : List Int, IntsAre vs ns ∧ ns.length = k ∧ ∀ n ∈ ns, 0 ≤ n ∧ n < 256 := by
  induction h with
  | nil => exact ⟨rfl, [], .nil, rfl, fun n hn => nomatch hn⟩
  | cons hv _ ih =>
    obtain ⟨rfl, n, t, rfl, h0, h1⟩ := hv
    obtain ⟨rfl, ns, hi, hl, hb⟩ := ih
    refine ⟨rfl, n :: ns, .cons _ _ hi, by simp [hl], fun x hx => ?_⟩
    rcases List.mem_cons.mp hx with rfl | hx
    · exact ⟨h0, h1⟩
    · exact hb x hx
section
variable {w : World} {mean : ExcName → Option Value} {mg mb : Str → Option Value} {dp un : Nat} {gd : Option (List Code)} {outer : List Env} {A₀ : Around} {h₀ : Heap} {L : Addr} {m : Str → Option Value} {s : Shared} {E : Value → Shared → Prop}
  {c1 c2 c3 c4 c5 : Addr} {o2 : Obj} {W : Int} {tw : Tok} {news : List (Addr × Obj)}
set_option maxHeartbeats 2000000 in
theorem data_spec {Q : Value → Shared → Prop} (CC : CL w mean mg mb A₀ outer h₀) (hd : dp + 9 < recursionLimit) (hu : un + 80 < cLine) (F : Fr h₀ L s.heap m) (N : News h₀ L s.heap news) (h2 : (c2, o2) ∈ news) (d2 : o2.data = .cell (some (.int W tw)))
   (hQ : ∀ D (ns : List Int) vs h' tk, IntsAre vs ns → (ns.length : Int) = 30 + W.fmod 12 → (∀ n ∈ ns, 0 ≤ n ∧ n < 256) → Fr h₀ L h' m → News h₀ L h' ((D, lst vs) :: news) → Q (.ref D) { s with heap := h', toks := tk }) :
   wpAny (model pwS w) (ktrTop dp un gd lawNm lawSc L 626 (.ref 625) (lawCl c1 c2 c3 c4 c5) outer) (eval dataArg (envX lawNm lawSc L 626 (.ref 625) (lawCl c1 c2 c3 c4 c5))) Q E s := by
  obtain ⟨B, X, T⟩ := CC
  have hf0 : 0 ≤ W.fmod 12 := fmod_lo W (by omega)
  have hf1 : W.fmod 12 < 12 := fmod_hi W (by omega)
  show wpAny _ _ (eval (.ListComp _ [⟨.Name _ _, _, [], 0⟩] _ _) _) _ _ _
  refine ListComp_S F (by with_unfolding_all rfl) (by decide) (by rfl) (by decide) (by rfl) ?_
  have N1 := news_more N h2
  k_steps
  rename_i h₁ tk₁ t₁ u₁ v₁ hr F₁ N₁ _
  obtain ⟨n0, hn0⟩ : ∃ n : Nat, (n : Int) = 30 + W.fmod 12 := ⟨(30 + W.fmod 12).toNat, by omega⟩
  have hcnt : Builtin.Range.rangeSize 0 (30 + W.fmod 12) 1 = ((n0 : Nat) : Int) := by
    simp only [Builtin.Range.rangeSize, show (1 : Int) > 0 by decide, if_true]
    rw [if_pos (by omega)]
    omega
  refine ⟨_, _, _, _, _, _, _, n0, _, rfl, rfl, F₁, N₁, hr, ?_, hcnt, by rw [sizeLine_eq]; omega, ?_⟩
  · unfold Builtin.Range.small
    rw [hcnt, if_pos (show (1 : Int) > 0 by decide)]
    unfold Builtin.Range.rangeFitsLong
    simp only [Bool.and_eq_true, Bool.or_eq_true, decide_eq_true_eq]
    refine ⟨⟨⟨⟨by decide, by omega⟩, by decide⟩, by omega⟩, .inr (by omega)⟩
  · rintro s₂ ⟨g, rfl⟩
    refine comp_rest (own := []) (fun i v own => own = [] ∧ ∃ n t, v = .int n t ∧ 0 ≤ n ∧ n < 256) _ ?_ n0 0 [] ?_
    · rintro i v I oI C oC D ys m₂ h tk own E' Q' ⟨hi, t, rfl⟩ hC hx F2 N2 hne hret
      have N3 := news_more (news_more N2 (x := (c2, o2)) (by simp)) (x := (C, oC)) (by simp)
      have hw0 : 0 ≤ W.fmod 2 := fmod_lo W (by omega)
      have hw1 : W.fmod 2 < 2 := fmod_hi W (by omega)
      have hi2 : (0 : Int) + (i : Int) * 1 < 42 := by omega
      clear hr F₁ N₁ N N2 hQ
      k_steps
      all_goals refine hret _ [] _ _ ⟨rfl, _, _, rfl, Int.add_nonneg (by decide) (fmod_lo _ (by omega)), Int.lt_of_lt_of_le (Int.add_lt_add_left (fmod_hi _ (by omega)) 65) (by omega)⟩ (by assumption) ?_ (fun q hq => nomatch hq)
      all_goals (with_reducible rename News _ _ _ _ => N9; simpa using news_less (news_less N9))
    · intro vs ow hE D h tk F2 N2 o1
      obtain ⟨rfl, ns, hi, hl, hb⟩ := els_ints hE
      exact hQ D ns vs h tk hi (by omega) hb F2 (news_sub N2 fun q hq => by
        simp only [List.mem_append, List.mem_cons, List.nil_append] at hq ⊢
        rcases hq with h | h <;> simp [h])
end
end

section
open PySem PySem.W PyProof.Rows PySem.Calls PyProof.Rows.LCg
noncomputable def loopIter : Expr := match (lawBody[10]?).getD (.Pass default) with
  | .For _ e _ _ _ => e
  | _ => .Constant .none 0 default
noncomputable def compPart : Expr := match loopIter with | .BinOp _ _ e _ => e | e => e
theorem els_anyInts {k i : Nat} {vs : List Value} {ow : List (Addr × Obj)} (h : Els (fun i v own => own = [] ∧ ∃ n t, v = .int n t) k i vs ow) : ow = [] ∧ vs.length = k ∧ ∀ v ∈ vs, ∃ n t, v = .int n t := by
  induction h with
  | nil => exact ⟨rfl, rfl, fun n hn => nomatch hn⟩
  | cons hv _ ih =>
    obtain ⟨rfl, hv⟩ := hv
    obtain ⟨rfl, hl, hb⟩ := ih
    refine ⟨rfl, by simp [hl], fun x hx => ?_⟩
    rcases List.mem_cons.mp hx with rfl | hx
    · exact hv
    · exact hb x hx
section
variable {w : World} {mean : ExcName → Option Value} {mg mb : Str → Option Value} {dp un : Nat} {gd : Option (List Code)} {outer : List Env} {A₀ : Around} {h₀ : Heap} {L : Addr} {m : Str → Option Value} {s : Shared} {E : Value → Shared → Prop}
  {c1 c2 c3 c4 c5 l : Addr} {o1 : Obj} {vs : List Value} {ns : List Int} {news : List (Addr × Obj)}
theorem sum_pick {A : Around} {D : Addr} {lo hi st : Option Int} {Q : Value → Shared → Prop} (F : Fr h₀ L s.heap m) (N : News h₀ L s.heap news) (hh : A.handled = none) (hD : (D, ({ cls := .type "list", data := .seq (slicePick vs.toArray lo hi st) } : Obj)) ∈ news) (hi' : IntsAre vs ns)
    (h : ∀ n h' tk t', Fr h₀ L h' m → News h₀ L h' news → Q (.int n t') { s with heap := h', toks := tk }) : wpAny (model pwS w) A (call (.builtin "sum") [.ref D]) Q E s := by
  refine PyProof.Rows.LSm.sum_ints F N hh (vs := (slicePick vs.toArray lo hi st).toList) ?_ (IntsAre.pick hi' lo hi st) fun h' tk t' F' N' => h _ h' tk t' F' N'
  rw [Array.toArray_toList]
  exact ⟨_, N.get hD, rfl, _, rfl⟩
local macro_rules | `(tactic| walk_at "call builtin:sum") => `(tactic| (k_here; (with_reducible show wpAny _ _ (call (Value.builtin "sum") [Value.ref _]) _ _ _); k_dflt (refine sum_pick (by k_asm) (by k_asm) rfl (by k_mem) (by assumption) ?_); intro n' h' tk' t' F' N'))
set_option maxHeartbeats 2000000 in
theorem comp_spec {Q : Value → Shared → Prop} (CC : CL w mean mg mb A₀ outer h₀) (hd : dp + 9 < recursionLimit) (hu : un + 80 < cLine) (F : Fr h₀ L s.heap m) (N : News h₀ L s.heap news) (h1 : (c1, o1) ∈ news) (d1 : o1.data = .cell (some (.ref l)))
   (hl : h₀.IsList l vs.toArray) (hi : IntsAre vs ns) (hlen : ns.length ≤ 63)
   (hQ : ∀ D us h' tk, (∀ v ∈ us, ∃ n t, v = .int n t) → us.length ≤ 40 → Fr h₀ L h' m → News h₀ L h' ((D, lst us) :: news) → Q (.ref D) { s with heap := h', toks := tk }) :
   wpAny (model pwS w) (ktrTop dp un gd lawNm lawSc L 626 (.ref 625) (lawCl c1 c2 c3 c4 c5) outer) (eval compPart (envX lawNm lawSc L 626 (.ref 625) (lawCl c1 c2 c3 c4 c5))) Q E s := by
  obtain ⟨B, X, T⟩ := CC
  show wpAny _ _ (eval (.ListComp _ [⟨.Name _ _, _, [], 0⟩] _ _) _) _ _ _
  refine ListComp_S F (by with_unfolding_all rfl) (by decide) (by rfl) (by decide) (by rfl) ?_
  have N1 := news_more N h1
  k_steps
  rename_i h0₁ tk0₁ F0₁ N0₁ h₁ tk₁ t₁ u₁ v₁ hr F₁ N₁ _
  obtain ⟨n0, hn0⟩ : ∃ n : Nat, (n : Int) = (if (40 : Int) < (ns.length : Int) then 40 else (ns.length : Int)) := ⟨(if (40 : Int) < (ns.length : Int) then 40 else (ns.length : Int)).toNat, by split <;> omega⟩
  have hn1 : n0 ≤ 40 := by split at hn0 <;> omega
  rw [← hn0] at hr
  have hcnt : Builtin.Range.rangeSize 0 (n0 : Int) 1 = ((n0 : Nat) : Int) := by
    simp only [Builtin.Range.rangeSize, show (1 : Int) > 0 by decide, if_true]
    by_cases h : (0 : Int) < (n0 : Int)
    · rw [if_pos h]; omega
    · rw [if_neg h]; omega
  refine ⟨_, _, _, _, _, _, _, n0, _, rfl, rfl, F₁, N₁, hr, ?_, hcnt, by rw [sizeLine_eq]; omega, ?_⟩
  · unfold Builtin.Range.small
    rw [hcnt, if_pos (show (1 : Int) > 0 by decide)]
    unfold Builtin.Range.rangeFitsLong
    simp only [Bool.and_eq_true, Bool.or_eq_true, decide_eq_true_eq]
    refine ⟨⟨⟨⟨by decide, by omega⟩, by decide⟩, by omega⟩, .inr (by omega)⟩
  · rintro s₂ ⟨g, rfl⟩
    refine comp_rest (own := []) (fun i v own => own = [] ∧ ∃ n t, v = .int n t) _ ?_ n0 0 [] ?_
    · rintro i v I oI C oC D ys m₂ h tk own E' Q' ⟨hi2, t, rfl⟩ hC hx F2 N2 hne hret
      have N3 := news_more (news_more N2 (x := (c1, o1)) (by simp)) (x := (C, oC)) (by simp)
      clear hr F₁ N₁ N hQ N0₁ F0₁
      k_steps
      all_goals refine hret _ [] _ _ ⟨rfl, _, _, rfl⟩ (by assumption) ?_ (fun q hq => nomatch hq)
      all_goals (with_reducible rename News _ _ _ _ => N9; simpa using news_less (news_less (news_less N9)))
    · intro us ow hE D h tk F2 N2 o1
      obtain ⟨rfl, hl2, hb⟩ := els_anyInts hE
      exact hQ D us h tk hb (by omega) F2 (news_sub N2 fun q hq => by
        simp only [List.mem_append, List.mem_cons, List.nil_append] at hq ⊢
        rcases hq with h | h <;> simp [h])
end
end

section
open PySem PySem.W PyProof.Rows PySem.Calls PyProof.Rows.LCg
section
variable {w : World} {mean : ExcName → Option Value} {mg mb : Str → Option Value} {dp un : Nat} {gd : Option (List Code)} {outer : List Env} {A₀ : Around} {h₀ : Heap} {L : Addr} {m : Str → Option Value} {s : Shared} {E : Value → Shared → Prop}
  {c1 c2 c3 c4 c5 l : Addr} {o1 : Obj} {vs : List Value} {ns : List Int} {news : List (Addr × Obj)}
local macro_rules | `(tactic| walk_at "eval ListComp") => `(tactic| (k_here; (with_reducible show wpAny _ _ (eval (Expr.ListComp _ _ _ _) _) _ _ _); refine Halt.mk ?_))
set_option maxHeartbeats 2000000 in
theorem list_spec {Q : Value → Shared → Prop} (CC : CL w mean mg mb A₀ outer h₀) (hd : dp + 9 < recursionLimit) (hu : un + 80 < cLine) (F : Fr h₀ L s.heap m) (N : News h₀ L s.heap news) (h1 : (c1, o1) ∈ news) (d1 : o1.data = .cell (some (.ref l)))
   (hl : h₀.IsList l vs.toArray) (hi : IntsAre vs ns) (hlen : ns.length ≤ 63)
   (hQ : ∀ D (us : List Value) h' tk, (∀ v ∈ us, ∃ n t, v = .int n t) → Fr h₀ L h' m → News h₀ L h' (news ++ [(D, listOf us.toArray 0)]) → Q (.ref D) { s with heap := h', toks := tk }) :
   wpAny (model pwS w) (ktrTop dp un gd lawNm lawSc L 626 (.ref 625) (lawCl c1 c2 c3 c4 c5) outer) (eval loopIter (envX lawNm lawSc L 626 (.ref 625) (lawCl c1 c2 c3 c4 c5))) Q E s := by
  have CC' := CC
  obtain ⟨B, X, T⟩ := CC'
  show wpAny _ _ (eval (.BinOp _ _ _ _) _) _ _ _
  k_steps
  with_reducible rename Fr _ _ _ _ => F1
  rename_i D1 h1' N1' lt1
  with_reducible rename News _ _ _ _ => N1
  refine comp_spec (s := ⟨_, s.gens, s.drawn, _, s.os⟩) CC hd hu F1 N1 (.tail _ h1) d1 hl hi hlen fun D us h' tk hu1 hu2 F2 N2 => ?_
  have ha : h'.IsList D1 _ := ⟨_, N2.get (.tail _ (.head _)), rfl, _, rfl⟩
  have hb : h'.IsList D us.toArray := ⟨_, N2.get (.head _), rfl, _, rfl⟩
  refine kmk_add_lit F2 N2 ha hb rfl (fun D3 h3 F3 N3 _ => ?_) ?_
  · obtain ⟨zs, hz, N4⟩ : ∃ zs : List Value, (∀ v ∈ zs, ∃ n t, v = .int n t) ∧ News h₀ L h3 ((D3, listOf zs.toArray 0) :: (D, lst us) :: (D1, _) :: news) := by
      refine ⟨_, fun v hv => ?_, N3⟩
      rcases List.mem_append.mp hv with h | h
      · simp only [List.mem_cons, List.not_mem_nil, or_false] at h
        rcases h with rfl | rfl | rfl | rfl | rfl | rfl | rfl | rfl | rfl | rfl | rfl | rfl <;> exact ⟨_, _, rfl⟩
      · exact hu1 v h
    refine hQ D3 zs h3 _ hz F3 (news_sub N4 fun q hq => ?_)
    rcases List.mem_append.mp hq with h | h
    · exact .tail _ (.tail _ (.tail _ h))
    · rw [List.mem_singleton.mp h]; exact .head _
  · simp only [List.length_cons, List.length_nil, sizeLine_eq]
    omega
end
end

section
open PySem PySem.W PyProof.Rows PySem.Calls PyProof.Rows.LCg
theorem HC.back {w : World} {rest post : List (Addr × Obj)} {S DS BA H DH M : Addr} {d : Array UInt8} {n : Int} {u1 u2 u3 u4 : Tok} (C : HC w rest S DS BA H DH M d n u1 u2 u3 u4) (h : ∀ q ∈ post, q.1 ≠ DS) : HC w (rest ++ post) S DS BA H DH M d n u1 u2 u3 u4 :=
  ⟨C.h1, C.h2, C.hsz, List.mem_append_left _ C.hH, List.mem_append_left _ C.hDH, List.mem_append_left _ C.hS, List.mem_append_left _ C.hB, fun q hq => (List.mem_append.mp hq).elim (C.hne q) (h q)⟩
theorem news_ne {h₀ h : Heap} {L a b : Addr} {news : List (Addr × Obj)} {o p : Obj} (N : News h₀ L h news) (h1 : (a, o) ∈ news) (h2 : (b, p) ∈ news) (h : o.data ≠ p.data) : a ≠ b := by
  intro e
  subst e
  have := (N.get h1).symm.trans (N.get h2)
  exact h (congrArg Obj.data (Option.some.inj this))
theorem loop_plain (env : Env) (x : Value) : foldedSetIterable loopIter env x = pure x := by
  show foldedSetIterable (.BinOp _ _ _ _) env x = pure x
  rfl
section
variable {w : World} {mean : ExcName → Option Value} {mg mb : Str → Option Value} {dp un : Nat} {gd : Option (List Code)} {outer : List Env} {A₀ : Around} {h₀ : Heap} {L : Addr} {m : Str → Option Value} {s : Shared} {E : Value → Shared → Prop}
  {c1 c2 c3 c4 c5 l : Addr} {o1 o3 o4 o5 : Obj} {d : Array UInt8} {n p : Int} {td tn tp : Tok} {rest : List (Addr × Obj)} {S DS BA H DH M : Addr} {vs : List Value} {ns : List Int} {t1 t2 t3 u1 u2 u3 u4 : Tok}
set_option maxHeartbeats 1000000 in
theorem loop_spec {Q : Flow → Shared → Prop} {v₀ : Option Value} (CC : CL w mean mg mb A₀ outer h₀) (hd : dp + 9 < recursionLimit) (hu : un + 100 < cLine) (hE : PassesOwn (model pwS w) (ktrTop dp un gd lawNm lawSc L 626 (.ref 625) (lawCl c1 c2 c3 c4 c5) outer) (envX lawNm lawSc L 626 (.ref 625) (lawCl c1 c2 c3 c4 c5)) E)
   (C : HC w rest S DS BA H DH M d n u1 u2 u3 u4) (F : Fr h₀ L s.heap m)
   (N : News h₀ L s.heap ((DS, sD w.params BA p t1 t2 t3) :: (c5, o5) :: (c3, o3) :: (c4, o4) :: rest))
   (h1 : (c1, o1) ∈ rest) (d1 : o1.data = .cell (some (.ref l))) (hl : h₀.IsList l vs.toArray) (hi : IntsAre vs ns) (hlen : ns.length ≤ 63)
   (n5 : @Ne Nat c5 DS) (n3 : @Ne Nat c3 DS) (n4 : @Ne Nat c4 DS) (n53 : @Ne Nat c3 c5) (n54 : @Ne Nat c4 c5) (n5r : ∀ q ∈ rest, q.1 ≠ c5)
   (d3 : o3.data = .cell (some (.bytes d td))) (d4 : o4.data = .cell (some (.int n tn))) (d5 : o5.data = .cell v₀) (hn2 : n ≤ 10) (hs0 : 0 < d.size) (hs : d.size ≤ 60) (h0 : 0 ≤ p) (hp1 : p ≤ d.size)
   (lh : m (Str.ofString "hand") = some (.ref H)) (ls : m (Str.ofString "stream") = some (.ref S)) (lp : m (Str.ofString "place") = some (.int p tp))
   (hQ : ∀ m' h' tk' news', Fr h₀ L h' m' → News h₀ L h' news' → Q .next { s with heap := h', toks := tk' }) :
   wpAny (model pwS w) (ktrTop dp un gd lawNm lawSc L 626 (.ref 625) (lawCl c1 c2 c3 c4 c5) outer) (exec ((lawBody[10]?).getD (.Pass default)) (envX lawNm lawSc L 626 (.ref 625) (lawCl c1 c2 c3 c4 c5))) Q E s := by
  show wpAny _ _ (exec (.For (.Name (Str.ofString "x") _) loopIter forBody [] _) _) _ _ _
  with_reducible refine For_invV h₀ ?_ ?_ ?_ ?_ hE
  · rfl
  · rfl
  rotate_left
  · intro _
    exact loop_plain _ _
  with_reducible refine list_spec CC hd ?_ F N ?_ d1 hl hi hlen ?_
  · omega
  · exact .tail _ (.tail _ (.tail _ (.tail _ h1)))
  intro D us h2 tk2 hus F2 N2
  have hD : ∀ {a : Addr} {o : Obj}, (a, o) ∈ ((DS, sD w.params BA p t1 t2 t3) :: (c5, o5) :: (c3, o3) :: (c4, o4) :: rest) → o.data ≠ (W.listOf us.toArray 0).data → D ≠ a := fun hm hne => Ne.symm (news_ne N2 (List.mem_append_left _ hm) (List.mem_append_right _ (.head _)) hne)
  have e0 : D ≠ DS := hD (.head _) (by simp [sD, dictOf, W.listOf])
  have e5 : D ≠ c5 := hD (.tail _ (.head _)) (by rw [d5]; simp [W.listOf])
  have C2 : HC w (rest ++ [(D, W.listOf us.toArray 0)]) S DS BA H DH M d n u1 u2 u3 u4 := C.back fun q hq => by rw [List.mem_singleton.mp hq]; exact e0
  show wpAny _ _ (pyIter (.ref D)) (fun it s₂ => LoopAtV pwS w (ktrTop dp un gd lawNm lawSc L 626 (.ref 625) (lawCl c1 c2 c3 c4 c5) outer) h₀ (envX lawNm lawSc L 626 (.ref 625) (lawCl c1 c2 c3 c4 c5)) (Str.ofString "x") forBody Q E it s₂) E ⟨h2, s.gens, s.drawn, tk2, s.os⟩
  with_reducible refine kdl_iter (nn := 0) (vs := us) (news := ((DS, sD w.params BA p t1 t2 t3) :: (c5, o5) :: (c3, o3) :: (c4, o4) :: rest) ++ [(D, W.listOf us.toArray 0)]) (env := envX lawNm lawSc L 626 (.ref 625) (lawCl c1 c2 c3 c4 c5)) (fun i m nx => m (Str.ofString "hand") = some (.ref H) ∧ m (Str.ofString "stream") = some (.ref S) ∧ ∃ (p : Int) (tp t3 : Tok) (o5 : Obj) (v : Option Value), 0 ≤ p ∧ p ≤ d.size ∧ m (Str.ofString "place") = some (.int p tp) ∧ o5.data = .cell v ∧
      nx = (DS, sD w.params BA p t1 t2 t3) :: (c5, o5) :: (c3, o3) :: (c4, o4) :: (rest ++ [(D, W.listOf us.toArray 0)])) ?_ ?_ F2 N2 ⟨lh, ls, p, tp, t3, o5, v₀, h0, hp1, lp, d5, rfl⟩ ?_ ?_
  · rfl
  · exact List.mem_append_right _ (.head _)
  · rintro i v m₁ _ h3 tk3 own hv hoff hmem ⟨lh1, ls1, p1, tp1, t31, o51, v1, h01, hp11, lp1, d51, rfl⟩ F3 N3
    obtain ⟨x, tx, rfl⟩ := hus v (List.mem_of_getElem? hv)
    have C3 : HC w ((rest ++ [(D, W.listOf us.toArray 0)]) ++ own) S DS BA H DH M d n u1 u2 u3 u4 := C2.back fun q hq => hoff q hq DS (List.mem_map_of_mem (.head _))
    refine turn (s := ⟨h3, s.gens, s.drawn, tk3, s.os⟩) (o5 := o51) (v₀ := v1) (tx := tx) (x := x) CC hd hu hE C3 F3 N3 n5 n3 n4 n53 n54 (fun q hq => ?_) d3 d4 d51 hn2 hs0 hs h01 hp11 rfl lh1 ls1 lp1 fun m4 h4 tk4 p4 o54 v4 t34 tp4 q0 q1 q2 q3 q4 q5 F4 N4 => ?_
    · rcases List.mem_append.mp hq with h | h
      · rcases List.mem_append.mp h with h | h
        · exact n5r q h
        · rw [List.mem_singleton.mp h]; exact e5
      · exact hoff q h c5 (List.mem_map_of_mem (.tail _ (.head _)))
    · refine InvEndG.intro (nx := (DS, sD w.params BA p4 t1 t2 t34) :: (c5, o54) :: (c3, o3) :: (c4, o4) :: (rest ++ [(D, W.listOf us.toArray 0)])) F4 N4 ⟨List.mem_append_right [_, _, _, _] (List.mem_append_right _ (.head _)), q3, q4, p4, tp4, t34, o54, some v4, q0, q1, q5, q2, rfl⟩ hoff ?_ ?_
      · intro q hq
        exact List.mem_append_left own hq
      · intro q hq
        exact List.mem_append_right ((DS, _) :: (c5, _) :: (c3, _) :: (c4, _) :: (rest ++ [(D, _)])) hq
  · rintro m₁ _ h3 tk3 ⟨_, _, p1, tp1, t31, o51, v1, _, _, _, _, rfl⟩ F3 N3
    exact hQ m₁ h3 tk3 _ F3 N3
end
end

section
open PySem PySem.W PyProof.Rows PySem.Calls PyProof.Rows.LCg
section
variable {w : World} {mean : ExcName → Option Value} {mg mb : Str → Option Value} {s : Shared} {l : Addr} {R : Result → Shared → Prop}
theorem law_open (X : (K w.params).In s.heap) (T : Top qv Lz mean mg mb s.heap)
    (h : ∀ h₁ tk m c1 c2 c3 c4 c5 o1 o2 o3 o4 o5, Fr s.heap s.heap.objs.size h₁ m → News s.heap s.heap.objs.size h₁ [(c5, o5), (c4, o4), (c3, o3), (c2, o2), (c1, o1)] →
      o1.data = .cell (some (.ref l)) → o2.data = .cell none → o3.data = .cell none → o4.data = .cell none → o5.data = .cell none →
      @LT.lt Nat _ c1 c2 → @LT.lt Nat _ c2 c3 → @LT.lt Nat _ c3 c4 → @LT.lt Nat _ c4 c5 →
      wpOk (model pwS w) (ktrTop (claimMargin + 2) 7 (some []) lawNm lawSc s.heap.objs.size 626 (.ref 625) (lawCl c1 c2 c3 c4 c5) []) (execs lawBody (envX lawNm lawSc s.heap.objs.size 626 (.ref 625) (lawCl c1 c2 c3 c4 c5))) (fun f s' => R (.ok (.ret (match f with | .ret v => v | _ => .none))) s') (fun _ _ => False) { s with heap := h₁, toks := tk }) :
    codeOk (model pwS w) callerA (.call (.ref 626) ⟨[.ref l], []⟩) R s := by
  refine cellsOk (body := lawBody) (by decide) (X 626 _ (by rfl)) (fd_plain rfl) (Top.nolimit T) (codeRec_of X (by kernel_rfl)) rfl (kinds_of (by kinds_ok)) (by decide) fun h₁ tk cells F N Y => ?_
  replace Y : CellsAre _ (lawCl (s.heap.objs.size + 1) (s.heap.objs.size + 2) (s.heap.objs.size + 3) (s.heap.objs.size + 4) (s.heap.objs.size + 5)) cells := Y
  obtain ⟨o5, o4, o3, o2, o1, rfl, d5, d4, d3, d2, d1⟩ := kc_five Y
  exact h h₁ tk _ _ _ _ _ _ o1 o2 o3 o4 o5 F N d1 d2 d3 d4 d5 (Nat.lt_succ_self _) (Nat.lt_succ_self _) (Nat.lt_succ_self _) (Nat.lt_succ_self _)
end
end

section
open PySem PySem.W PyProof.Rows PySem.Calls PyProof.Rows.LCg
local macro_rules | `(tactic| k_all) => `(tactic| assumption)
section
open PySem PySem.W PyProof.Rows PySem.Calls PyProof.Rows.LCg
section
variable {w : World} {mean : ExcName → Option Value} {mg mb : Str → Option Value} {dp un : Nat} {outer : List Env} {A₀ : Around} {h₀ : Heap} {L : Addr} {m : Str → Option Value} {s : Shared} {E : Value → Shared → Prop}
  {c1 c2 c3 c4 c5 l : Addr} {o1 o2 o3 o4 o5 : Obj} {vs : List Value} {ns : List Int}
theorem bytes_pick {A : Around} {h₀ : Heap} {L : Addr} {m : Str → Option Value} {news : List (Addr × Obj)} {D : Addr} {vs : List Value} {ns : List Int} {Q : Value → Shared → Prop} (F : Fr h₀ L s.heap m) (N : News h₀ L s.heap news) (hh : A.handled = none) (hD : (D, lst vs) ∈ news) (hi : IntsAre vs ns) (hb : ∀ n ∈ ns, 0 ≤ n ∧ n < 256) (hz : ns.length ≤ 1000)
    (h : ∀ h' tk t', Fr h₀ L h' m → News h₀ L h' news → Q (.bytes (byteArr ns) t') { s with heap := h', toks := tk }) : wpAny (model pwS w) A (call (.type "bytes") [.ref D]) Q E s :=
  call_bytes_ints (N.isList hD) hi hb (by rw [hi.length, sizeLine_eq]; omega) hh fun h' t k hk => h h' k t (F.keeps hk) (N.grown hk)
local macro_rules | `(tactic| walk_at "eval ListComp") => `(tactic| (k_here; (with_reducible show wpAny _ _ (eval (Expr.ListComp _ _ _ _) _) _ _ _); refine Halt.mk ?_))
local macro_rules | `(tactic| walk_at "call type:bytes") => `(tactic| (k_here; (with_reducible show wpAny _ _ (call (Value.type "bytes") [Value.ref _]) _ _ _); k_dflt (refine bytes_pick (by k_asm) (by k_asm) rfl (by k_mem) (by assumption) (by assumption) (by omega) ?_); intro h' tk' t' F' N'; replace N' := news_less N'))
local macro_rules | `(tactic| walk_at "subscriptTail") => `(tactic| (k_here; (with_reducible show wpAny _ _ (subscriptTail _ _ (Value.ref _) (Value.str _ _)) _ _ _); k_dflt (refine kda_item (knd := PySem.strKind _ _) (by k_asm) (by k_mem) (by k_asm) (strKind_is _ _ _ _) (by assumption) ?_)))
set_option maxHeartbeats 4000000 in
theorem law_head {Q : Flow → Shared → Prop} (CC : CL w mean mg mb A₀ outer h₀) (hd : dp + 30 < recursionLimit) (hu : un + 140 < cLine) (F : Fr h₀ L s.heap m)
   (N : News h₀ L s.heap [(c5, o5), (c4, o4), (c3, o3), (c2, o2), (c1, o1)])
   (d1 : o1.data = .cell (some (.ref l))) (d2 : o2.data = .cell none) (d3 : o3.data = .cell none) (d4 : o4.data = .cell none) (d5 : o5.data = .cell none)
   (l1 : @LT.lt Nat _ c1 c2) (l2 : @LT.lt Nat _ c2 c3) (l3 : @LT.lt Nat _ c3 c4) (l4 : @LT.lt Nat _ c4 c5)
   (hl : h₀.IsList l vs.toArray) (hi : IntsAre vs ns) (hlen : ns.length ≤ 63)
   (hT : ∀ m' h' tk' d td W tW S DS BA t1 t2 t3 o2' o3', Fr h₀ L h' m' → News h₀ L h' [(DS, sD w.params BA (Array.size d) t1 t2 t3), (S, instObj 365 DS), (BA, baO d), (c5, o5), (c4, o4), (c3, o3'), (c2, o2'), (c1, o1)] →
     o2'.data = .cell (some (.int W tW)) → o3'.data = .cell (some (.bytes d td)) → m' (Str.ofString "stream") = some (.ref S) → 30 ≤ d.size → d.size ≤ 41 →
     @LT.lt Nat _ c5 DS → @LT.lt Nat _ c4 DS → @LT.lt Nat _ c3 DS → @LT.lt Nat _ c2 DS → @LT.lt Nat _ c1 DS → @LT.lt Nat _ DS S → @LT.lt Nat _ S BA →
     wpAny (model pwS w) (ktrTop dp un (some []) lawNm lawSc L 626 (.ref 625) (lawCl c1 c2 c3 c4 c5) outer) (execs (lawBody.drop 6) (envX lawNm lawSc L 626 (.ref 625) (lawCl c1 c2 c3 c4 c5))) Q E { s with heap := h', toks := tk' }) :
   wpOk (model pwS w) (ktrTop dp un (some []) lawNm lawSc L 626 (.ref 625) (lawCl c1 c2 c3 c4 c5) outer) (execs lawBody (envX lawNm lawSc L 626 (.ref 625) (lawCl c1 c2 c3 c4 c5))) Q E s := by
  have CC' := CC
  obtain ⟨B, X, T⟩ := CC'
  show wpOk _ _ (execs (_ :: _) _) _ _ _
  refine wpOk.execs_cons (wpOk.of ?_)
  k_steps
  rename_i D h1 oD loD hD0 _ _ _ ltD h2 F1 N1
  show wpOk _ _ (execs (_ :: lawBody.drop 2) _) _ _ _
  refine wpOk.execs_cons (exprOkM (callNameOk ?_) rfl rfl)
  k_steps
  have X1 := X.keeps F1.keep
  refine callWithOk (P := fun h => (K w.params).In h) rfl (keeps_K (by k_is)) (evalArgsOk (splicedOk_cons (wpOk.of (show wpAny _ _ (eval _ _) _ _ _ from ?_))))
  k_steps
  refine splicedOk_nil ⟨X1, ?_⟩
  refine wpOk.call ?_
  show codeOk _ _ (.call (.ref 621) ⟨[.ref D], []⟩) _ _
  refine setup_code (news := [(c5, o5), (c4, o4), (c3, o3), (c2, o2), (c1, o1)]) (s := ⟨h2, s.gens, s.drawn, _, s.os⟩) B X T rfl (by omega) (by omega) F1 N1 (fun q hq => ?_) loD hD0 fun oE kvs S DS BA h3 tk3 t1 t2 t3 hE hV F2 N2 e1 e2 e3 e4 => ?_
  · simp only [List.mem_cons, List.not_mem_nil] at hq
    rcases hq with rfl | rfl | rfl | rfl | rfl | hq
    all_goals first | exact hq.elim | (refine Nat.ne_of_lt ?_; dsimp only; omega)
  have z1 : @LT.lt Nat _ c5 DS := e4 (c5, o5) (by simp)
  have z2 : @LT.lt Nat _ c4 DS := e4 (c4, o4) (by simp)
  have z3 : @LT.lt Nat _ c3 DS := e4 (c3, o3) (by simp)
  have z4 : @LT.lt Nat _ c2 DS := e4 (c2, o2) (by simp)
  have z5 : @LT.lt Nat _ c1 DS := e4 (c1, o1) (by simp)
  clear F1 N1 e4 hD0
  show wpOk _ _ (execs (_ :: lawBody.drop 3) _) _ _ ⟨h3, s.gens, s.drawn, _, s.os⟩
  refine wpOk.execs_cons (wpOk.of ?_)
  k_steps
  rename_i h4 F4 N4
  show wpOk _ _ (execs (_ :: lawBody.drop 4) _) _ _ ⟨h4, s.gens, s.drawn, _, s.os⟩
  refine wpOk.execs_cons (wpOk.of ?_)
  k_steps
  rename_i h5 tk5 tW h6 o2' F6 N6 d2'
  show wpOk _ _ (execs (_ :: lawBody.drop 5) _) _ _ ⟨h6, s.gens, s.drawn, tk5, s.os⟩
  refine wpOk.execs_cons (wpOk.of ?_)
  k_steps
  show wpAny _ _ (eval dataArg _) _ _ ⟨h6, s.gens, s.drawn, tk5, s.os⟩
  with_reducible refine data_spec CC ?_ ?_ F6 N6 ?_ d2' ?_
  · omega
  · omega
  · k_mem
  intro D2 ms us h7 tk7 hm hml hmb F7 N7
  have hml0 : 0 ≤ ns.sum.fmod 12 := fmod_lo _ (by omega)
  have hml1 : ns.sum.fmod 12 < 12 := fmod_hi _ (by omega)
  clear F6 N6
  show wpAny _ _ (spliced []) _ _ _
  with_reducible refine spliced_nil ?_
  k_steps
  rename_i h8 tk8 tD h9 o3' F9 N9 d3'
  have hsz := byteArr_size ms
  generalize byteArr ms = d at *
  show wpOk _ _ (execs (_ :: lawBody.drop 6) _) _ _ ⟨h9, s.gens, s.drawn, tk8, s.os⟩
  refine wpOk.execs_cons (exprOkM (callAttrOk ?_) rfl rfl)
  k_steps
  have X9 := X.keeps F9.keep
  refine callWithOk (P := fun h => (K w.params).In h) rfl (keeps_K (by k_is)) (evalArgsOk (splicedOk_cons (wpOk.of (show wpAny _ _ (eval _ _) _ _ _ from ?_))))
  k_steps
  refine splicedOk_nil ⟨X9, ?_⟩
  refine wpOk.call ?_
  show codeOk _ _ (.call (.ref 348) ⟨[.ref S, .bytes d tD], []⟩) _ _
  refine write_code (b := d) (tb := tD) (news := [(D, oE), (c5, o5), (c4, o4), (c3, o3'), (c2, o2'), (c1, o1)]) (s := ⟨h9, s.gens, s.drawn, tk8, s.os⟩) B X T rfl (by omega) (by omega) F9 N9 e2 e3 (fun q hq => ?_) (fun q hq => ?_) (by omega) (by omega) fun h10 tk10 t10 t3' F10 N10 => ?_
  · simp only [List.mem_cons, List.not_mem_nil] at hq
    rcases hq with rfl | rfl | rfl | rfl | rfl | rfl | hq
    all_goals first | exact hq.elim | (refine Nat.ne_of_lt ?_; dsimp only; omega)
  · simp only [List.mem_cons, List.not_mem_nil] at hq
    rcases hq with rfl | rfl | rfl | rfl | rfl | rfl | hq
    all_goals first | exact hq.elim | (refine Nat.ne_of_lt ?_; dsimp only; omega)
  refine wpOk.of (hT _ h10 tk10 d tD _ tW S DS BA t1 t2 t3' o2' o3' F10 (news_sub N10 fun q hq => ?_) d2' d3' rfl (by omega) (by omega) z1 z2 z3 z4 z5 e2 e3)
  simp only [List.mem_cons] at hq ⊢
  rcases hq with h | h | h | h | h | h | h | h | h <;> simp [h]
end
end

section
open PySem PySem.W PyProof.Rows PySem.Calls Builtin Builtin.ObjectAttr
theorem kind_hasattr : builtinKind "hasattr" = none := by decide +kernel
theorem plain_hasattr : plainId "hasattr" = true := by decide +kernel
theorem entry_hasattr : entryFor table "hasattr" = some Builtin.«hasattr» := entryFor_of_tree (by kernel_rfl)
theorem args_hasattr_2 (a b : Value) : argsOk "hasattr" ⟨[a, b], []⟩ := by unfold argsOk; kernel_rfl
section
variable {prog : Program} {w : World} {A : Around} {E : Value → Shared → Prop} {s : Shared} {K : Frag} {x C f L : Addr} {ox : Obj} {od : Obj} {name : Str} {h₀ : Heap} {m : Str → Option Value} {news : List (Addr × Obj)} {es : List DictEntry} {n : Nat} {t : Tok}
theorem open_quiet {Q : Value → Shared → Prop} (X : K.In s.heap) (I : InstAt s.heap x ox C (some od)) (hga : findIn K (.ref C) "__getattribute__" = some (some (.builtin "object.__getattribute__")))
    (h : wpAny (model prog w) A.in1 (Builtin.«proto.getattr_hooked» ⟨[.ref x, .str name t], []⟩)
      (fun fin s' => match fin with | .done (.ret v) => wpAny (model prog w) A (handedOut v) Q E s' | _ => False) (fun e s' => wpAny (model prog w) A (noteIf false (.ref x) (.str name t) e) (fun _ s'' => E e s'') E s') s) :
    wpAny (model prog w) A (getAttrBy (.ref x) (.str name t) false) Q E s := by
  obtain ⟨hh, g, d, tk, os⟩ := s
  have L0 := I.type (M := model prog w)
  have L1 := looks_findIn (M := model prog w) X hga
  unfold getAttrBy
  refine wpAny_holding (wpAny_bind (L0.at (wpAny_bind (L1.at ?_))))
  show wpAny _ _ (getAttrEveryday _ _ _) _ _ _
  refine wpAny_bind (wpAny_onRaise (wpAny_runValue (codeAny_builtin PySem.F.plainObj_entry_getattr_hooked (wpAny_mono h (fun fin s' z => ?_) fun _ _ z => z))))
  rcases fin with (_ | _ | _ | _) | _ <;> first | exact z | exact z.elim
theorem bind_quiet {g a : Value} {Q : Value → Shared → Prop} (X : K.In s.heap) (I : InstAt s.heap x ox C (some od)) (hga : findIn K (.ref C) "__getattribute__" = some (some (.builtin "object.__getattribute__")))
    (hf : findObj K C (some od) name = some (.bind g a)) (hk : findIn K (.ref C) "__getattr__" = some none)
    (h : wpAny (model prog w) A.in1 (call g [a, .ref x, .ref C]) (fun v s' => wpAny (model prog w) A (handedOut v) Q E s') (fun e s' => wpAny (model prog w) A (noteIf false (.ref x) (.str name t) e) (fun _ s'' => E e s'') E s') s) :
    wpAny (model prog w) A (getAttrBy (.ref x) (.str name t) false) Q E s := by
  refine open_quiet X I hga ?_
  obtain ⟨hh', gg, d, tk, os⟩ := s
  have L0 := I.type (M := model prog w)
  have L1 := looks_find (M := model prog w) X I hf
  have L2 := looks_findIn (M := model prog w) X hk
  refine wpAny_bind (wpAny_pure (wpAny_bind (L0.at (wpAny_bind (L1.at (wpAny_bind (L2.at ?_)))))))
  show wpAny _ _ (holding [a] (call g [a, .ref x, .ref C]) >>= ret) _ _ _
  exact wpAny_bind (wpAny_holding (wpAny_mono h (fun v s' z => wpAny_pure z) fun _ _ z => z))
theorem has_bound {Q : Value → Shared → Prop} (F : Fr h₀ L s.heap m) (X₀ : K.In h₀) (N : News h₀ L s.heap news) (I : InstAt s.heap x ox C (some (dictOf es n))) (hg : plainGet K C name = true) (hh : hasDictIn K C = true) (ha : findIn K (.ref C) name = some (some (.ref f))) (hf : isFn K (.ref f) = true)
    (hgf : specialIn K (.ref f) "__get__" = some (some (.builtin "function.__get__"))) (ht : takesIn K (.ref f) = some false) (hc : copiedNames.contains name = false) (hl : getL name es = some none) (hmod : mroIn K C (.type "module") = some false)
    (h : ∀ q h', Fr h₀ L h' m → News h₀ L h' ((q, methodObj (.ref f) (.ref x)) :: news) → (∀ p ∈ news, p.1 < q) → Q (.bool true) { s with heap := h' }) : wpAny (model prog w) A (call (.builtin "hasattr") [.ref x, .str name t]) Q E s := by
  refine Calls.call_function_entry kind_hasattr plain_hasattr entry_hasattr (args_hasattr_2 _ _) ?_
  unfold Builtin.«hasattr»
  refine wpAny_bind (wpAny_of_eq (a := [.ref x, .str name t]) (by first | rfl | kernel_rfl) ?_)
  dsimp only
  refine wpAny_bind (wpAny_of_eq (a := ()) (by first | rfl | kernel_rfl) ?_)
  rw [if_neg (by simp only [beq_iff_eq, reduceCtorEq, not_false_eq_true])]
  have X := X₀.keeps F.keep
  have L0 : Looks (model prog w) s.heap (typeOf (.ref x)) (.ref C) := I.type
  have L1 : Looks (model prog w) s.heap (isInstance (.ref x) (.type "module")) false := L0.andThen (looks_mroIn X hmod)
  refine wpAny_bind (L0.here ?_)
  dsimp only
  refine wpAny_bind ?_
  show wpAny _ _ (asStr? (.str name t) >>= _) _ _ _
  refine wpAny_bind (wpAny_of_eq (a := some name) (by first | rfl | kernel_rfl) ?_)
  show wpAny _ _ (isInstance (.ref x) (.type "module") >>= _) _ _ _
  refine wpAny_bind (L1.here ?_)
  refine wpAny_pure (a := (0 : Nat)) ?_
  rw [if_neg (by decide)]
  refine wpAny_bind ?_
  unfold getAttrBy?
  refine wpAny_bind (wpAny_attempt ?_)
  refine bind_quiet X I (plainGet_of hg).1 (findObj_fn hh ha hgf ht hc (by show lookIn name (dictOf es n) = _; rw [lookIn_dict, hl])) (plainGet_of hg).2
    (wpAny_call (fn_get X (beq_iff_eq.mp hf) (handed_on rfl ?_)))
  refine wpAny_pure (wpAny_pure ⟨_, rfl, h s.heap.objs.size _ (F.push _) (N.push F _) fun p hp => Heap.lt_size (N p hp).1⟩)
end
end

section
open PySem PySem.W PyProof.Rows PySem.Calls PyProof.Rows.LCg
theorem news_pick5 {h₀ h : Heap} {L : Addr} {news : List (Addr × Obj)} {a b c d e f : Addr × Obj} (N : News h₀ L h (a :: b :: c :: d :: e :: f :: news)) : News h₀ L h (c :: d :: a :: news) := news_sub N fun q hq => by
  simp only [List.mem_cons] at hq ⊢
  rcases hq with h | h | h | h <;> simp [h]
section
variable {w : World} {mean : ExcName → Option Value} {mg mb : Str → Option Value} {dp un : Nat} {gd : Option (List Code)} {outer : List Env} {A₀ : Around} {h₀ : Heap} {L : Addr} {m : Str → Option Value} {s : Shared} {E : Value → Shared → Prop}
  {cn : Str} {cs : Scope} {a : Addr} {ccd : Value} {cl : List (Str × Addr)} {S DS BA : Addr} {n p : Int} {tn t1 t2 t3 : Tok} {news : List (Addr × Obj)}
local macro_rules | `(tactic| walk_at "my enter") => `(tactic| (refine' code_def ?k1 ?k2 ?k3 ?k4 ?k5 ?kA ?kF ?kK ?k6 ?k7 ?k8 ?k9 ?kB ?_ ?c2 ?c3 ?c4 ?c5; (case kA => exact rfl); (case kF => exact rfl); (case kK => assumption); (case k1 => k_asm); (case k2 => k_asm); (case k3 => k_asm); (case k4 => k_asm); (case k5 => k_asm); (case k6 => k_is); (case k7 => k_is); (case k8 => dsimp only [ktrTop]; omega); (case k9 => first | exact BindsTo.of_eq rfl | exact binds_K (by k_in) rfl (by k_is) rfl rfl rfl); (case c5 => decide); (case kB => exact locs rfl); (case c2 => exact rfl); (case c3 => exact rfl); (case c4 => exact rfl); k_whole; intro g' L' h' FG' F' N' B' X' T'; (try dsimp only); (try k_lift B'); (try k_fold)))
local macro_rules | `(tactic| walk_at "call builtin:hasattr") => `(tactic| (k_here; (with_reducible show wpAny _ _ (call (Value.builtin _) [Value.ref _, Value.str _ _]) _ _ _); k_dflt (refine' has_bound ?k1 ?k2 ?k3 ?k4 ?k5 ?k6 ?k7 ?k8 ?k9 ?k10 ?k11 ?k12 ?k13 ?_; (case k4 => k_inst); (case k1 => k_asm); (case k2 => k_asm); (case k3 => k_asm); (case k7 => k_is); (case k5 => k_is); (case k6 => k_is); (case k8 => k_is); (case k9 => k_is); (case k10 => k_is); (case k11 => decide +kernel); (case k12 => k_get); (case k13 => k_is); k_whole); intro q' h' F' N' l1; (try k_lt l1)))
set_option maxHeartbeats 4000000 in
theorem wrap_spec {Q : Value → Shared → Prop} (CC : CL w mean mg mb A₀ outer h₀) (hk : cs.kind = .function) (hd : dp + 10 < recursionLimit) (hu : un + 80 < cLine) (F : Fr h₀ L s.heap m)
   (N : News h₀ L s.heap news) (hS : (S, instObj 365 DS) ∈ news) (hDS : (DS, sD w.params BA p t1 t2 t3) ∈ news)
   (hQ : ∀ H DH M oM u1 u2 u3 u4 h' tk', Fr h₀ L h' m → News h₀ L h' ((H, instObj 53 DH) :: (DH, fD w.params S n M u1 u2 u3 u4) :: (M, oM) :: news) → (∀ p ∈ news, @LT.lt Nat _ p.1 DH) → @LT.lt Nat _ DH H → (∀ p ∈ news, @LT.lt Nat _ p.1 M) → Q (.ref H) { s with heap := h', toks := tk' }) :
   wpAny (model pwS w) (ktrTop dp un gd cn cs L a ccd cl outer) (call (.ref 53) [.ref S, .int n tn]) Q E s := by
  have CC' := CC
  obtain ⟨B, X, T⟩ := CC'
  replace N := news_more (news_more N hDS) (.tail _ hS)
  refine call_cls F X N (by k_is) (by k_is) (by k_is) fun x dx h1 F1 N1 l1 l2 => ?_
  have hA : (ktrTop dp un gd cn cs L a ccd cl outer).under (Code.builtin "type.__call__" ⟨[.ref 53, .ref S, .int n tn], []⟩) = ktrTop (dp + 1) (un + 1) gd cn cs L a ccd cl outer := by cases gd <;> rfl
  rw [hA]
  clear F N
  have l3 : ∀ p ∈ news, @LT.lt Nat _ p.1 dx := fun p hp => l1 p (.tail _ (.tail _ hp))
  have l4 : ∀ p ∈ news, p.1 ≠ dx := fun p hp => Nat.ne_of_lt (l3 p hp)
  have l5 : @LT.lt Nat _ S dx := l1 _ (.head _)
  have l7 : @LT.lt Nat _ DS dx := l1 _ (.tail _ (.head _))
  have l6 : @LT.lt Nat _ dx x := l2
  k_dflt (walk_at "my enter")
  k_steps
  all_goals (rename_i kF kN Tc kX; exact hQ x dx _ _ _ _ _ _ _ _ kF (news_pick5 kN) l3 l2 (by with_reducible rename (_ ∧ _ ∧ _ ∧ _ ∧ _ ∧ AllLt _ _) => lq; exact allLt_mem lq.2.2.2.2.2))
end
end

section
open PySem PySem.W PyProof.Rows PySem.Calls PyProof.Rows.LCg
theorem drop10 : lawBody.drop 10 = (lawBody[10]?).getD (.Pass default) :: lawBody.drop 11 := by kernel_rfl
section
variable {w : World} {mean : ExcName → Option Value} {mg mb : Str → Option Value} {dp un : Nat} {outer : List Env} {A₀ : Around} {h₀ : Heap} {L : Addr} {m : Str → Option Value} {s : Shared} {E : Value → Shared → Prop}
  {c1 c2 c3 c4 c5 l : Addr} {o1 o2 o3 o4 o5 : Obj} {vs : List Value} {ns : List Int} {S DS BA : Addr} {d : Array UInt8} {td tW t1 t2 t3 : Tok} {W : Int}
local macro_rules | `(tactic| walk_at "eval Name") => `(tactic| (k_here; (with_reducible show wpAny _ _ (eval (Expr.Name _ _) (envX _ _ _ _ _ _)) _ _ _); (refine' nameX_L ?F ?v ?_ ?k ?x ?d; (case x => rfl); (case k => rfl); (case d => decide); (case F => k_asm); (case v => first | with_reducible assumption | assumption); k_whole)))
local macro_rules | `(tactic| walk_at "exec For Name BinOp cons nil") => `(tactic| (refine Halt.mk ?_))
local macro_rules | `(tactic| walk_at "call ref") => `(tactic| (k_here; (with_reducible show wpAny _ _ (call (Value.ref 273) [Value.ref _, Value.int _ _]) _ _ _); refine Halt.mk ?_))
local macro_rules | `(tactic| walk_at "call ref") => `(tactic| (k_here; (with_reducible show wpAny _ _ (call (Value.ref 53) [Value.ref _, Value.int _ _]) _ _ _); refine Halt.mk ?_))
set_option maxHeartbeats 4000000 in
theorem law_tail {Q : Flow → Shared → Prop} (CC : CL w mean mg mb A₀ outer h₀) (hd : dp + 30 < recursionLimit) (hu : un + 140 < cLine) (hE : PassesOwn (model pwS w) (ktrTop dp un (some []) lawNm lawSc L 626 (.ref 625) (lawCl c1 c2 c3 c4 c5) outer) (envX lawNm lawSc L 626 (.ref 625) (lawCl c1 c2 c3 c4 c5)) E) (F : Fr h₀ L s.heap m)
   (N : News h₀ L s.heap [(DS, sD w.params BA (Array.size d) t1 t2 t3), (S, instObj 365 DS), (BA, baO d), (c5, o5), (c4, o4), (c3, o3), (c2, o2), (c1, o1)])
   (d1 : o1.data = .cell (some (.ref l))) (d2 : o2.data = .cell (some (.int W tW))) (d3 : o3.data = .cell (some (.bytes d td))) (d4 : o4.data = .cell none) (d5 : o5.data = .cell none)
   (l1 : @LT.lt Nat _ c1 c2) (l2 : @LT.lt Nat _ c2 c3) (l3 : @LT.lt Nat _ c3 c4) (l4 : @LT.lt Nat _ c4 c5)
   (z1 : @LT.lt Nat _ c5 DS) (z2 : @LT.lt Nat _ c4 DS) (z3 : @LT.lt Nat _ c3 DS) (z4 : @LT.lt Nat _ c2 DS) (z5 : @LT.lt Nat _ c1 DS) (e2 : @LT.lt Nat _ DS S) (e3 : @LT.lt Nat _ S BA)
   (ls : m (Str.ofString "stream") = some (.ref S)) (hs0 : 30 ≤ d.size) (hs1 : d.size ≤ 41)
   (hl : h₀.IsList l vs.toArray) (hi : IntsAre vs ns) (hlen : ns.length ≤ 63)
   (hQ : ∀ h' tk' m' news', Fr h₀ L h' m' → News h₀ L h' news' → Q (.ret (.bool true)) { s with heap := h', toks := tk' }) :
   wpAny (model pwS w) (ktrTop dp un (some []) lawNm lawSc L 626 (.ref 625) (lawCl c1 c2 c3 c4 c5) outer) (execs (lawBody.drop 6) (envX lawNm lawSc L 626 (.ref 625) (lawCl c1 c2 c3 c4 c5))) Q E s := by
  have CC' := CC
  obtain ⟨B, X, T⟩ := CC'
  have hne : ∀ q ∈ [(S, instObj 365 DS), (BA, baO d), (c5, o5), (c4, o4), (c3, o3), (c2, o2), (c1, o1)], q.1 ≠ DS := by
    intro q hq
    simp only [List.mem_cons, List.not_mem_nil] at hq
    rcases hq with rfl | rfl | rfl | rfl | rfl | rfl | rfl | hq
    all_goals first | exact hq.elim | (refine Nat.ne_of_lt ?_; dsimp only; omega) | (refine Nat.ne_of_gt ?_; dsimp only; omega)
  show wpAny _ _ (execs (_ :: _ :: _ :: _ :: lawBody.drop 10) _) _ _ _
  generalize hr : lawBody.drop 10 = rest
  refine wpAny_execs_cons ?_
  k_steps
  show wpAny _ _ (call (.ref 273) [.ref S, .int 0 _]) _ _ ⟨s.heap, s.gens, s.drawn, _, s.os⟩
  with_reducible refine seek_spec (s := ⟨s.heap, s.gens, s.drawn, s.toks + 1, s.os⟩) (rest := [(S, instObj 365 DS), (BA, baO d), (c5, o5), (c4, o4), (c3, o3), (c2, o2), (c1, o1)]) B X T ?_ ?_ ?_ F ?_ ?_ ?_ hne N ?_
  · rfl
  · omega
  · omega
  · omega
  · omega
  · exact .head _
  intro h1 tk1 t0 t3' F1 N1
  show wpAny _ _ (execs (_ :: _ :: _ :: rest) _) _ _ ⟨h1, s.gens, s.drawn, tk1, s.os⟩
  refine wpAny_execs_cons ?_
  k_steps
  with_reducible rename Fr _ _ _ _ => F2
  rename_i h2 o4' N2 d4'
  replace d4' : ∃ tn, o4'.data = .cell (some (.int (1 + (W.fdiv 3).fmod 4) tn)) := ⟨_, d4'⟩
  obtain ⟨tn, d4'⟩ := d4'
  have f0 : 0 ≤ (W.fdiv 3).fmod 4 := fmod_lo _ (by omega)
  have f1 : (W.fdiv 3).fmod 4 < 4 := fmod_hi _ (by omega)
  show wpAny _ _ (call (.ref 53) [.ref S, .int (1 + (W.fdiv 3).fmod 4) _]) _ _ ⟨h2, s.gens, s.drawn, _, s.os⟩
  with_reducible refine wrap_spec CC ?_ ?_ ?_ F2 N2 (DS := DS) (BA := BA) (p := 0) (t1 := t1) (t2 := t2) (t3 := t3') ?_ ?_ ?_
  · rfl
  · omega
  · omega
  · exact .tail _ (.head _)
  · exact .head _
  intro H DH M oM u1 u2 u3 u4 h3 tk3 F3 N3 q1 q2 q3
  have y1 : @LT.lt Nat _ DS DH := q1 _ (.head _)
  have y2 : @LT.lt Nat _ DS M := q3 _ (.head _)
  have y3 : @LT.lt Nat _ c5 DH := q1 (c5, o5) (.tail _ (.tail _ (.tail _ (.head _))))
  have y4 : @LT.lt Nat _ c5 M := q3 (c5, o5) (.tail _ (.tail _ (.tail _ (.head _))))
  clear F2 N2 q1 q3
  dsimp only
  k_steps
  rename_i h4 F4 N4
  obtain ⟨m4, tp, F4, b_h, b_s, b_p⟩ : ∃ m4 tp, Fr h₀ L h4 m4 ∧ m4 (Str.ofString "hand") = some (.ref H) ∧ m4 (Str.ofString "stream") = some (.ref S) ∧ m4 (Str.ofString "place") = some (.int 0 tp) := ⟨_, _, F4, rfl, ls, rfl⟩
  rw [← hr, drop10]
  refine wpAny_execs_cons ?_
  clear hr
  show wpAny _ _ (exec _ _) _ _ ⟨h4, s.gens, s.drawn, _, s.os⟩
  have hR : ∀ q ∈ [(H, instObj 53 DH), (DH, fD w.params S (1 + (W.fdiv 3).fmod 4) M u1 u2 u3 u4), (M, oM), (S, instObj 365 DS), (BA, baO d), (c2, o2), (c1, o1)], q.1 ≠ DS ∧ q.1 ≠ c5 := by
    intro q hq
    simp only [List.mem_cons, List.not_mem_nil] at hq
    rcases hq with rfl | rfl | rfl | rfl | rfl | rfl | rfl | hq
    all_goals first | exact hq.elim | (refine ⟨?_, ?_⟩ <;> first | (refine Nat.ne_of_lt ?_; dsimp only; omega) | (refine Nat.ne_of_gt ?_; dsimp only; omega))
  have C : HC w [(H, instObj 53 DH), (DH, fD w.params S (1 + (W.fdiv 3).fmod 4) M u1 u2 u3 u4), (M, oM), (S, instObj 365 DS), (BA, baO d), (c2, o2), (c1, o1)] S DS BA H DH M d (1 + (W.fdiv 3).fmod 4) u1 u2 u3 u4 :=
    ⟨by omega, by omega, by omega, .head _, .tail _ (.head _), .tail _ (.tail _ (.tail _ (.head _))), .tail _ (.tail _ (.tail _ (.tail _ (.head _)))), fun q hq => (hR q hq).1⟩
  with_reducible refine loop_spec (rest := [(H, instObj 53 DH), (DH, fD w.params S (1 + (W.fdiv 3).fmod 4) M u1 u2 u3 u4), (M, oM), (S, instObj 365 DS), (BA, baO d), (c2, o2), (c1, o1)]) (c1 := c1) (o1 := o1) (t1 := t1) (t2 := t2) (t3 := t3') CC ?_ ?_ hE C F4 (news_sub N4 ?_) ?_ d1 hl hi hlen ?_ ?_ ?_ ?_ ?_ (fun q hq => (hR q hq).2) d3 d4' d5 ?_ ?_ ?_ ?_ ?_ b_h b_s b_p ?_
  · omega
  · omega
  · intro q hq
    simp only [List.mem_cons] at hq ⊢
    rcases hq with h | h | h | h | h | h | h | h | h | h | h | h <;> simp [h]
  · exact .tail _ (.tail _ (.tail _ (.tail _ (.tail _ (.tail _ (.head _))))))
  · exact Nat.ne_of_lt z1
  · exact Nat.ne_of_lt z3
  · exact Nat.ne_of_lt z2
  · exact Nat.ne_of_lt (Nat.lt_trans l3 l4)
  · exact Nat.ne_of_lt l4
  · omega
  · omega
  · omega
  · omega
  · omega
  intro m5 h5 tk5 news5 F5 N5
  show wpAny _ _ (execs (_ :: []) _) _ _ ⟨h5, s.gens, s.drawn, tk5, s.os⟩
  clear F4 N4
  k_steps
  exact hQ h5 tk5 m5 news5 F5 N5
end
end
end

section
open PySem PySem.W PyProof.Rows PySem.Calls PyProof.Rows.LCg
theorem law_code {w : World} {mean : ExcName → Option Value} {mg mb : Str → Option Value} {s : Shared} {l : Addr} {vs : List Value} {ns : List Int} (X : (K w.params).In s.heap) (T : Top qv Lz mean mg mb s.heap) (hl : s.heap.IsList l vs.toArray) (hi : IntsAre vs ns) (hlen : ns.length ≤ 63) :
    codeOk (model pwS w) callerA (.call (.ref 626) ⟨[.ref l], []⟩) (fun r s' => r = .ok (.ret (.bool true)) ∧ (∀ b o, s.heap.get? b = some o → s'.heap.get? b = some o) ∧ s'.os = s.os ∧ s'.gens = s.gens) s := by
  have CC : CL w mean mg mb callerA [] s.heap := ⟨below_caller _, X, T⟩
  refine law_open X T fun h₁ tk m c1 c2 c3 c4 c5 o1 o2 o3 o4 o5 F N d1 d2 d3 d4 d5 l1 l2 l3 l4 => ?_
  refine law_head (s := ⟨h₁, s.gens, s.drawn, tk, s.os⟩) CC (by decide) (by decide) F N d1 d2 d3 d4 d5 l1 l2 l3 l4 hl hi hlen fun m' h' tk' d td W tW S DS BA t1 t2 t3 o2' o3' F1 N1 d2' d3' ls z0 z1 y1 y2 y3 y4 y5 y6 y7 => ?_
  refine law_tail (s := ⟨h', s.gens, s.drawn, tk', s.os⟩) CC (by decide) (by decide) PassesOwn.never F1 N1 d1 d2' d3' d4 d5 l1 l2 l3 l4 y1 y2 y3 y4 y5 y6 y7 ls z0 z1 hl hi hlen fun h2 tk2 m2 news2 F2 N2 => ?_
  exact ⟨rfl, fun b o e => F2.keep b o e, rfl, rfl⟩
end

section
open PySem PySem.W PyProof.Rows PySem.Calls
theorem caller_clean : Clean (⟨.builtin "claim.caller" {}, none, none, [], none⟩ : Ctx) := ⟨by decide +kernel, fun c hc => nomatch hc⟩
/-- a thread from the caller's clean context ends -/
theorem ends_ok {prog : Program} {w : World} {t : Sem Fin} {s : Shared} {R : Result → Shared → Prop} (hreg : s.asleep)
    (h : wpOk (model prog w) callerA t (fun fin s' => ∃ f, fin = .done f ∧ (R (.ok f) s' ∧ leftWithCleanup s'.gens = false)) (fun e s' => R (.error e) s' ∧ leftWithCleanup s'.gens = false) s) :
    ∃ n r s' s'', runN (denote table) prog w n s ⟨t, .builtin "claim.caller" {}, default, []⟩ = .halted (outcomeOf r) s' ∧
      schedN (denote table) prog w n (.single s ⟨t, .builtin "claim.caller" {}, default, []⟩) = .halted (outcomeOf r) s' ∧ s'.forget = s''.forget ∧ R r s'' := by
  have k : Sem.wp (model prog w) ⟨.builtin "claim.caller" {}, none, none, [], none⟩ t (Sem.finPost (model prog w) ⟨.builtin "claim.caller" {}, none, none, [], none⟩ fun r s' => R r s' ∧ leftWithCleanup s'.gens = false)
      (fun e _ s' => R (.error e) s' ∧ leftWithCleanup s'.gens = false) default s := by
    refine Sem.wp_mono _ _ t (fun fin p' s' h' => ?_) (fun _ _ _ h' => h') default s (h _ default caller_in caller_clean)
    obtain ⟨f, rfl, hf⟩ := h'
    exact hf
  obtain ⟨n, r, s₁, s₂, hs, hn, hfo, hR⟩ := wp_halts_full (M := model prog w) (R := R) hreg k
  exact ⟨n, r, s₂, s₁, hn, hs, hfo, hR⟩
theorem callFrom_ok {c : ClaimW} {tree : List Value → Sem Fin} {w : World} {s : Shared} {free : Addr → Prop} {gens : Prop} {kept : Heap → Prop} (hz : s.asleep) (hgens : s.gens = #[])
    (hspec : ∀ args, c.pre args = true → WData.layableAll args = true → ∀ ord : List DictEntry → List DictEntry, (∀ l, (ord l).Perm l) →
      ∃ vs s₁, layAllW c.records (classAt s.heap) w.params ord args s = some (vs, s₁) ∧
        wpOk (model c.prog w) callerA (tree vs) (fun fin s' => ∃ f, fin = .done f ∧ (c.Ends s args vs s₁ (.ok f) s' ∧ s'.os = s.os ∧ AllBare s'.gens ∧ kept s'.heap)) (fun _ _ => False) s₁) :
    c.CallFrom (fun vs => ⟨tree vs, .builtin "claim.caller" {}, default, []⟩) w free gens kept s := by
  intro args hpre hlay ord hord
  obtain ⟨vs, s₁, hlaid, hcode⟩ := hspec args hpre hlay ord hord
  have hal := layAllW_rest _ _ _ hlaid
  obtain ⟨k, r, s', s'', hrun, hsched, hfo, hcase, hos, hkp⟩ := ends_ok (prog := c.prog) (w := w) (t := tree vs) (s := s₁) (R := fun r s' => c.Ends s args vs s₁ r s' ∧ s'.os = s.os ∧ kept s'.heap) (Shared.asleep_of_life hal.2.2.2 hz)
    (hcode.mono (fun fin s' ⟨f, e, h1, h2, h3, h4⟩ => ⟨f, e, ⟨h1, h2, h4⟩, leftWithCleanup_false_of_bare h3⟩) fun e s' h => h.elim)
  obtain ⟨eh, _, _, eo, _⟩ := Shared.forget_eq hfo
  have hcase := hcase.congr eh
  have hkp : kept s'.heap := by first | exact eh ▸ hkp | (rw [eh] at hkp; exact hkp) | (rw [← eh] at hkp; exact hkp)
  rw [← eo] at hos
  have hlife : s'.heap.life = s.heap.life := (runN_life _ _ _ hrun).trans hal.2.2.2
  refine ⟨vs, s₁, hlaid, k, _, s', hsched, ?_, (fun _ i x hx => by rw [hgens] at hx; simp at hx), hkp, by rw [hlife], Shared.rest_eq hos⟩
  rcases hcase with ⟨v, rfl, d1, d2, d3, d4, d5⟩ | ⟨e, ob, cls, rfl, d1, d2, d3, d4, d5⟩
  · exact .inl ⟨v, rfl, d1, d2, d3, fun b o y _ => d4 b o y, d5⟩
  · exact .inr ⟨e, ob, cls, rfl, d1, d2, d3, d4, fun b o y _ => d5 b o y⟩
theorem ns_ok {prog : Program} {w : World} {A : Around} {E : Value → Shared → Prop} {s : Shared} {mg : Str → Option Value} {x : Str} {f : Value} {vs : List Value} {Q : Fin → Shared → Prop} (hg : s.heap.Ns mainGlobals mg) (hf : mg x = some f) (h : wpOk (model prog w) A (PySem.call f vs) (fun v s' => Q (.done (.ret v)) s') E s) :
    wpOk (model prog w) A (do match ← nsGet mainNs x with
      | some f => do ret (← PySem.call f vs)
      | none => unsupported "claim.caller:no-such-global") Q E s := by
  refine wpOk.bind (wpOk.of (wpAny_nsGet hg ?_))
  rw [hf]
  exact wpOk.bind (h.mono (fun _ _ x => wpOk.pure x) fun _ _ x => x)
end

section
open PySem PySem.W PyProof.Rows PySem.Calls
theorem holds_ok {r : OpenRow} {q : Program} {loose : List Str} {α : Type} {Yf : Shared → α} {Ya : World → α} {YP : World → Heap → Prop} {d : DefRec} {kwd : List (Str × Expr)} {N : Nat}
    (left : LeftO r.prog q loose (fun _ => true) Yf Ya N) (hY : ∀ w s, Yf s = Ya w → YP w s.heap) (hYk : ∀ w h h', YP w h → (∀ b o, h.get? b = some o → h'.get? b = some o) → YP w h')
    (hdef : defOf q r.name = some (d, kwd)) (hp : r.prog.theDef r.name = some (d.params, d.body, d.scope)) (hk : kwWritten? d.params.kwonlyargs d.params.kw_defaults = some kwd) (hRf : ∀ s : Shared, RecFacts r.records s.heap) (hwr : (!r.writes || r.records.isEmpty) = true)
    (k1 : r.wellSaid = true) (ok : (chainsOk q && opensWell r.prog && (frees r.toRowW && r.within.isEmpty)) = true) (hb : r.prog.bare) (hw : r.toRowW.promised)
    (call : ∀ (w : World) (s₀ s₁ : Shared) (mg mb : Str → Option Value), Ground q loose r.records (fun _ _ => True) w s₀ mg mb s₁.heap → YP w s₁.heap → ∀ a, mg d.name = some (.ref a) → s₁.gens = #[] →
      ∀ (args : List WData) (vals : List Value) (as : List Addr), r.toRowW.claim.pre args = true → WData.layableAll args = true → ReadsAllW r.records (classAt s₀.heap) s₁.heap vals args as → WellAll w.params s₁.heap vals args → (∀ a ∈ as, (a == sysModules) = false) →
      wpOk (model r.prog w) callerA (PySem.call (.ref a) vals) (fun v s' => GoodWG r.toRowW.claim (classAt s₀.heap) (ExcName.means s₀.heap) args s₁ (.ok (.ret v)) s') (fun _ _ => False) s₁) : r.Holds := by
  refine ⟨k1, hw, ?_⟩
  obtain ⟨ok, k5⟩ := Bool.and_eq_true_iff.mp ok
  obtain ⟨hch, o1⟩ := Bool.and_eq_true_iff.mp ok
  obtain ⟨k5, k6⟩ := Bool.and_eq_true_iff.mp k5
  obtain ⟨hsame, hu, ha, hap, hm⟩ := frees_parts k5
  refine ⟨⟨hb, o1, by show r.makers.map _ = []; rw [hm]; rfl⟩, hw.witness, fun w => ⟨(left.behind (XP := fun _ _ => True) (fun _ _ => trivial) hch w).1, fun s' hs' => ?_⟩⟩
  obtain ⟨s₀, hf, hg0, s, hT, hz, hgens, hg, G0, y⟩ := (left.behind (XP := fun _ _ => True) (fun _ _ => trivial) hch w).2 s' hs'
  have RF := hRf s
  refine ⟨s₀, hf, hg0, s, hT, fun n hn => ?_, RF.1, RF.2.1, ?_⟩
  · obtain rfl : n = r.name := by split at hn <;> simp_all
    exact pinned_of_view hg G0 hdef hp hk
  have hgens : s.gens = #[] := Array.eq_empty_of_size_eq_zero (beq_iff_eq.mp hgens)
  have G : Ground q loose r.records (fun _ _ => True) w s _ _ s.heap := RF.ground G0
  refine callFrom_ok (c := r.toRowW.claim) hz hgens fun args hpre hlay ord hord => ?_
  obtain ⟨⟨vs, s₁⟩, hlaid⟩ := Option.isSome_iff_exists.mp (layAllW_isSome (P := w.params) (ord := ord) G.has args r.args s (pre_splitW hpre).1)
  have keeps := layAllW_keeps _ _ _ hlaid
  have hal := layAllW_rest _ _ _ hlaid
  obtain ⟨as, hrd, hin, hold⟩ := reads_layAllW hord _ _ _ hlaid hlay s₁.heap (fun _ _ e => e)
  have L : Laid r.records w s s₁ args vs as := ⟨⟨ord, hord, hlaid⟩, hrd, hin, hold, keeps, hal.1.trans hgens, hal.2.2.1⟩
  have G₁ := G.keeps (fun _ _ _ _ _ => trivial) keeps
  obtain ⟨a, o, pm, cd, doc, dV, kV, h1, h2, h3, h4, h5⟩ := G₁.fn hdef
  have h := call w s s₁ _ _ G₁ (hYk _ _ _ (hY w s y) keeps) a (defOf_name hdef ▸ h1) L.gens args vs as hpre hlay L.reads L.well (L.low G.low)
  have hi := ident_freeW hu ha hap
  have hwi : r.toRowW.claim.within = [] := List.isEmpty_iff.mp k6
  refine ⟨vs, s₁, hlaid, ns_ok G₁.T.g h1 (h.mono (fun v s' g => ⟨_, rfl, ?_⟩) fun _ _ e => e)⟩
  have z := g.laid (c := r.toRowW.claim) hsame hwi hi L
  exact ⟨z.1, z.2.1, z.2.2, fun q => ⟨namesKept_of hT hg _ keeps g.2.1.old, noTable hwr q⟩⟩
end

section
open PySem PySem.W PyProof.Rows PySem.Calls
theorem well_said : OpenLaw.wellSaid PySem.Challenge.rw_io0037_01 = true := by
  rw [PySem.W.Fast.te9446332074065402090]
  decide +kernel
theorem hd2 : PySem.Challenge.rw_io0037_01.Holds := by
  w_on
  refine holds_law well_said fun said => ?_
  refine holds_ok (q := view PySem.Challenge.pw_io0037_01 [16]) (loose := looseS) (Yf := Yo) (Ya := Yv) (YP := InK K) (N := 4400) left saysK InK.keeps (by rfl) (by rfl) (by rfl) (fun s => recFacts_nil rfl) (by rfl) (by assumption) (by decide +kernel) ⟨rfl, rfl, rfl, rfl, rfl, by decide +kernel⟩ ?hw ?hc
  case hw => w_witness2
  case hc =>
    intro w s₀ s₁ mg mb G Y fa hmg hg args vals as hpre hlay hrd hwl hlo
    have KX : (K w.params).In s₁.heap := Y
    refine Ground.open G ?_
    intro T B D TE TW
    have hm : mg (Str.ofString "law") = some (.ref 626) := mg_of KX T.g (lawAt w.params)
    have hf : fa = 626 := by
      have e := hmg
      dsimp only at e
      rw [hm] at e
      simpa using e.symm
    subst hf
    clear hmg D
    wrow_args hpre hlay hrd hwl hlo
    rename_i _ _ _ hlay1 _ _ _ _ _ _ _ hL _ _ _ hI _ hlen _
    refine (wpOk.call ((law_code KX T hL hI (by omega)).mono (R' := fun r s' => match r with | .ok (.ret v) => v = .bool true ∧ (∀ b o, s₁.heap.get? b = some o → s'.heap.get? b = some o) ∧ s'.os = s₁.os ∧ s'.gens = s₁.gens | .ok _ => False | .error e => False) fun r s' h => ?_)).mono (fun v s' h => ?_) (fun e s' h => h)
    · obtain ⟨rfl, h⟩ := h
      exact ⟨rfl, h⟩
    · obtain ⟨rfl, hk, hos, hgs⟩ := h
      exact GoodW.toG ⟨.inl ⟨.bool true, .bool true, [], rfl, fun _ => rfl, by constructor, by first | kernel_rfl | exact postW_of (by wrow_shape) (by wtm_val) (by w_fin), fun _ => ⟨List.nodup_nil, fun a ha => nomatch ha⟩⟩, hk, hos, hgs.trans hg⟩
end
end Mine
open PySem PySem.W PyProof.Rows
theorem PySem.Challenge.cw_io0037_01_holds : PySem.Challenge.rw_io0037_01.Holds := by
  exact Mine.hd2
