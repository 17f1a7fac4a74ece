import PyProof.Rows.All
import Wide.All
import OpenK.AllK
import Wide.FinOn
import Lean
import PySem.Challenge.RW_wv0051_01
open PySem PySem.W PyProof.Rows PySem.W.X PySem.Calls PySem.Spec
set_option Elab.async false
set_option linter.all false
set_option maxRecDepth 100000
set_option maxHeartbeats 4000000
namespace Mine
noncomputable abbrev VP:=Value→Shared→Prop
noncomputable abbrev SV:=Str→Option Value
noncomputable abbrev AO:=List (Addr×Obj)
noncomputable abbrev FP:=Flow→Shared→Prop
noncomputable abbrev LS:=List (Str×Str)
noncomputable abbrev PW:Program:=PySem.Challenge.pw_wv0051_01
noncomputable def Cu (i:Nat):Stmt:=PySem.Challenge.pw_wv0051_01.main.body.getD i (.Pass default)
noncomputable def clsBody:Stmt→List Stmt
 | .ClassDef _ _ _ b _ _ _ _ _ _ _=>b
 | _=>[]
noncomputable def E0 (i j:Nat):Stmt:=(clsBody (Cu i)).getD j (.Pass default)
noncomputable def fparams:Stmt→Arguments
 | .FunctionDef _ a _ _ _ _ _ _ _ _=>a
 | _=>default
noncomputable def Cv:Stmt→List Stmt
 | .FunctionDef _ _ b _ _ _ _ _ _ _=>b
 | _=>[]
noncomputable def fscope:Stmt→Scope
 | .FunctionDef _ _ _ _ _ _ s _ _ _=>s
 | _=>default
noncomputable def Ct (name qual:Str) (st:Stmt) (closure:List (Str×Addr)) (dflt kwd pm code ct:Value):FuncData :=
 {name,qualname:=qual,params:=fparams st,body:=.stmts (Cv st),scope:=fscope st,globals:=3,closure,defaults:=dflt,kwdefaults:=kwd,doc:=.none,pyModule:=pm,annotations:=none,code,closureTuple:=ct,builtins:=0}
noncomputable abbrev kd (P:Params) (k:Str) (t:Tok) (v:Value):DictEntry:=⟨PyData.keyHash P k,.str k t,v⟩
noncomputable def K0 (P:Params):Frag:=[
 (2,⟨.none,none,.dict [].toArray 0,#[]⟩),
 (3,⟨.type "dict", none,.dict [kd P "__name__" 165 (.str "law_wv0051_01" 541),kd P "__doc__" 166 (.none),kd P "__package__" 167 (.none),kd P "__loader__" 168 (.builtin "__main__.__loader__#opaque"),kd P "__spec__" 169 (.none),kd P "__annotations__" 170 (.ref 6),kd P "__builtins__" 171 (.ref 4),kd P "__file__" 173 (.str "/claim/cut.py" 172),kd P "__cached__" 174 (.none),kd P "_wall" 193 (.ref 21),kd P "insort_right" 208 (.ref 30),kd P "bisect_right" 222 (.ref 39),kd P "insort_left" 235 (.ref 48),kd P "bisect_left" 249 (.ref 57),kd P "NL" 253 (.str "\n" 252),kd P "EMPTYSTRING" 255 (.str "" 254),kd P "_ValueFormatter" 363 (.ref 130),kd P "_Accumulator" 459 (.ref 214),kd P "is_" 469 (.ref 225),kd P "neg" 476 (.ref 232),kd P "countOf" 486 (.ref 239),kd P "delitem" 494 (.ref 246),kd P "getitem" 502 (.ref 253),kd P "indexOf" 512 (.ref 260),kd P "length_hint" 524 (.ref 268),kd P "iadd" 532 (.ref 275),kd P "isub" 540 (.ref 282),kd P "_law_draw" 560 (.ref 289),kd P "_law_below" 567 (.ref 296),kd P "_law_best" 573 (.ref 301),kd P "_law_due" 579 (.ref 306),kd P "_law_apart" 585 (.ref 311),kd P "law" 591 (.ref 316)].toArray 33,#[]⟩),
 (4,⟨.type "module", (some 0),.plain,#[]⟩),
 (22,⟨.type "tuple", none,.seq [.int 0 196,.none].toArray 0,#[]⟩),
 (23,⟨.type "dict", none,.dict [kd P "key" 197 (.none)].toArray 1,#[]⟩),
 (29,⟨.type "code", none,.fields [.str "insort_right" 198,.str "insort_right" 199,.str "/claim/cut.py" 200,.int 5 0,.int 4 0,.int 0 0,.int 1 0,.int 3 0,.ref 24,.bool true,.int 181 0,.ref 25,.none,.ref 26,.ref 27,.ref 28,.int 206 0,.int 5 0,.str "/claim/cut.py" 207].toArray,#[]⟩),
 (30,⟨.type "function", none,.func (Ct "insort_right" "insort_right" (Cu 2) [] (.ref 22) (.ref 23) (.str "cpy313.bisect" 194) (.ref 29) (.none)),#[]⟩),
 (31,⟨.type "tuple", none,.seq [.int 0 209,.none].toArray 0,#[]⟩),
 (32,⟨.type "dict", none,.dict [kd P "key" 210 (.none)].toArray 1,#[]⟩),
 (38,⟨.type "code", none,.fields [.str "bisect_right" 211,.str "bisect_right" 212,.str "/claim/cut.py" 213,.int 11 0,.int 4 0,.int 0 0,.int 1 0,.int 3 0,.ref 33,.bool true,.int 181 0,.ref 34,.none,.ref 35,.ref 36,.ref 37,.int 220 0,.int 11 0,.str "/claim/cut.py" 221].toArray,#[]⟩),
 (39,⟨.type "function", none,.func (Ct "bisect_right" "bisect_right" (Cu 3) [] (.ref 31) (.ref 32) (.str "cpy313.bisect" 194) (.ref 38) (.none)),#[]⟩),
 (40,⟨.type "tuple", none,.seq [.int 0 223,.none].toArray 0,#[]⟩),
 (41,⟨.type "dict", none,.dict [kd P "key" 224 (.none)].toArray 1,#[]⟩),
 (47,⟨.type "code", none,.fields [.str "insort_left" 225,.str "insort_left" 226,.str "/claim/cut.py" 227,.int 31 0,.int 4 0,.int 0 0,.int 1 0,.int 3 0,.ref 42,.bool true,.int 181 0,.ref 43,.none,.ref 44,.ref 45,.ref 46,.int 233 0,.int 31 0,.str "/claim/cut.py" 234].toArray,#[]⟩),
 (48,⟨.type "function", none,.func (Ct "insort_left" "insort_left" (Cu 4) [] (.ref 40) (.ref 41) (.str "cpy313.bisect" 194) (.ref 47) (.none)),#[]⟩),
 (49,⟨.type "tuple", none,.seq [.int 0 236,.none].toArray 0,#[]⟩),
 (50,⟨.type "dict", none,.dict [kd P "key" 237 (.none)].toArray 1,#[]⟩),
 (56,⟨.type "code", none,.fields [.str "bisect_left" 238,.str "bisect_left" 239,.str "/claim/cut.py" 240,.int 37 0,.int 4 0,.int 0 0,.int 1 0,.int 3 0,.ref 51,.bool true,.int 181 0,.ref 52,.none,.ref 53,.ref 54,.ref 55,.int 247 0,.int 37 0,.str "/claim/cut.py" 248].toArray,#[]⟩),
 (57,⟨.type "function", none,.func (Ct "bisect_left" "bisect_left" (Cu 5) [] (.ref 49) (.ref 50) (.str "cpy313.bisect" 194) (.ref 56) (.none)),#[]⟩),
 (70,⟨.type "code", none,.fields [.str "__init__" 268,.str "_ValueFormatter.__init__" 269,.str "/claim/cut.py" 270,.int 62 0,.int 5 0,.int 0 0,.int 0 0,.int 3 0,.ref 65,.bool true,.int 181 0,.ref 66,.none,.ref 67,.ref 68,.ref 69,.int 276 0,.int 62 0,.str "/claim/cut.py" 277].toArray,#[]⟩),
 (71,⟨.type "function", none,.func (Ct "__init__" "_ValueFormatter.__init__" (E0 9 0) [] (.none) (.none) (.str "cpy313.email.header" 250) (.ref 70) (.none)),#[]⟩),
 (77,⟨.type "code", none,.fields [.str "_str" 279,.str "_ValueFormatter._str" 280,.str "/claim/cut.py" 281,.int 70 0,.int 2 0,.int 0 0,.int 0 0,.int 3 0,.ref 72,.bool true,.int 181 0,.ref 73,.none,.ref 74,.ref 75,.ref 76,.int 284 0,.int 70 0,.str "/claim/cut.py" 285].toArray,#[]⟩),
 (78,⟨.type "function", none,.func (Ct "_str" "_ValueFormatter._str" (E0 9 1) [] (.none) (.none) (.str "cpy313.email.header" 250) (.ref 77) (.none)),#[]⟩),
 (91,⟨.type "code", none,.fields [.str "newline" 294,.str "_ValueFormatter.newline" 295,.str "/claim/cut.py" 296,.int 77 0,.int 1 0,.int 0 0,.int 0 0,.int 3 0,.ref 86,.bool true,.int 181 0,.ref 87,.none,.ref 88,.ref 89,.ref 90,.int 299 0,.int 77 0,.str "/claim/cut.py" 300].toArray,#[]⟩),
 (92,⟨.type "function", none,.func (Ct "newline" "_ValueFormatter.newline" (E0 9 3) [] (.none) (.none) (.str "cpy313.email.header" 250) (.ref 91) (.none)),#[]⟩),
 (98,⟨.type "code", none,.fields [.str "add_transition" 302,.str "_ValueFormatter.add_transition" 303,.str "/claim/cut.py" 304,.int 88 0,.int 1 0,.int 0 0,.int 0 0,.int 3 0,.ref 93,.bool true,.int 181 0,.ref 94,.none,.ref 95,.ref 96,.ref 97,.int 306 0,.int 88 0,.str "/claim/cut.py" 307].toArray,#[]⟩),
 (99,⟨.type "function", none,.func (Ct "add_transition" "_ValueFormatter.add_transition" (E0 9 4) [] (.none) (.none) (.str "cpy313.email.header" 250) (.ref 98) (.none)),#[]⟩),
 (112,⟨.type "code", none,.fields [.str "_maxlengths" 319,.str "_ValueFormatter._maxlengths" 320,.str "/claim/cut.py" 321,.int 94 0,.int 1 0,.int 0 0,.int 0 0,.int 35 0,.ref 107,.bool true,.int 181 0,.ref 108,.none,.ref 109,.ref 110,.ref 111,.int 323 0,.int 94 0,.str "/claim/cut.py" 324].toArray,#[]⟩),
 (113,⟨.type "function", none,.func (Ct "_maxlengths" "_ValueFormatter._maxlengths" (E0 9 6) [] (.none) (.none) (.str "cpy313.email.header" 250) (.ref 112) (.none)),#[]⟩),
 (126,⟨.type "code", none,.fields [.str "_append_chunk" 336,.str "_ValueFormatter._append_chunk" 337,.str "/claim/cut.py" 338,.int 102 0,.int 3 0,.int 0 0,.int 0 0,.int 3 0,.ref 121,.bool true,.int 181 0,.ref 122,.none,.ref 123,.ref 124,.ref 125,.int 347 0,.int 102 0,.str "/claim/cut.py" 348].toArray,#[]⟩),
 (127,⟨.type "function", none,.func (Ct "_append_chunk" "_ValueFormatter._append_chunk" (E0 9 8) [] (.none) (.none) (.str "cpy313.email.header" 250) (.ref 126) (.none)),#[]⟩),
 (129,⟨.type "dict", none,.dict [kd P "__module__" 263 (.str "cpy313.email.header" 250),kd P "__firstlineno__" 267 (.int 60 266),kd P "__init__" 278 (.ref 71),kd P "_str" 286 (.ref 78),kd P "__str__" 293 (.ref 85),kd P "newline" 301 (.ref 92),kd P "add_transition" 308 (.ref 99),kd P "feed" 318 (.ref 106),kd P "_maxlengths" 325 (.ref 113),kd P "_ascii_split" 335 (.ref 120),kd P "_append_chunk" 349 (.ref 127),kd P "__static_attributes__" 356 (.ref 128),kd P "__dict__" 358 (.ref 131),kd P "__weakref__" 360 (.ref 132),kd P "__doc__" 361 (.none)].toArray 4,#[]⟩),
 (130,⟨.type "type", none,.cls {name := "_ValueFormatter", bases:=[.type "object"],mro:=[.ref 130,.type "object"],ns:=129,qualname := "_ValueFormatter", hasDict:=true,slotNames:=[],subclasses:=[],abstract:=false,collection:=none,hasDel:=false},#[none,none,some (.str "_ValueFormatter" 256),some (.str "_ValueFormatter" 264),some (.builtin "object.__new__"),some (.bool true)]⟩),
 (138,⟨.type "cell", none,.cell (some (.ref 214)),#[]⟩),
 (143,⟨.type "tuple", none,.seq [.int 0 376].toArray 0,#[]⟩),
 (150,⟨.type "code", none,.fields [.str "__init__" 377,.str "_Accumulator.__init__" 378,.str "/claim/cut.py" 379,.int 130 0,.int 2 0,.int 0 0,.int 0 0,.int 3 0,.ref 145,.bool true,.int 181 0,.ref 146,.none,.ref 147,.ref 148,.ref 149,.int 383 0,.int 130 0,.str "/claim/cut.py" 384].toArray,#[]⟩),
 (151,⟨.type "function", none,.func (Ct "__init__" "_Accumulator.__init__" (E0 10 0) [("__class__", 138)] (.ref 143) (.none) (.str "cpy313.email.header" 250) (.ref 150) (.ref 144)),#[]⟩),
 (157,⟨.type "code", none,.fields [.str "push" 386,.str "_Accumulator.push" 387,.str "/claim/cut.py" 388,.int 134 0,.int 3 0,.int 0 0,.int 0 0,.int 3 0,.ref 152,.bool true,.int 181 0,.ref 153,.none,.ref 154,.ref 155,.ref 156,.int 392 0,.int 134 0,.str "/claim/cut.py" 393].toArray,#[]⟩),
 (158,⟨.type "function", none,.func (Ct "push" "_Accumulator.push" (E0 10 1) [] (.none) (.none) (.str "cpy313.email.header" 250) (.ref 157) (.none)),#[]⟩),
 (159,⟨.type "tuple", none,.seq [.int 0 395].toArray 0,#[]⟩),
 (165,⟨.type "code", none,.fields [.str "pop_from" 396,.str "_Accumulator.pop_from" 397,.str "/claim/cut.py" 398,.int 137 0,.int 2 0,.int 0 0,.int 0 0,.int 3 0,.ref 160,.bool true,.int 181 0,.ref 161,.none,.ref 162,.ref 163,.ref 164,.int 402 0,.int 137 0,.str "/claim/cut.py" 403].toArray,#[]⟩),
 (166,⟨.type "function", none,.func (Ct "pop_from" "_Accumulator.pop_from" (E0 10 2) [] (.ref 159) (.none) (.str "cpy313.email.header" 250) (.ref 165) (.none)),#[]⟩),
 (173,⟨.type "code", none,.fields [.str "pop" 405,.str "_Accumulator.pop" 406,.str "/claim/cut.py" 407,.int 142 0,.int 1 0,.int 0 0,.int 0 0,.int 3 0,.ref 168,.bool true,.int 181 0,.ref 169,.none,.ref 170,.ref 171,.ref 172,.int 410 0,.int 142 0,.str "/claim/cut.py" 411].toArray,#[]⟩),
 (174,⟨.type "function", none,.func (Ct "pop" "_Accumulator.pop" (E0 10 3) [("__class__", 138)] (.none) (.none) (.str "cpy313.email.header" 250) (.ref 173) (.ref 167)),#[]⟩),
 (176,⟨.none,none,.fields [].toArray,#[]⟩),
 (180,⟨.type "code", none,.fields [.str "__len__" 413,.str "_Accumulator.__len__" 414,.str "/claim/cut.py" 415,.int 147 0,.int 1 0,.int 0 0,.int 0 0,.int 3 0,.ref 175,.bool true,.int 181 0,.ref 176,.none,.ref 177,.ref 178,.ref 179,.int 417 0,.int 147 0,.str "/claim/cut.py" 418].toArray,#[]⟩),
 (181,⟨.type "function", none,.func (Ct "__len__" "_Accumulator.__len__" (E0 10 4) [] (.none) (.none) (.str "cpy313.email.header" 250) (.ref 180) (.none)),#[]⟩),
 (183,⟨.none,none,.fields [].toArray,#[]⟩),
 (187,⟨.type "code", none,.fields [.str "__str__" 420,.str "_Accumulator.__str__" 421,.str "/claim/cut.py" 422,.int 150 0,.int 1 0,.int 0 0,.int 0 0,.int 3 0,.ref 182,.bool true,.int 181 0,.ref 183,.none,.ref 184,.ref 185,.ref 186,.int 424 0,.int 150 0,.str "/claim/cut.py" 425].toArray,#[]⟩),
 (188,⟨.type "function", none,.func (Ct "__str__" "_Accumulator.__str__" (E0 10 5) [] (.none) (.none) (.str "cpy313.email.header" 250) (.ref 187) (.none)),#[]⟩),
 (189,⟨.type "tuple", none,.seq [.none].toArray 0,#[]⟩),
 (195,⟨.type "code", none,.fields [.str "reset" 427,.str "_Accumulator.reset" 428,.str "/claim/cut.py" 429,.int 153 0,.int 2 0,.int 0 0,.int 0 0,.int 3 0,.ref 190,.bool true,.int 181 0,.ref 191,.none,.ref 192,.ref 193,.ref 194,.int 432 0,.int 153 0,.str "/claim/cut.py" 433].toArray,#[]⟩),
 (196,⟨.type "function", none,.func (Ct "reset" "_Accumulator.reset" (E0 10 6) [] (.ref 189) (.none) (.str "cpy313.email.header" 250) (.ref 195) (.none)),#[]⟩),
 (202,⟨.type "code", none,.fields [.str "is_onlyws" 435,.str "_Accumulator.is_onlyws" 436,.str "/claim/cut.py" 437,.int 159 0,.int 1 0,.int 0 0,.int 0 0,.int 3 0,.ref 197,.bool true,.int 181 0,.ref 198,.none,.ref 199,.ref 200,.ref 201,.int 439 0,.int 159 0,.str "/claim/cut.py" 440].toArray,#[]⟩),
 (203,⟨.type "function", none,.func (Ct "is_onlyws" "_Accumulator.is_onlyws" (E0 10 7) [] (.none) (.none) (.str "cpy313.email.header" 250) (.ref 202) (.none)),#[]⟩),
 (210,⟨.type "code", none,.fields [.str "part_count" 442,.str "_Accumulator.part_count" 443,.str "/claim/cut.py" 444,.int 162 0,.int 1 0,.int 0 0,.int 0 0,.int 3 0,.ref 205,.bool true,.int 181 0,.ref 206,.none,.ref 207,.ref 208,.ref 209,.int 447 0,.int 162 0,.str "/claim/cut.py" 448].toArray,#[]⟩),
 (211,⟨.type "function", none,.func (Ct "part_count" "_Accumulator.part_count" (E0 10 8) [("__class__", 138)] (.none) (.none) (.str "cpy313.email.header" 250) (.ref 210) (.ref 204)),#[]⟩),
 (213,⟨.type "dict", none,.dict [kd P "__module__" 371 (.str "cpy313.email.header" 250),kd P "__firstlineno__" 375 (.int 128 374),kd P "__init__" 385 (.ref 151),kd P "push" 394 (.ref 158),kd P "pop_from" 404 (.ref 166),kd P "pop" 412 (.ref 174),kd P "__len__" 419 (.ref 181),kd P "__str__" 426 (.ref 188),kd P "reset" 434 (.ref 196),kd P "is_onlyws" 441 (.ref 203),kd P "part_count" 449 (.ref 211),kd P "__static_attributes__" 451 (.ref 212),kd P "__dict__" 454 (.ref 215),kd P "__weakref__" 456 (.ref 216),kd P "__doc__" 457 (.none)].toArray 5,#[]⟩),
 (214,⟨.type "type", none,.cls {name := "_Accumulator", bases:=[.type "list"],mro:=[.ref 214,.type "list", .type "object"],ns:=213,qualname := "_Accumulator", hasDict:=true,slotNames:=[],subclasses:=[],abstract:=false,collection:=none,hasDel:=false},#[some (.ref 135),none,some (.str "_Accumulator" 364),some (.str "_Accumulator" 372),some (.builtin "list.__new__"),some (.bool true)]⟩),
 (224,⟨.type "code", none,.fields [.str "is_" 462,.str "is_" 463,.str "/claim/cut.py" 464,.int 165 0,.int 2 0,.int 0 0,.int 0 0,.int 3 0,.ref 219,.bool true,.int 181 0,.ref 220,.none,.ref 221,.ref 222,.ref 223,.int 467 0,.int 165 0,.str "/claim/cut.py" 468].toArray,#[]⟩),
 (225,⟨.type "function", none,.func (Ct "is_" "is_" (Cu 12) [] (.none) (.none) (.str "cpy313.operator" 460) (.ref 224) (.none)),#[]⟩),
 (231,⟨.type "code", none,.fields [.str "neg" 470,.str "neg" 471,.str "/claim/cut.py" 472,.int 167 0,.int 1 0,.int 0 0,.int 0 0,.int 3 0,.ref 226,.bool true,.int 181 0,.ref 227,.none,.ref 228,.ref 229,.ref 230,.int 474 0,.int 167 0,.str "/claim/cut.py" 475].toArray,#[]⟩),
 (232,⟨.type "function", none,.func (Ct "neg" "neg" (Cu 13) [] (.none) (.none) (.str "cpy313.operator" 460) (.ref 231) (.none)),#[]⟩),
 (238,⟨.type "code", none,.fields [.str "countOf" 477,.str "countOf" 478,.str "/claim/cut.py" 479,.int 169 0,.int 2 0,.int 0 0,.int 0 0,.int 3 0,.ref 233,.bool true,.int 181 0,.ref 234,.none,.ref 235,.ref 236,.ref 237,.int 484 0,.int 169 0,.str "/claim/cut.py" 485].toArray,#[]⟩),
 (239,⟨.type "function", none,.func (Ct "countOf" "countOf" (Cu 14) [] (.none) (.none) (.str "cpy313.operator" 460) (.ref 238) (.none)),#[]⟩),
 (245,⟨.type "code", none,.fields [.str "delitem" 487,.str "delitem" 488,.str "/claim/cut.py" 489,.int 175 0,.int 2 0,.int 0 0,.int 0 0,.int 3 0,.ref 240,.bool true,.int 181 0,.ref 241,.none,.ref 242,.ref 243,.ref 244,.int 492 0,.int 175 0,.str "/claim/cut.py" 493].toArray,#[]⟩),
 (246,⟨.type "function", none,.func (Ct "delitem" "delitem" (Cu 15) [] (.none) (.none) (.str "cpy313.operator" 460) (.ref 245) (.none)),#[]⟩),
 (252,⟨.type "code", none,.fields [.str "getitem" 495,.str "getitem" 496,.str "/claim/cut.py" 497,.int 177 0,.int 2 0,.int 0 0,.int 0 0,.int 3 0,.ref 247,.bool true,.int 181 0,.ref 248,.none,.ref 249,.ref 250,.ref 251,.int 500 0,.int 177 0,.str "/claim/cut.py" 501].toArray,#[]⟩),
 (253,⟨.type "function", none,.func (Ct "getitem" "getitem" (Cu 16) [] (.none) (.none) (.str "cpy313.operator" 460) (.ref 252) (.none)),#[]⟩),
 (259,⟨.type "code", none,.fields [.str "indexOf" 503,.str "indexOf" 504,.str "/claim/cut.py" 505,.int 179 0,.int 2 0,.int 0 0,.int 0 0,.int 3 0,.ref 254,.bool true,.int 181 0,.ref 255,.none,.ref 256,.ref 257,.ref 258,.int 510 0,.int 179 0,.str "/claim/cut.py" 511].toArray,#[]⟩),
 (260,⟨.type "function", none,.func (Ct "indexOf" "indexOf" (Cu 17) [] (.none) (.none) (.str "cpy313.operator" 460) (.ref 259) (.none)),#[]⟩),
 (261,⟨.type "tuple", none,.seq [.int 0 513].toArray 0,#[]⟩),
 (267,⟨.type "code", none,.fields [.str "length_hint" 514,.str "length_hint" 515,.str "/claim/cut.py" 516,.int 185 0,.int 2 0,.int 0 0,.int 0 0,.int 3 0,.ref 262,.bool true,.int 181 0,.ref 263,.none,.ref 264,.ref 265,.ref 266,.int 522 0,.int 185 0,.str "/claim/cut.py" 523].toArray,#[]⟩),
 (268,⟨.type "function", none,.func (Ct "length_hint" "length_hint" (Cu 18) [] (.ref 261) (.none) (.str "cpy313.operator" 460) (.ref 267) (.none)),#[]⟩),
 (274,⟨.type "code", none,.fields [.str "iadd" 525,.str "iadd" 526,.str "/claim/cut.py" 527,.int 210 0,.int 2 0,.int 0 0,.int 0 0,.int 3 0,.ref 269,.bool true,.int 181 0,.ref 270,.none,.ref 271,.ref 272,.ref 273,.int 530 0,.int 210 0,.str "/claim/cut.py" 531].toArray,#[]⟩),
 (275,⟨.type "function", none,.func (Ct "iadd" "iadd" (Cu 19) [] (.none) (.none) (.str "cpy313.operator" 460) (.ref 274) (.none)),#[]⟩),
 (281,⟨.type "code", none,.fields [.str "isub" 533,.str "isub" 534,.str "/claim/cut.py" 535,.int 213 0,.int 2 0,.int 0 0,.int 0 0,.int 3 0,.ref 276,.bool true,.int 181 0,.ref 277,.none,.ref 278,.ref 279,.ref 280,.int 538 0,.int 213 0,.str "/claim/cut.py" 539].toArray,#[]⟩),
 (282,⟨.type "function", none,.func (Ct "isub" "isub" (Cu 20) [] (.none) (.none) (.str "cpy313.operator" 460) (.ref 281) (.none)),#[]⟩),
 (288,⟨.type "code", none,.fields [.str "_law_draw" 543,.str "_law_draw" 544,.str "/claim/cut.py" 545,.int 217 0,.int 1 0,.int 0 0,.int 0 0,.int 3 0,.ref 283,.bool true,.int 181 0,.ref 284,.none,.ref 285,.ref 286,.ref 287,.int 558 0,.int 217 0,.str "/claim/cut.py" 559].toArray,#[]⟩),
 (289,⟨.type "function", none,.func (Ct "_law_draw" "_law_draw" (Cu 22) [] (.none) (.none) (.str "law_wv0051_01" 541) (.ref 288) (.none)),#[]⟩),
 (295,⟨.type "code", none,.fields [.str "_law_below" 561,.str "_law_below" 562,.str "/claim/cut.py" 563,.int 234 0,.int 1 0,.int 0 0,.int 0 0,.int 3 0,.ref 290,.bool true,.int 181 0,.ref 291,.none,.ref 292,.ref 293,.ref 294,.int 565 0,.int 234 0,.str "/claim/cut.py" 566].toArray,#[]⟩),
 (296,⟨.type "function", none,.func (Ct "_law_below" "_law_below" (Cu 23) [] (.none) (.none) (.str "law_wv0051_01" 541) (.ref 295) (.none)),#[]⟩),
 (300,⟨.type "code", none,.fields [.str "_law_best" 568,.str "_law_best" 569,.str "/claim/cut.py" 570,.int 236 0,.int 3 0,.int 0 0,.int 0 0,.int 3 0,.ref 297,.bool true,.int 181 0,.ref 298,.none,.none,.none,.ref 299,.int 571 0,.int 236 0,.str "/claim/cut.py" 572].toArray,#[]⟩),
 (301,⟨.type "function", none,.func (Ct "_law_best" "_law_best" (Cu 24) [] (.none) (.none) (.str "law_wv0051_01" 541) (.ref 300) (.none)),#[]⟩),
 (305,⟨.type "code", none,.fields [.str "_law_due" 574,.str "_law_due" 575,.str "/claim/cut.py" 576,.int 253 0,.int 3 0,.int 0 0,.int 0 0,.int 3 0,.ref 302,.bool true,.int 181 0,.ref 303,.none,.none,.none,.ref 304,.int 577 0,.int 253 0,.str "/claim/cut.py" 578].toArray,#[]⟩),
 (306,⟨.type "function", none,.func (Ct "_law_due" "_law_due" (Cu 25) [] (.none) (.none) (.str "law_wv0051_01" 541) (.ref 305) (.none)),#[]⟩),
 (310,⟨.type "code", none,.fields [.str "_law_apart" 580,.str "_law_apart" 581,.str "/claim/cut.py" 582,.int 255 0,.int 2 0,.int 0 0,.int 0 0,.int 3 0,.ref 307,.bool true,.int 181 0,.ref 308,.none,.none,.none,.ref 309,.int 583 0,.int 255 0,.str "/claim/cut.py" 584].toArray,#[]⟩),
 (311,⟨.type "function", none,.func (Ct "_law_apart" "_law_apart" (Cu 26) [] (.none) (.none) (.str "law_wv0051_01" 541) (.ref 310) (.none)),#[]⟩),
 (313,⟨.none,none,.fields [].toArray,#[]⟩),
 (315,⟨.type "code", none,.fields [.str "law" 586,.str "law" 587,.str "/claim/cut.py" 588,.int 260 0,.int 1 0,.int 0 0,.int 0 0,.int 3 0,.ref 312,.bool true,.int 181 0,.ref 313,.none,.none,.none,.ref 314,.int 589 0,.int 260 0,.str "/claim/cut.py" 590].toArray,#[]⟩),
 (316,⟨.type "function", none,.func (Ct "law" "law" (Cu 27) [] (.none) (.none) (.str "law_wv0051_01" 541) (.ref 315) (.none)),#[]⟩)]
noncomputable def Lh:Program:=view PySem.Challenge.pw_wv0051_01 [27]
noncomputable def loose:List Str:=(["_wall", "__name__", "insort_right", "bisect_right", "insort_left", "bisect_left", "NL", "EMPTYSTRING", "_ValueFormatter", "_Accumulator", "is_", "neg", "countOf", "delitem", "getitem", "indexOf", "length_hint", "iadd", "isub", "_law_draw", "_law_below", "_law_best", "_law_due", "_law_apart"]:List Str)
noncomputable def K0as:List Addr:=[2,3,4,22,23,29,30,31,32,38,39,40,41,47,48,49,50,56,57,70,71,77,78,91,92,98,99,112,113,126,127,129,130,138,143,150,151,157,158,159,165,166,173,174,176,180,181,183,187,188,189,195,196,202,203,210,211,213,214,224,225,231,232,238,239,245,246,252,253,259,260,261,267,268,274,275,281,282,288,289,295,296,300,301,305,306,310,311,313,315,316]
theorem left:LeftO PySem.Challenge.pw_wv0051_01 Lh loose (λ _=>true) (obsZ K0as) (valZ K0 317 592) 3600:=by
 intro w
 kernel_rfl
theorem K0as_eq:∀ P,K0as=(K0 P).map (·.1):=λ P=>by kernel_rfl
noncomputable abbrev Nr:Prop:=∀ {d:DefRec} {kwd:List (Str×Expr)},defOf Lh PySem.Challenge.rw_wv0051_01.row.toRowW.name=some (d,kwd) →
   WalkX Lh loose (λ _ _=>True) (obsZ K0as) (valZ K0 317 592) PySem.Challenge.rw_wv0051_01.row.toRowW d kwd (λ f vs=>PySem.call f vs)
theorem ws:PySem.Challenge.rw_wv0051_01.wellSaid=true:=by kernel_rfl
theorem head (walk:Nr):PySem.Challenge.rw_wv0051_01.Holds:=by
 refine holds_law ws λ said=>?_
 refine holds_openX (q:=Lh) (loose:=loose) (Xt:=λ _=>true) (XP:=λ _ _=>True) (Yf:=obsZ K0as) (Ya:=valZ K0 317 592) (N:=3600) left (λ _ _=>trivial) (λ _ _ _ h _=>h) (by rfl) (by rfl) (by rfl) (λ s e=>recFacts_nil rfl) (by rfl) (by first|assumption|decide +kernel) (by decide +kernel) ⟨rfl,rfl,rfl,rfl,rfl,by decide +kernel⟩ ?hw (walk (by rfl))
 w_witness2
noncomputable abbrev MD (w:World):Model:=model PySem.Challenge.pw_wv0051_01 w
noncomputable def K (P:Params):Frag:=(K0 P).filter λ p=>!([176,183,313]:List Nat).contains p.1
noncomputable def Kas:List Addr:=K0as.filter λ a=>!([176,183,313]:List Nat).contains a
theorem Ke {f:Addr→Bool} {l:Frag} {a:Addr} {o:Obj} (e:(l.filter λ p=>f p.1).lookup a=some o):l.lookup a=some o∧f a=true:=by
 induction l with
 | nil=>cases e
 | cons p r ih =>
  obtain⟨b,x⟩:=p
  rw[List.filter_cons] at e
  by_cases hb:f b=true
  ·simp only[hb,if_true] at e
   rw[List.lookup_cons] at e ⊢
   split at e
   ·rename_i q;cases e;rw[beq_iff_eq.mp q];simp[hb]
   ·exact ih e
  ·simp only[hb,Bool.false_eq_true,if_false] at e
   have:=ih e
   refine⟨?_,this.2⟩
   rw[List.lookup_cons]
   have hne:(a == b)=false:=by
    cases q:a == b with
    | false=>rfl
    | true=>rw[beq_iff_eq.mp q] at this;exact absurd this.2 hb
   rw[hne];exact this.1
theorem Sn {l:Frag} {a:Addr} {o:Obj} (e:l.lookup a=some o):a∈l.map (·.1):=by
 induction l with
 | nil=>cases e
 | cons p r ih =>
  obtain⟨b,x⟩:=p
  rw[List.lookup_cons] at e
  split at e
  ·rename_i q;rw[beq_iff_eq.mp q];exact List.mem_cons_self ..
  ·exact List.mem_cons_of_mem _ (ih e)
theorem K_of {P:Params} {h:Heap} (x:(K0 P).In h):(K P).In h:=λ a o e=>x a o (Ke (f:=λ a=>!([176,183,313]:List Nat).contains a) e).1
theorem K_low {P:Params} {a:Addr} {o:Obj} (e:(K P).lookup a=some o):@LT.lt Nat _ a 317∧a≠176∧a≠183∧a≠313:=by
 have h1:=Ke (f:=λ a=>!([176,183,313]:List Nat).contains a) e
 have h2:=Sn h1.1
 rw[← K0as_eq P] at h2
 have h3:∀ a∈K0as,a<317:=by decide +kernel
 refine⟨h3 a h2,?_,?_,?_⟩<;>(rintro rfl;exact absurd h1.2 (by decide))
noncomputable def Ma:Obj:=⟨.none,none,.freed,#[]⟩
noncomputable def hide (h:Heap):List Addr→Heap
 | []=>h
 | a::r=>hide (h.update a λ _=>Ma) r
theorem Fz:∀ (S:List Addr) (h:Heap),(hide h S).objs.size=h.objs.size
 | [],_=>rfl
 | a::r,h=>by rw[hide,Fz r];exact Heap.size_after_update ..
theorem Ip (h:Heap) (a:Addr):(h.update a λ _=>Ma).get? a=none:=by
 cases q:(h.update a λ _=>Ma).get? a with
 | none=>rfl
 | some o =>
  obtain⟨e1,e2⟩:=Heap.get?_some_iff.mp q
  cases h
  simp only[Heap.update,Array.getElem?_modify,if_true] at e1
  obtain⟨x,_,hx⟩:=Option.map_eq_some_iff.mp e1
  subst hx
  cases e2
theorem hide_none (S:List Addr) (h:Heap) (a:Addr) (e:h.get? a=none):(hide h S).get? a=none:=by
 induction S generalizing h with
 | nil=>exact e
 | cons b r ih =>
  refine ih _ ?_
  by_cases q:b=a
  ·subst q;exact Ip h b
  ·rw[Heap.get?_update_other h _ q];exact e
theorem Fk {S:List Addr} {h:Heap} {a:Addr} (m:a∈S):(hide h S).get? a=none:=by
 induction S generalizing h with
 | nil=>exact absurd m (List.not_mem_nil)
 | cons b r ih =>
  by_cases q:a=b
  ·rw[q];exact hide_none r _ _ (Ip h b)
  ·exact ih ((List.mem_cons.mp m).resolve_left q)
theorem Gm {S:List Addr} {h:Heap} {a:Addr} (m:a∉S):(hide h S).get? a=h.get? a:=by
 induction S generalizing h with
 | nil=>rfl
 | cons b r ih =>
  rw[hide,ih λ q=>m (List.mem_cons_of_mem _ q)]
  exact Heap.get?_update_other h _ λ q=>m (q ▸ List.mem_cons_self ..)
theorem Kq {S:List Addr} {h:Heap} {a:Addr} {o:Obj} (e:(hide h S).get? a=some o):h.get? a=some o∧a∉S:=by
 have:a∉S:=λ m=>by rw[Fk m] at e;cases e
 exact⟨Gm this ▸ e,this⟩
structure Fl (w:World) (h:Heap):Prop where
 k:(K w.params).In h
 b:∃ mb,h.Ns builtinsNs mb∧∀ x:Str,x ≠ "__name__" → mb x=bootBuiltins x
theorem Fl.keeps {w:World} {h h':Heap} (x:Fl w h) (hk:∀ b o,h.get? b=some o→h'.get? b=some o):Fl w h' :=
 ⟨x.k.keeps hk,x.b.elim λ mb qq=>qq.elim λ n e=>⟨mb,n.keeps hk,e⟩⟩
theorem Fl.hide {w:World} {h:Heap} (x:Fl w h) {S:List Addr} (hS:∀ a∈S,@LE.le Nat _ 317 a∨a=176∨a=183∨a=313):Fl w (hide h S):=by
 have hk:∀ a,(@LT.lt Nat _ a 317∧a≠176∧a≠183∧a≠313)→(Mine.hide h S).get? a=h.get? a:=λ a ha=>Gm λ m=>by
  rcases hS a m with q|q|q|q
  ·exact absurd ha.1 (Nat.not_lt.mpr q)
  ·exact ha.2.1 q
  ·exact ha.2.2.1 q
  ·exact ha.2.2.2 q
 refine⟨λ a o e=>(hk a (K_low e)).trans (x.k a o e),?_⟩
 obtain⟨mb,⟨o,es,ep,ho,r⟩,e⟩:=x.b
 exact⟨mb,⟨o,es,ep,(hk builtinsNs (by decide)).trans ho,r⟩,e⟩
theorem nolimit_K {w:World} {h:Heap} (x:(K w.params).In h):h.NoLimit :=
 ⟨λ _=>none,⟨_,_,_,x 2 ⟨.none,none,.dict [].toArray 0,#[]⟩ (by kernel_rfl),rfl,λ e he=>by simp at he,λ n=>rfl⟩,rfl⟩
theorem Fl.nolimit {w:World} {h:Heap} (x:Fl w h):h.NoLimit:=nolimit_K x.k
noncomputable abbrev I9 (h:Heap) (c P:Addr) (ps:Array Value):Prop:=h.IsCode c P ps∧h.TableAt c P ps
theorem I9.keeps {h h':Heap} {c P:Addr} {ps:Array Value} (x:I9 h c P ps) (hk:∀ b o,h.get? b=some o→h'.get? b=some o):I9 h' c P ps:=⟨x.1.keeps hk,x.2.keeps hk⟩
theorem I9.at2 {h h':Heap} {c P:Addr} {ps:Array Value} (x:I9 h c P ps) (hc:∀ o,h.get? c=some o→h'.get? c=some o) (hP:∀ o,h.get? P=some o→h'.get? P=some o):I9 h' c P ps :=
 ⟨x.1.at2 hc hP,x.2.1.elim λ o q=>q.elim λ vs q=>⟨o,vs,hc _ q.1,q.2⟩,hP _ x.2.2⟩
theorem I9.extBut {h h':Heap} {c P a:Addr} {ps:Array Value} (x:I9 h c P ps) (hs:Heap.ExtBut a h h') (hc:c≠a) (hP:P≠a):I9 h' c P ps:=x.at2 (λ o e=>hs c o hc e) (λ o e=>hs P o hP e)
structure Fh (h:Heap):Prop where
 a:∃ ps,I9 h 180 176 ps
 b:∃ ps,I9 h 187 183 ps
 c:@LE.le Nat _ 317 h.objs.size
structure Cx (s s':Shared):Prop where
 os:s'.os=s.os
 size:s.gens.size≤s'.gens.size
 gens:∀ i,i<s.gens.size→s'.gens[i]?=s.gens[i]?
 bare:(∀ g∈s.gens,g.bare=true)→∀ g∈s'.gens,g.bare=true
 toks:s.toks≤s'.toks
theorem Cx.trans {a b c:Shared} (x:Cx a b) (y:Cx b c):Cx a c :=
 ⟨y.os.trans x.os,Nat.le_trans x.size y.size,λ i h=>(y.gens i (Nat.lt_of_lt_of_le h x.size)).trans (x.gens i h),λ h=>y.bare (x.bare h),Nat.le_trans x.toks y.toks⟩
theorem Cx.heap {s:Shared} {h:Heap} {t:Tok} (ht:s.toks≤t):Cx s {s with heap:=h,toks:=t}:=⟨rfl,Nat.le_refl _,λ _ _=>rfl,id,ht⟩
structure A5 (w:World) (s:Shared):Prop where
 st:Fl w s.heap
 vol:Fh s.heap
 tk:0<s.toks
structure A4 (S:List Addr) (s s':Shared):Prop where
 keep:∀ b o,b∉S→b≠176→b≠183→s.heap.get? b=some o→s'.heap.get? b=some o
 size:s.heap.objs.size≤s'.heap.objs.size
 vol:Fh s'.heap
 calm:Cx s s'
theorem A4.trans {S T:List Addr} {a b c:Shared} (x:A4 S a b) (y:A4 T b c) (hS:∀ q∈T,q∈S∨a.heap.objs.size≤q):A4 S a c :=
 ⟨λ q o h1 h2 h3 e=>y.keep q o (λ m=>(hS q m).elim h1 λ le=>absurd (Heap.lt_size e) (Nat.not_lt.mpr le)) h2 h3 (x.keep q o h1 h2 h3 e),Nat.le_trans x.size y.size,y.vol,x.calm.trans y.calm⟩
theorem A4.weaken {S T:List Addr} {a b:Shared} (x:A4 S a b) (h:∀ q∈S,q∈T):A4 T a b:=⟨λ q o h1=>x.keep q o λ m=>h1 (h q m),x.size,x.vol,x.calm⟩
structure Cq (w:World) (base:Heap) (s₀:Shared) (L:Addr) (m:SV) (news:AO) (s:Shared):Prop where
 fr:Fr base L s.heap m
 nw:News base L s.heap news
 nd:(news.map (·.1)).Nodup
 vol:Fh s.heap
 calm:Cx s₀ s
 tk:0<s.toks
 st:Fl w base
 h1:base.get? 176=none
 h2:base.get? 183=none
 hL:@LE.le Nat _ 317 L
 hn:∀ p∈news,@LE.le Nat _ 317 p.1
section
variable {w:World} {base:Heap} {s₀:Shared} {L:Addr} {m:SV} {news:AO} {s s':Shared}
theorem Cq.stat (D:Cq w base s₀ L m news s):Fl w s.heap:=D.st.keeps D.fr.keep
theorem Cq.good (D:Cq w base s₀ L m news s):A5 w s:=⟨D.stat,D.vol,D.tk⟩
theorem Cq.k (D:Cq w base s₀ L m news s):(K w.params).In s.heap:=D.stat.k
theorem Cq.old (D:Cq w base s₀ L m news s) {a:Addr} {o:Obj} (e:base.get? a=some o):s.heap.get? a=some o:=D.fr.keep a o e
theorem Cq.at (D:Cq w base s₀ L m news s) (i:Nat) {a:Addr} {o:Obj} (e:news[i]?=some (a,o)):s.heap.get? a=some o:=D.nw.get (List.mem_of_getElem? e)
theorem Cq.toks (D:Cq w base s₀ L m news s) (k:Nat):Cq w base s₀ L m news {s with toks:=s.toks+k} :=
 ⟨D.fr,D.nw,D.nd,D.vol,D.calm.trans ⟨rfl,Nat.le_refl _,λ _ _=>rfl,id,Nat.le_add_right ..⟩,Nat.lt_of_lt_of_le D.tk (Nat.le_add_right ..),D.st,D.h1,D.h2,D.hL,D.hn⟩
theorem Av {a:Addr} (h:@LE.le Nat _ 317 a) (k:Nat) (hk:k<317):a≠k:=Nat.ne_of_gt (Nat.lt_of_lt_of_le hk h)
theorem Fh.keeps {h h':Heap} (v:Fh h) (hz:@LE.le Nat _ h.objs.size h'.objs.size) (hk:∀ b o,h.get? b=some o→h'.get? b=some o):Fh h' :=
 ⟨v.a.elim λ ps e=>⟨ps,e.keeps hk⟩,v.b.elim λ ps e=>⟨ps,e.keeps hk⟩,Nat.le_trans v.c hz⟩
theorem Fh.push {h:Heap} (v:Fh h) (o:Obj):Fh (h.push o):=v.keeps (by rw[Heap.size_push];exact Nat.le_succ _) λ _ _ e=>Heap.get?_push_of_some _ e
theorem Fh.sameBut {h h':Heap} {a:Addr} (v:Fh h) (x:Heap.SameBut a h h') (h1:@LE.le Nat _ 317 a):Fh h' :=
 ⟨v.a.elim λ ps e=>⟨ps,e.extBut x.extBut (Ne.symm (Av h1 180 (by decide))) (Ne.symm (Av h1 176 (by decide)))⟩,v.b.elim λ ps e=>⟨ps,e.extBut x.extBut (Ne.symm (Av h1 187 (by decide))) (Ne.symm (Av h1 183 (by decide)))⟩,by rw[x.1];exact v.c⟩
theorem Cq.hL6 (D:Cq w base s₀ L m news s):L≠176∧L≠183:=⟨Av D.hL 176 (by decide),Av D.hL 183 (by decide)⟩
theorem Cq.hn6 (D:Cq w base s₀ L m news s):∀ p∈news,p.1≠176∧p.1≠183:=λ p hp=>⟨Av (D.hn p hp) 176 (by decide),Av (D.hn p hp) 183 (by decide)⟩
theorem Cq.push (D:Cq w base s₀ L m news s) (o:Obj) (hf:o.isFreed=false):Cq w base s₀ L m ((s.heap.objs.size,o)::news) {s with heap:=s.heap.push o}:=by
 refine⟨D.fr.push o,D.nw.push D.fr o hf,?_,D.vol.push o,D.calm.trans (Cx.heap (Nat.le_refl _)),D.tk,D.st,D.h1,D.h2,D.hL,?_⟩
 ·refine List.nodup_cons.mpr ⟨λ q=>?_,D.nd⟩
  obtain⟨⟨b,ob⟩,hp,e⟩:=List.mem_map.mp q
  have:=Heap.lt_size (D.nw.get hp)
  exact absurd e (Nat.ne_of_lt this)
 ·intro p hp
  rcases List.mem_cons.mp hp with rfl|hp
  ·exact D.vol.c
  ·exact D.hn p hp
theorem Cq.loc (D:Cq w base s₀ L m news s) {m':SV} {h':Heap} {t:Tok} (ht:s.toks≤t) (hn:h'.Ns L m') (hs:Heap.SameBut L s.heap h') :
  Cq w base s₀ L m' news {s with heap:=h',toks:=t} :=
 ⟨D.fr.set hn hs,D.nw.set hs,D.nd,D.vol.sameBut hs D.hL,D.calm.trans (Cx.heap ht),Nat.lt_of_lt_of_le D.tk ht,D.st,D.h1,D.h2,D.hL,D.hn⟩
theorem Kf {l:AO} {i:Nat} {a:Addr} {o o':Obj} (nd:(l.map (·.1)).Nodup) (hi:l[i]?=some (a,o)):∀ p∈l.set i (a,o'),p=(a,o')∨(p∈l∧p.1≠a):=by
 induction l generalizing i with
 | nil=>simp at hi
 | cons q r ih =>
  rw[List.map_cons,List.nodup_cons] at nd
  intro p hp
  cases i with
  | zero =>
   rw[List.getElem?_cons_zero] at hi
   cases hi
   rw[List.set_cons_zero] at hp
   rcases List.mem_cons.mp hp with rfl|hp
   ·exact .inl rfl
   ·exact .inr ⟨List.mem_cons_of_mem _ hp,λ e=>nd.1 (List.mem_map.mpr ⟨p,hp,e⟩)⟩
  | succ i =>
   rw[List.getElem?_cons_succ] at hi
   rw[List.set_cons_succ] at hp
   rcases List.mem_cons.mp hp with rfl|hp
   ·refine .inr ⟨List.mem_cons_self ..,λ e=>nd.1 ?_⟩
    rw[e];exact List.mem_map.mpr ⟨_,List.mem_of_getElem? hi,rfl⟩
   ·rcases ih nd.2 hi p hp with h|⟨h,h'⟩
    ·exact .inl h
    ·exact .inr ⟨List.mem_cons_of_mem _ h,h'⟩
theorem Qd {l:AO} {i:Nat} {a:Addr} {o o':Obj} (hi:l[i]?=some (a,o)):(l.set i (a,o')).map (·.1)=l.map (·.1):=by
 induction l generalizing i with
 | nil=>simp at hi
 | cons q r ih =>
  cases i with
  | zero=>rw[List.getElem?_cons_zero] at hi;cases hi;rfl
  | succ i=>rw[List.getElem?_cons_succ] at hi;rw[List.set_cons_succ,List.map_cons,List.map_cons,ih hi]
theorem Cq.setAt (D:Cq w base s₀ L m news s) (i:Nat) {a:Addr} {o o':Obj} {h':Heap} {t:Tok} (ht:s.toks≤t) (hi:news[i]?=some (a,o)) (hs:Heap.SameBut a s.heap h') (hg:h'.get? a=some o') :
  Cq w base s₀ L m (news.set i (a,o')) {s with heap:=h',toks:=t}:=by
 have hm:=List.mem_of_getElem? hi
 have z:=D.nw _ hm
 have hv:=D.hn _ hm
 dsimp only at z hv
 refine⟨⟨D.fr.ns.sameBut hs (Ne.symm z.2.1),λ b ob e=>(hs.2 b λ q=>by subst q;rw[z.2.2] at e;cases e).trans (D.fr.keep b ob e),D.fr.above⟩,?_,?_,D.vol.sameBut hs hv,D.calm.trans (Cx.heap ht),Nat.lt_of_lt_of_le D.tk ht,D.st,D.h1,D.h2,D.hL,?_⟩
 ·intro p hp
  rcases Kf D.nd hi p hp with rfl|⟨hp,hne⟩
  ·exact⟨hg,z.2⟩
  ·exact⟨(hs.2 _ hne).trans (D.nw p hp).1,(D.nw p hp).2⟩
 ·rw[Qd hi];exact D.nd
 ·intro p hp
  rcases Kf D.nd hi p hp with rfl|⟨hp,_⟩
  ·exact hv
  ·exact D.hn p hp
theorem Cq.upd (D:Cq w base s₀ L m news s) (i:Nat) {a:Addr} {o:Obj} {f:Obj→Obj} (hi:news[i]?=some (a,o)) (hf:(f o).isFreed=false) :
  Cq w base s₀ L m (news.set i (a,f o)) {s with heap:=s.heap.update a f} :=
 D.setAt i (t:=s.toks) (Nat.le_refl _) hi (Heap.SameBut.update ..) (Heap.get?_update_self f (D.at i hi) hf)
theorem Cq.step (D:Cq w base s₀ L m news s) (st:A4 [] s s'):Cq w base s₀ L m news s':=by
 have hk:∀ b o,b≠176→b≠183→s.heap.get? b=some o→s'.heap.get? b=some o:=λ b o h1 h2 e=>st.keep b o (λ q=>nomatch q) h1 h2 e
 obtain⟨oL,a1,a2,hL,a3⟩:=D.fr.ns
 refine⟨⟨⟨oL,a1,a2,hk _ _ D.hL6.1 D.hL6.2 hL,a3⟩,λ b o e=>hk b o (λ q=>by rw[q,D.h1] at e;cases e) (λ q=>by rw[q,D.h2] at e;cases e) (D.fr.keep b o e),D.fr.above⟩,
  λ p hp=>⟨hk _ _ (D.hn6 p hp).1 (D.hn6 p hp).2 (D.nw p hp).1,(D.nw p hp).2⟩,D.nd,st.vol,D.calm.trans st.calm,Nat.lt_of_lt_of_le D.tk st.calm.toks,D.st,D.h1,D.h2,D.hL,D.hn⟩
theorem Cq.ret {S:List Addr} (D:Cq w (hide s₀.heap (S++[176,183])) s₀ L m news s):A4 S s₀ s:=by
 refine⟨λ b o h1 h2 h3 e=>D.fr.keep b o ((Gm λ q=>?_).trans e),?_,D.vol,D.calm⟩
 ·rcases List.mem_append.mp q with q|q
  ·exact h1 q
  ·simp at q;rcases q with q|q
   ·exact h2 q
   ·exact h3 q
 ·have:=D.fr.above;rw[Fz] at this;exact Nat.le_of_lt (Nat.lt_of_le_of_lt this D.fr.ns.lt)
theorem Cq.drop (D:Cq w base s₀ L m news s) {news':AO} (h:news'.Sublist news):Cq w base s₀ L m news' s :=
 ⟨D.fr,λ p hp=>D.nw p (h.subset hp),(h.map _).nodup D.nd,D.vol,D.calm,D.tk,D.st,D.h1,D.h2,D.hL,λ p hp=>D.hn p (h.subset hp)⟩
end
structure A3 (A:Around) (n:Nat):Prop where
 hd:A.handled=none
 dp:A.depth+n<1000
 un:A.units+16*n<9900
 fr:∃ l,A.frames=some l
theorem A3.mono {A:Around} {n k:Nat} (R:A3 A n) (h:k≤n):A3 A k:=⟨R.hd,by have:=R.dp;grind,by have:=R.un;lia,R.fr⟩
theorem A3.deeper {A:Around} {n:Nat} (R:A3 A (n+1)) (env:Env):A3 (A.deeper env) n :=
 ⟨R.hd,by have:=R.dp;show A.depth+1+n<1000;simp_all +arith,by have:=R.un;show A.units+3+16*n<9900;lia,R.fr.elim λ l e=>⟨env::l,by show A.frames.map _=_;rw[e];rfl⟩⟩
theorem A3.in1 {A:Around} {n:Nat} (R:A3 A (n+1)):A3 A.in1 n :=
 ⟨R.hd,by have:=R.dp;show A.depth+n<1000;exact Nat.le_of_lt (by assumption),by have:=R.un;show A.units+1+16*n<9900;lia,R.fr⟩
theorem A3.units {A:Around} {n:Nat} (R:A3 A n):A.units<cLine:=by have:=R.un;show A.units<9900;lia
theorem A3.depth {A:Around} {n:Nat} (R:A3 A n):A.depth<recursionLimit:=by have:=R.dp;show A.depth<1000;grind
theorem A3.pred {A:Around} {n:Nat} (R:A3 A (n+1)):A3 A n:=R.mono (Nat.le_succ n)
@[reducible] def fenv (fd:FuncData) (f L:Addr):Env :=
 {scope:=fd.scope,locals:=L,globals:=fd.globals,cells:=fd.closure,qual:=fd.qualname ++ ".<locals>.", func:=some f,code:=fd.code,frame:=some L,builtins:=fd.builtins}
noncomputable def Ej:Flow→Value
 | .ret v=>v
 | _=>.none
structure Ef (w:World) (f:Addr) (fd:FuncData) (body:List Stmt):Prop where
 at_:(K w.params).lookup f=some ⟨.type "function", none,.func fd,#[]⟩
 body:fd.body=.stmts body
 code:codeIn (K w.params) fd.code fd.qualname=true
 cell:∀ x∈fd.scope.names,x.2≠.cell
 kind:fd.scope.kind=.function
 co:fd.scope.isCoroutine=false
 gen:fd.scope.isGenerator=false
theorem Ez {w:World} {A:Around} {s:Shared} {f:Addr} {pos:List Value} {kw:List (Str×Value)} {Q:VP} {E:VP} {n:Nat} {fd:FuncData} {body:List Stmt} {binds:List (Str×Value)}
  (d:Ef w f fd body) (G:A5 w s) (R:A3 A (n+1)) (hb:peek (K w.params) ⟨PySem.Challenge.pw_wv0051_01,w.params⟩ (bindArgs fd ⟨pos,kw⟩)=some binds)
  (hloc:(binds.all λ x=>decide (fd.scope.names.lookup x.1=some .local))=true)
  (news:AO) (hnd:(news.map (·.1)).Nodup) (hnw:∀ p∈news,s.heap.get? p.1=some p.2∧@LE.le Nat _ 317 p.1)
  (h:∀ L s₁,Cq w (hide s.heap (news.map (·.1)++[176,183])) s L (λ x=>binds.reverse.lookup x) news s₁ →
   wpAny (MD w) (A.deeper (fenv fd f L)) (execs body (fenv fd f L)) (λ fl s'=>Q (Ej fl) s') (λ _ _=>False) s₁) :
  wpAny (MD w) A (call (.ref f) pos kw) Q E s:=by
 refine wpAny_call (codeAny_call_function R.depth (G.st.k _ _ d.at_) rfl d.co d.gen d.body (codeRec_of G.st.k d.code) ?_)
 refine Looks.of_peek (M:=MD w) G.st.k hb A.in1 _ _ s (λ _ _ e=>e) ?_
 refine wpAny_newFunctionEnv d.cell (locs hloc) (λ h₁ hns hsb=>⟨G.st.nolimit.fresh _ hsb,?_⟩) d.kind
 refine codeAny_func (wpAny_mono (h s.heap.objs.size _ ?_) (λ fl s' z=>?_) λ _ _ z=>z.elim)
 ·have up:∀ b o,s.heap.get? b=some o→h₁.get? b=some o:=λ b o e=>hsb.extBut b o (Nat.ne_of_lt (Heap.lt_size e)) (Heap.get?_push_of_some _ e)
  refine⟨⟨hns,λ b o e=>up b o (Kq e).1,by rw[Fz];exact Nat.le_refl _⟩,λ p hp=>⟨up _ _ (hnw p hp).1,Nat.ne_of_lt (Heap.lt_size (hnw p hp).1),Fk (List.mem_append_left _ (List.mem_map_of_mem hp))⟩,
   hnd,G.vol.keeps (by rw[hsb.1,Heap.size_push];exact Nat.le_succ _) up,Cx.heap (Nat.le_add_right ..),Nat.lt_of_lt_of_le G.tk (Nat.le_add_right ..),
   G.st.hide λ a ha=>?_,Fk (List.mem_append_right _ (.head _)),Fk (List.mem_append_right _ (.tail _ (.head _))),G.vol.c,λ p hp=>(hnw p hp).2⟩
  rcases List.mem_append.mp ha with q|q
  ·obtain⟨p,hp,rfl⟩:=List.mem_map.mp q;exact .inl (hnw p hp).2
  ·simp at q;rcases q with q|q
   ·exact .inr (.inl q)
   ·exact .inr (.inr (.inl q))
 ·cases fl<;>exact z
section
variable {w:World} {base:Heap} {s₀:Shared} {L:Addr} {m:SV} {news:AO} {s:Shared} {A:Around} {E:VP} {env:Env}
theorem Cc {x:Str} {pos:Pos} {v:Value} {Q:VP} (D:Cq w base s₀ env.locals m news s) (hv:m x=some v) (h:Q v s)
  (hk:env.scope.kind=.function:=by kernel_rfl) (hl:env.kindOf x=some .local:=by kernel_rfl) (hd:(x == ("__debug__" : Str))=false:=by decide +kernel) :
  wpAny (MD w) A (eval (.Name x pos) env) Q E s:=wpAny_Name (wpAny_loadName_local hk hl D.fr.ns hv h) hd
theorem d_localN {x:Str} {v:Value} {Q:VP} (D:Cq w base s₀ env.locals m news s) (hv:m x=some v) (h:Q v s)
  (hk:env.scope.kind=.function:=by kernel_rfl) (hl:env.kindOf x=some .local:=by kernel_rfl) :
  wpAny (MD w) A (loadName env x) Q E s:=wpAny_loadName_local hk hl D.fr.ns hv h
theorem Pv {x:Str} {pos:Pos} (v:Value) {Q:VP} (D:Cq w base s₀ L m news s) (e:nsIn (K w.params) 3 x=some (some v)) (h:Q v s)
  (hg:env.globals=3:=by rfl)
  (hk:env.scope.kind=.function:=by kernel_rfl) (hl:env.kindOf x=some .globalImplicit:=by kernel_rfl) (hd:(x == ("__debug__" : Str))=false:=by decide +kernel) :
  wpAny (MD w) A (eval (.Name x pos) env) Q E s:=by
 refine Calls.Name_function_global hk hl ?_ hd
 unfold loadGlobal
 rw[hg]
 refine wpAny_bind ((looks_nsIn D.k e).here ?_)
 exact wpAny_pure h
theorem F0 {x:Str} {pos:Pos} (v:Value) {Q:VP} (D:Cq w base s₀ L m news s) (e:nsIn (K w.params) 3 x=some none) (hv:bootBuiltins x=some v) (h:Q v s)
  (hn:x ≠ "__name__" := by decide +kernel) (hg:env.globals=3:=by rfl) (hb:env.builtins=0:=by rfl)
  (hk:env.scope.kind=.function:=by kernel_rfl) (hl:env.kindOf x=some .globalImplicit:=by kernel_rfl) (hd:(x == ("__debug__" : Str))=false:=by decide +kernel) :
  wpAny (MD w) A (eval (.Name x pos) env) Q E s:=by
 refine Calls.Name_function_global hk hl ?_ hd
 obtain⟨mb,nb,eb⟩:=D.stat.b
 unfold loadGlobal
 rw[hg,hb]
 refine wpAny_bind ((looks_nsIn D.k e).here ?_)
 refine wpAny_bind (wpAny_nsGet nb ?_)
 rw[eb x hn,hv]
 exact wpAny_pure h
theorem d_int {i:Int} {k:Nat} {pos:Pos} {Q:VP} (D:Cq w base s₀ L m news s) (h:∀ s' t,Cq w base s₀ L m news s'→t≠0→Q (.int i t) s'):wpAny (MD w) A (eval (.Constant (.int i) k pos) env) Q E s :=
 wpAny_Constant_int (h _ _ (D.toks 1) (Nat.ne_of_gt D.tk))
theorem d_str {x:Str} {k:Nat} {pos:Pos} {Q:VP} (D:Cq w base s₀ L m news s) (h:∀ s' t,Cq w base s₀ L m news s'→t≠0→Q (.str x t) s'):wpAny (MD w) A (eval (.Constant (.str x) k pos) env) Q E s :=
 wpAny_Constant_str (h _ _ (D.toks 1) (Nat.ne_of_gt D.tk))
theorem d_store {x:Str} {v:Value} {Q:Unit→Shared→Prop} (D:Cq w base s₀ env.locals m news s) (h:∀ s',Cq w base s₀ env.locals (λ y=>if y=x then some v else m y) news s'→Q () s')
  (hk:env.scope.kind=.function:=by kernel_rfl) (hl:env.kindOf x=some .local:=by kernel_rfl):wpAny (MD w) A (storeName env x v) Q E s :=
 wpAny_storeName_local hl D.fr.ns (λ h' hn hs=>h _ (D.loc (Nat.le_succ _) hn hs)) (by rw[hk];rfl)
theorem J5 {elts:List PySem.Expr} {k:Nat} {pos:Pos} {Q:VP}
  (h:wpAny (MD w) A (spliced (backTo pos (starEach elts env))) (λ vs s₁=>wpAny (MD w) A (newTuple vs) Q E s₁) E s):wpAny (MD w) A (eval (.Tuple elts k pos) env) Q E s:=Tuple_ h
theorem d_newTuple {vs:List Value} {Q:VP} (D:Cq w base s₀ L m news s) (h:∀ s' a,Cq w base s₀ L m ((a,{cls:=.type "tuple", data:=.seq vs.toArray})::news) s'→@LE.le Nat _ 317 a→Q (.ref a) s')
  (hsz:vs.length≤sizeLine:=by size_fits):wpAny (MD w) A (newTuple vs) Q E s :=
 wpAny_newObj_type (h _ _ (D.push _ rfl) D.vol.c) (by show vs.toArray.size≤sizeLine;rw[List.size_toArray];exact hsz)
end
section
variable {w:World} {base:Heap} {s₀:Shared} {L:Addr} {m:SV} {news:AO} {s:Shared} {A:Around} {E:VP} {env:Env} {a b:Int} {t u:Tok} {Q:VP}
theorem d_add (D:Cq w base s₀ L m news s) (h:∀ s' t,Cq w base s₀ L m news s'→t≠0→Q (.int (a+b) t) s'):wpAny (MD w) A (binaryOp .Add (.int a t) (.int b u)) Q E s:=P.add_int (h _ _ (D.toks 1) (Nat.ne_of_gt D.tk))
theorem d_sub (D:Cq w base s₀ L m news s) (h:∀ s' t,Cq w base s₀ L m news s'→t≠0→Q (.int (a-b) t) s'):wpAny (MD w) A (binaryOp .Sub (.int a t) (.int b u)) Q E s:=P.sub_int (h _ _ (D.toks 1) (Nat.ne_of_gt D.tk))
theorem d_mul (D:Cq w base s₀ L m news s) (hm:IntMulOk a b) (h:∀ s' t,Cq w base s₀ L m news s'→t≠0→Q (.int (a*b) t) s'):wpAny (MD w) A (binaryOp .Mult (.int a t) (.int b u)) Q E s:=P.mul_int (h _ _ (D.toks 1) (Nat.ne_of_gt D.tk)) hm
theorem d_iadd (D:Cq w base s₀ L m news s) (h:∀ s' t,Cq w base s₀ L m news s'→t≠0→Q (.int (a+b) t) s'):wpAny (MD w) A (inplaceOp .Add (.int a t) (.int b u)) Q E s:=P.iadd_int (h _ _ (D.toks 1) (Nat.ne_of_gt D.tk))
theorem d_isub (D:Cq w base s₀ L m news s) (h:∀ s' t,Cq w base s₀ L m news s'→t≠0→Q (.int (a-b) t) s'):wpAny (MD w) A (inplaceOp .Sub (.int a t) (.int b u)) Q E s:=P.isub_int (h _ _ (D.toks 1) (Nat.ne_of_gt D.tk))
theorem d_neg (D:Cq w base s₀ L m news s) (h:∀ s' t,Cq w base s₀ L m news s'→t≠0→Q (.int (-a) t) s'):wpAny (MD w) A (unaryOp .USub (.int a t)) Q E s:=P.neg_int (h _ _ (D.toks 1) (Nat.ne_of_gt D.tk))
theorem d_mod (D:Cq w base s₀ L m news s) (hb:b≠0) (h:∀ s' t,Cq w base s₀ L m news s'→t≠0→Q (.int (a.fmod b) t) s'):wpAny (MD w) A (binaryOp .Mod (.int a t) (.int b u)) Q E s:=mod_int' hb (h _ _ (D.toks 1) (Nat.ne_of_gt D.tk))
theorem d_div (D:Cq w base s₀ L m news s) (hb:b≠0) (hp:Builtin.divisionGoesByPylong a b=false) (h:∀ s' t,Cq w base s₀ L m news s'→t≠0→Q (.int (a.fdiv b) t) s'):wpAny (MD w) A (binaryOp .FloorDiv (.int a t) (.int b u)) Q E s:=floordiv_int hb (h _ _ (D.toks 1) (Nat.ne_of_gt D.tk)) (.inl hp)
end
noncomputable def no (_:Value) (_:Shared):Prop:=False
noncomputable def N8:FuncData:=Ct "insort_right" "insort_right" (Cu 2) [] (.ref 22) (.ref 23) (.str "cpy313.bisect" 194) (.ref 29) (.none)
noncomputable def Mt:List Stmt:=Cv (Cu 2)
theorem M9 (w:World):Ef w 30 N8 Mt :=
 ⟨by kernel_rfl,by kernel_rfl,by kernel_rfl,by decide +kernel,by kernel_rfl,by kernel_rfl,by kernel_rfl⟩
noncomputable def Fu:FuncData:=Ct "bisect_right" "bisect_right" (Cu 3) [] (.ref 31) (.ref 32) (.str "cpy313.bisect" 194) (.ref 38) (.none)
noncomputable def It:List Stmt:=Cv (Cu 3)
theorem Ii (w:World):Ef w 39 Fu It :=
 ⟨by kernel_rfl,by kernel_rfl,by kernel_rfl,by decide +kernel,by kernel_rfl,by kernel_rfl,by kernel_rfl⟩
noncomputable def O7:FuncData:=Ct "insort_left" "insort_left" (Cu 4) [] (.ref 40) (.ref 41) (.str "cpy313.bisect" 194) (.ref 47) (.none)
noncomputable def Nv:List Stmt:=Cv (Cu 4)
theorem N6 (w:World):Ef w 48 O7 Nv :=
 ⟨by kernel_rfl,by kernel_rfl,by kernel_rfl,by decide +kernel,by kernel_rfl,by kernel_rfl,by kernel_rfl⟩
noncomputable def Ga:FuncData:=Ct "bisect_left" "bisect_left" (Cu 5) [] (.ref 49) (.ref 50) (.str "cpy313.bisect" 194) (.ref 56) (.none)
noncomputable def J2:List Stmt:=Cv (Cu 5)
theorem N1 (w:World):Ef w 57 Ga J2 :=
 ⟨by kernel_rfl,by kernel_rfl,by kernel_rfl,by decide +kernel,by kernel_rfl,by kernel_rfl,by kernel_rfl⟩
noncomputable def Sb:FuncData:=Ct "__init__" "_ValueFormatter.__init__" (E0 9 0) [] (.none) (.none) (.str "cpy313.email.header" 250) (.ref 70) (.none)
noncomputable def Rv:List Stmt:=Cv (E0 9 0)
theorem R8 (w:World):Ef w 71 Sb Rv :=
 ⟨by kernel_rfl,by kernel_rfl,by kernel_rfl,by decide +kernel,by kernel_rfl,by kernel_rfl,by kernel_rfl⟩
noncomputable def fd_VF_str:FuncData:=Ct "_str" "_ValueFormatter._str" (E0 9 1) [] (.none) (.none) (.str "cpy313.email.header" 250) (.ref 77) (.none)
noncomputable def bd_VF_str:List Stmt:=Cv (E0 9 1)
theorem S6 (w:World):Ef w 78 fd_VF_str bd_VF_str :=
 ⟨by kernel_rfl,by kernel_rfl,by kernel_rfl,by decide +kernel,by kernel_rfl,by kernel_rfl,by kernel_rfl⟩
noncomputable def Bi:FuncData:=Ct "newline" "_ValueFormatter.newline" (E0 9 3) [] (.none) (.none) (.str "cpy313.email.header" 250) (.ref 91) (.none)
noncomputable def Pa:List Stmt:=Cv (E0 9 3)
theorem O1 (w:World):Ef w 92 Bi Pa :=
 ⟨by kernel_rfl,by kernel_rfl,by kernel_rfl,by decide +kernel,by kernel_rfl,by kernel_rfl,by kernel_rfl⟩
noncomputable def Jo:FuncData:=Ct "add_transition" "_ValueFormatter.add_transition" (E0 9 4) [] (.none) (.none) (.str "cpy313.email.header" 250) (.ref 98) (.none)
noncomputable def Jk:List Stmt:=Cv (E0 9 4)
theorem J6 (w:World):Ef w 99 Jo Jk :=
 ⟨by kernel_rfl,by kernel_rfl,by kernel_rfl,by decide +kernel,by kernel_rfl,by kernel_rfl,by kernel_rfl⟩
noncomputable def Ba:FuncData:=Ct "_maxlengths" "_ValueFormatter._maxlengths" (E0 9 6) [] (.none) (.none) (.str "cpy313.email.header" 250) (.ref 112) (.none)
noncomputable def Fy:FuncData:=Ct "_append_chunk" "_ValueFormatter._append_chunk" (E0 9 8) [] (.none) (.none) (.str "cpy313.email.header" 250) (.ref 126) (.none)
noncomputable def Pl:List Stmt:=Cv (E0 9 8)
theorem Pb (w:World):Ef w 127 Fy Pl :=
 ⟨by kernel_rfl,by kernel_rfl,by kernel_rfl,by decide +kernel,by kernel_rfl,by kernel_rfl,by kernel_rfl⟩
noncomputable def Om:FuncData:=Ct "__init__" "_Accumulator.__init__" (E0 10 0) [("__class__", 138)] (.ref 143) (.none) (.str "cpy313.email.header" 250) (.ref 150) (.ref 144)
noncomputable def Kk:List Stmt:=Cv (E0 10 0)
theorem Mz (w:World):Ef w 151 Om Kk :=
 ⟨by kernel_rfl,by kernel_rfl,by kernel_rfl,by decide +kernel,by kernel_rfl,by kernel_rfl,by kernel_rfl⟩
noncomputable def fd_A_push:FuncData:=Ct "push" "_Accumulator.push" (E0 10 1) [] (.none) (.none) (.str "cpy313.email.header" 250) (.ref 157) (.none)
noncomputable def bd_A_push:List Stmt:=Cv (E0 10 1)
theorem Hw (w:World):Ef w 158 fd_A_push bd_A_push :=
 ⟨by kernel_rfl,by kernel_rfl,by kernel_rfl,by decide +kernel,by kernel_rfl,by kernel_rfl,by kernel_rfl⟩
noncomputable def Kd:FuncData:=Ct "pop_from" "_Accumulator.pop_from" (E0 10 2) [] (.ref 159) (.none) (.str "cpy313.email.header" 250) (.ref 165) (.none)
noncomputable def P9:List Stmt:=Cv (E0 10 2)
theorem O0 (w:World):Ef w 166 Kd P9 :=
 ⟨by kernel_rfl,by kernel_rfl,by kernel_rfl,by decide +kernel,by kernel_rfl,by kernel_rfl,by kernel_rfl⟩
noncomputable def fd_A_pop:FuncData:=Ct "pop" "_Accumulator.pop" (E0 10 3) [("__class__", 138)] (.none) (.none) (.str "cpy313.email.header" 250) (.ref 173) (.ref 167)
noncomputable def Id:List Stmt:=Cv (E0 10 3)
theorem Kl (w:World):Ef w 174 fd_A_pop Id :=
 ⟨by kernel_rfl,by kernel_rfl,by kernel_rfl,by decide +kernel,by kernel_rfl,by kernel_rfl,by kernel_rfl⟩
noncomputable def fd_A_len:FuncData:=Ct "__len__" "_Accumulator.__len__" (E0 10 4) [] (.none) (.none) (.str "cpy313.email.header" 250) (.ref 180) (.none)
noncomputable def bd_A_len:List Stmt:=Cv (E0 10 4)
theorem def_A_len (w:World):Ef w 181 fd_A_len bd_A_len :=
 ⟨by kernel_rfl,by kernel_rfl,by kernel_rfl,by decide +kernel,by kernel_rfl,by kernel_rfl,by kernel_rfl⟩
noncomputable def fd_A_str:FuncData:=Ct "__str__" "_Accumulator.__str__" (E0 10 5) [] (.none) (.none) (.str "cpy313.email.header" 250) (.ref 187) (.none)
noncomputable def bd_A_str:List Stmt:=Cv (E0 10 5)
theorem def_A_str (w:World):Ef w 188 fd_A_str bd_A_str :=
 ⟨by kernel_rfl,by kernel_rfl,by kernel_rfl,by decide +kernel,by kernel_rfl,by kernel_rfl,by kernel_rfl⟩
noncomputable def Sa:FuncData:=Ct "reset" "_Accumulator.reset" (E0 10 6) [] (.ref 189) (.none) (.str "cpy313.email.header" 250) (.ref 195) (.none)
noncomputable def Ru:List Stmt:=Cv (E0 10 6)
theorem Lo (w:World):Ef w 196 Sa Ru :=
 ⟨by kernel_rfl,by kernel_rfl,by kernel_rfl,by decide +kernel,by kernel_rfl,by kernel_rfl,by kernel_rfl⟩
noncomputable def O3:FuncData:=Ct "is_onlyws" "_Accumulator.is_onlyws" (E0 10 7) [] (.none) (.none) (.str "cpy313.email.header" 250) (.ref 202) (.none)
noncomputable def Nu:List Stmt:=Cv (E0 10 7)
theorem N0 (w:World):Ef w 203 O3 Nu :=
 ⟨by kernel_rfl,by kernel_rfl,by kernel_rfl,by decide +kernel,by kernel_rfl,by kernel_rfl,by kernel_rfl⟩
noncomputable def N7:FuncData:=Ct "part_count" "_Accumulator.part_count" (E0 10 8) [("__class__", 138)] (.none) (.none) (.str "cpy313.email.header" 250) (.ref 210) (.ref 204)
noncomputable def Gt:List Stmt:=Cv (E0 10 8)
theorem Ih (w:World):Ef w 211 N7 Gt :=
 ⟨by kernel_rfl,by kernel_rfl,by kernel_rfl,by decide +kernel,by kernel_rfl,by kernel_rfl,by kernel_rfl⟩
noncomputable def fd_is:FuncData:=Ct "is_" "is_" (Cu 12) [] (.none) (.none) (.str "cpy313.operator" 460) (.ref 224) (.none)
noncomputable def bd_is:List Stmt:=Cv (Cu 12)
theorem def_is (w:World):Ef w 225 fd_is bd_is :=
 ⟨by kernel_rfl,by kernel_rfl,by kernel_rfl,by decide +kernel,by kernel_rfl,by kernel_rfl,by kernel_rfl⟩
noncomputable def fd_neg:FuncData:=Ct "neg" "neg" (Cu 13) [] (.none) (.none) (.str "cpy313.operator" 460) (.ref 231) (.none)
noncomputable def bd_neg:List Stmt:=Cv (Cu 13)
theorem def_neg (w:World):Ef w 232 fd_neg bd_neg :=
 ⟨by kernel_rfl,by kernel_rfl,by kernel_rfl,by decide +kernel,by kernel_rfl,by kernel_rfl,by kernel_rfl⟩
noncomputable def Sc:FuncData:=Ct "countOf" "countOf" (Cu 14) [] (.none) (.none) (.str "cpy313.operator" 460) (.ref 238) (.none)
noncomputable def Rw:List Stmt:=Cv (Cu 14)
theorem R9 (w:World):Ef w 239 Sc Rw :=
 ⟨by kernel_rfl,by kernel_rfl,by kernel_rfl,by decide +kernel,by kernel_rfl,by kernel_rfl,by kernel_rfl⟩
noncomputable def Sd:FuncData:=Ct "delitem" "delitem" (Cu 15) [] (.none) (.none) (.str "cpy313.operator" 460) (.ref 245) (.none)
noncomputable def Rx:List Stmt:=Cv (Cu 15)
theorem Ra (w:World):Ef w 246 Sd Rx :=
 ⟨by kernel_rfl,by kernel_rfl,by kernel_rfl,by decide +kernel,by kernel_rfl,by kernel_rfl,by kernel_rfl⟩
noncomputable def Se:FuncData:=Ct "getitem" "getitem" (Cu 16) [] (.none) (.none) (.str "cpy313.operator" 460) (.ref 252) (.none)
noncomputable def Ry:List Stmt:=Cv (Cu 16)
theorem Rb (w:World):Ef w 253 Se Ry :=
 ⟨by kernel_rfl,by kernel_rfl,by kernel_rfl,by decide +kernel,by kernel_rfl,by kernel_rfl,by kernel_rfl⟩
noncomputable def Sf:FuncData:=Ct "indexOf" "indexOf" (Cu 17) [] (.none) (.none) (.str "cpy313.operator" 460) (.ref 259) (.none)
noncomputable def Rz:List Stmt:=Cv (Cu 17)
theorem Lp (w:World):Ef w 260 Sf Rz :=
 ⟨by kernel_rfl,by kernel_rfl,by kernel_rfl,by decide +kernel,by kernel_rfl,by kernel_rfl,by kernel_rfl⟩
noncomputable def O8:FuncData:=Ct "length_hint" "length_hint" (Cu 18) [] (.ref 261) (.none) (.str "cpy313.operator" 460) (.ref 267) (.none)
noncomputable def Nw:List Stmt:=Cv (Cu 18)
theorem Iu (w:World):Ef w 268 O8 Nw :=
 ⟨by kernel_rfl,by kernel_rfl,by kernel_rfl,by decide +kernel,by kernel_rfl,by kernel_rfl,by kernel_rfl⟩
noncomputable def fd_iadd:FuncData:=Ct "iadd" "iadd" (Cu 19) [] (.none) (.none) (.str "cpy313.operator" 460) (.ref 274) (.none)
noncomputable def bd_iadd:List Stmt:=Cv (Cu 19)
theorem def_iadd (w:World):Ef w 275 fd_iadd bd_iadd :=
 ⟨by kernel_rfl,by kernel_rfl,by kernel_rfl,by decide +kernel,by kernel_rfl,by kernel_rfl,by kernel_rfl⟩
noncomputable def fd_isub:FuncData:=Ct "isub" "isub" (Cu 20) [] (.none) (.none) (.str "cpy313.operator" 460) (.ref 281) (.none)
noncomputable def bd_isub:List Stmt:=Cv (Cu 20)
theorem def_isub (w:World):Ef w 282 fd_isub bd_isub :=
 ⟨by kernel_rfl,by kernel_rfl,by kernel_rfl,by decide +kernel,by kernel_rfl,by kernel_rfl,by kernel_rfl⟩
noncomputable def Az:FuncData:=Ct "_law_draw" "_law_draw" (Cu 22) [] (.none) (.none) (.str "law_wv0051_01" 541) (.ref 288) (.none)
noncomputable def Bq:List Stmt:=Cv (Cu 22)
theorem Px (w:World):Ef w 289 Az Bq :=
 ⟨by kernel_rfl,by kernel_rfl,by kernel_rfl,by decide +kernel,by kernel_rfl,by kernel_rfl,by kernel_rfl⟩
noncomputable def Q1:FuncData:=Ct "_law_below" "_law_below" (Cu 23) [] (.none) (.none) (.str "law_wv0051_01" 541) (.ref 295) (.none)
noncomputable def Po:List Stmt:=Cv (Cu 23)
theorem Pd (w:World):Ef w 296 Q1 Po :=
 ⟨by kernel_rfl,by kernel_rfl,by kernel_rfl,by decide +kernel,by kernel_rfl,by kernel_rfl,by kernel_rfl⟩
noncomputable def Ao:FuncData:=Ct "_law_best" "_law_best" (Cu 24) [] (.none) (.none) (.str "law_wv0051_01" 541) (.ref 300) (.none)
noncomputable def Bs:List Stmt:=Cv (Cu 24)
theorem Pw (w:World):Ef w 301 Ao Bs :=
 ⟨by kernel_rfl,by kernel_rfl,by kernel_rfl,by decide +kernel,by kernel_rfl,by kernel_rfl,by kernel_rfl⟩
noncomputable def Jp:FuncData:=Ct "_law_due" "_law_due" (Cu 25) [] (.none) (.none) (.str "law_wv0051_01" 541) (.ref 305) (.none)
noncomputable def S4:List Stmt:=Cv (Cu 25)
noncomputable def Gw:FuncData:=Ct "_law_apart" "_law_apart" (Cu 26) [] (.none) (.none) (.str "law_wv0051_01" 541) (.ref 310) (.none)
noncomputable def Pn:List Stmt:=Cv (Cu 26)
noncomputable def E4:FuncData:=Ct "law" "law" (Cu 27) [] (.none) (.none) (.str "law_wv0051_01" 541) (.ref 315) (.none)
noncomputable def Bb:List Stmt:=Cv (Cu 27)
theorem drinker {τ:Type} (n:Nonempty τ) (P:τ→Prop):∃ x,P x→∀ t,P t :=
 (Classical.em (∃ t,¬ P t)).elim (λ ⟨t,h⟩=>⟨t,λ p=>absurd p h⟩) λ h=>n.elim λ a=>⟨a,λ _ t=>Classical.byContradiction λ q=>h ⟨t,q⟩⟩
noncomputable def ep {τ:Type} (n:Nonempty τ) (P:τ→Prop):τ:=Classical.choose (drinker n P)
theorem ep_all {τ:Type} {n:Nonempty τ} {P:τ→Prop} (h:P (ep n P)):∀ t,P t:=Classical.choose_spec (drinker n P) h
theorem neW:Nonempty World:=⟨aWorld 0⟩
theorem neA:Nonempty Around:=⟨{}⟩
theorem neS:Nonempty Shared:=⟨{}⟩
theorem neP {α β:Type} (a:Nonempty α) (b:Nonempty β):Nonempty (α×β):=a.elim λ x=>b.elim λ y=>⟨(x,y)⟩
section
variable {α0:Type} (n0:Nonempty α0) {P:α0→Prop}
variable (P) in
noncomputable def tup1:=ep n0 λ t:α0=>P t
variable (P) in
noncomputable def a1:=(tup1 n0 P)
theorem all1 (hh:P (a1 n0 P)):∀ a,P a :=
 λ a=>ep_all (n:=n0) (P:=λ t=>P t) hh (a)
end
section
variable {α0 α1:Type} (n0:Nonempty α0) (n1:Nonempty α1) {P:α0→α1→Prop}
variable (P) in
noncomputable def tup2:=ep (neP n0 n1) λ t:α0×α1=>P t.1 t.2
variable (P) in
noncomputable def a2:=(tup2 n0 n1 P).1
variable (P) in
noncomputable def b2:=(tup2 n0 n1 P).2
theorem all2 (hh:P (a2 n0 n1 P) (b2 n0 n1 P)):∀ a b,P a b :=
 λ a b=>ep_all (n:=(neP n0 n1)) (P:=λ t=>P t.1 t.2) hh (a,b)
end
section
variable {α0 α1 α2 α3:Type} (n0:Nonempty α0) (n1:Nonempty α1) (n2:Nonempty α2) (n3:Nonempty α3) {P:α0→α1→α2→α3→Prop}
variable (P) in
noncomputable def tup4:=ep (neP n0 (neP n1 (neP n2 n3))) λ t:α0×α1×α2×α3=>P t.1 t.2.1 t.2.2.1 t.2.2.2
variable (P) in
noncomputable def a4:=(tup4 n0 n1 n2 n3 P).1
variable (P) in
noncomputable def b4:=(tup4 n0 n1 n2 n3 P).2.1
variable (P) in
noncomputable def c4:=(tup4 n0 n1 n2 n3 P).2.2.1
variable (P) in
noncomputable def d4:=(tup4 n0 n1 n2 n3 P).2.2.2
theorem all4 (hh:P (a4 n0 n1 n2 n3 P) (b4 n0 n1 n2 n3 P) (c4 n0 n1 n2 n3 P) (d4 n0 n1 n2 n3 P)):∀ a b c d,P a b c d :=
 λ a b c d=>ep_all (n:=(neP n0 (neP n1 (neP n2 n3)))) (P:=λ t=>P t.1 t.2.1 t.2.2.1 t.2.2.2) hh (a,b,c,d)
end
section
variable {α0 α1 α2 α3 α4 α5 α6 α7:Type} (n0:Nonempty α0) (n1:Nonempty α1) (n2:Nonempty α2) (n3:Nonempty α3) (n4:Nonempty α4) (n5:Nonempty α5) (n6:Nonempty α6) (n7:Nonempty α7) {P:α0→α1→α2→α3→α4→α5→α6→α7→Prop}
variable (P) in
noncomputable def tup8:=ep (neP n0 (neP n1 (neP n2 (neP n3 (neP n4 (neP n5 (neP n6 n7))))))) λ t:α0×α1×α2×α3×α4×α5×α6×α7=>P t.1 t.2.1 t.2.2.1 t.2.2.2.1 t.2.2.2.2.1 t.2.2.2.2.2.1 t.2.2.2.2.2.2.1 t.2.2.2.2.2.2.2
variable (P) in
noncomputable def a8:=(tup8 n0 n1 n2 n3 n4 n5 n6 n7 P).1
variable (P) in
noncomputable def b8:=(tup8 n0 n1 n2 n3 n4 n5 n6 n7 P).2.1
variable (P) in
noncomputable def c8:=(tup8 n0 n1 n2 n3 n4 n5 n6 n7 P).2.2.1
variable (P) in
noncomputable def d8:=(tup8 n0 n1 n2 n3 n4 n5 n6 n7 P).2.2.2.1
variable (P) in
noncomputable def e8:=(tup8 n0 n1 n2 n3 n4 n5 n6 n7 P).2.2.2.2.1
variable (P) in
noncomputable def f8:=(tup8 n0 n1 n2 n3 n4 n5 n6 n7 P).2.2.2.2.2.1
variable (P) in
noncomputable def g8:=(tup8 n0 n1 n2 n3 n4 n5 n6 n7 P).2.2.2.2.2.2.1
variable (P) in
noncomputable def h8:=(tup8 n0 n1 n2 n3 n4 n5 n6 n7 P).2.2.2.2.2.2.2
theorem all8 (hh:P (a8 n0 n1 n2 n3 n4 n5 n6 n7 P) (b8 n0 n1 n2 n3 n4 n5 n6 n7 P) (c8 n0 n1 n2 n3 n4 n5 n6 n7 P) (d8 n0 n1 n2 n3 n4 n5 n6 n7 P) (e8 n0 n1 n2 n3 n4 n5 n6 n7 P) (f8 n0 n1 n2 n3 n4 n5 n6 n7 P) (g8 n0 n1 n2 n3 n4 n5 n6 n7 P) (h8 n0 n1 n2 n3 n4 n5 n6 n7 P)):∀ a b c d e f g h,P a b c d e f g h :=
 λ a b c d e f g h=>ep_all (n:=(neP n0 (neP n1 (neP n2 (neP n3 (neP n4 (neP n5 (neP n6 n7)))))))) (P:=λ t=>P t.1 t.2.1 t.2.2.1 t.2.2.2.1 t.2.2.2.2.1 t.2.2.2.2.2.1 t.2.2.2.2.2.2.1 t.2.2.2.2.2.2.2) hh (a,b,c,d,e,f,g,h)
end
def Lv (k:Nat) (low:List String→Lean.MacroM (Lean.TSyntax `tactic)) (ns:List String):Lean.MacroM (Lean.TSyntax `tactic):=do
 let ne ← `(by walk_at "ne");let h ← `(_);let g ← `(?_);let m:=ns.length / k
 let mut ts:=#[]
 for j in List.range m do
  let p:=(ns.drop (j*k)).take k
  let mut gs:=#[]
  for (n,i) in p.zipIdx do
   let x:Lean.Ident ← if n == "_" then `(x) else pure (Lean.mkIdent n.toName)
   gs:=gs.push (← `(tactic| generalize $(Lean.Syntax.mkApp (Lean.mkIdent (.mkStr `Mine (String.singleton (Char.ofNat (97+i))++toString k))) (Array.replicate (k+1) h))=$x))
  ts:=ts.push (← `(tactic| first|(refine $(Lean.Syntax.mkApp (← `(@$(Lean.mkIdent (.mkStr `Mine ("all" ++ toString k))))) (Array.replicate k h++Array.replicate k ne++#[h,g]));($[$gs];*))|$(← low p):tactic))
 unless ns.length == m*k do ts:=ts.push (← low (ns.drop (m*k)))
 `(tactic| ($[$ts];*))
def Lw (ns:List String):Lean.MacroM (Lean.TSyntax `tactic):=do
 let mut is:=#[]
 for n in ns do is:=is.push (← if n == "_" then `(x) else pure (Lean.mkIdent n.toName))
 `(tactic| intro $is*)
def Lx:=Lv 8 (Lv 4 (Lv 2 (Lv 1 Lw)))
def Ly (ls:List String):Lean.MacroM (Lean.TSyntax `tactic):=do
 let mut ts:=#[]
 let q ← `(?_);let d ← `(?hD);let v ← `(?hv);let k ← `(by kernel_rfl);let e ← `(by decide +kernel);let b ← `(Nat.le_of_ble_eq_true rfl)
 for s in (",".intercalate ls).splitOn "," do
  let w:=s.splitOn " "
  let a:=w.getD 1 ""
  let t:=Lean.Syntax.mkApp (Lean.mkIdent (w.getD 0 "").toName) (a.toList.toArray.map λ c=>if c == 'D' then d else if c == 'V' then v else if c == 'k' then k else if c == 'e' then e else if c == 'b' then b else q)
  if a.startsWith "D" then
   let i ← if a.startsWith "DV" then `(tactic| (case hv=>exact rfl)) else Lx (List.replicate (w.getD 2 "").toNat! "_")
   ts:=ts.push (← `(tactic| ((with_reducible refine' $t);(case hD=>assumption);$i)))
  else ts:=ts.push (← `(tactic| with_reducible refine $t))
 `(tactic| repeat first $[| $ts:tactic]*)
def Lz (f:String) (c:Lean.Term) (n:Nat):Lean.MacroM (Lean.TSyntax `tactic):=do
 `(tactic| (refine' $(Lean.Syntax.mkApp (Lean.mkIdent f.toName) (#[c,← `(?hD)]++Array.replicate n (← `(by kernel_rfl))++#[← `(?_)]));(case hD=>assumption)))
local macro_rules
 | `(tactic| walk_at $s:str)=>do
  let x1 := "wpAny_execs_cons ?,wpAny_execs_nil ?,wpAny_Expr ?kk,wpAny_Return_some ?,wpAny_Return_none ?,wpAny_Assign_Name ?k,wpAny_AugAssign_Name ?,wpAny_isTrue_Compare1 ?k,wpAny_isTrue_Not ?,wpAny_BinOp ?,wpAny_Compare1 ?k,wpAny_UnaryOp ?,wpAny_Constant_none ?,wpAny_Constant_bool ?,is_none ?,isNot_none ?,PySem.P.lt_int ?,PySem.P.le_int ?,PySem.P.gt_int ?,PySem.P.eq_int ?,PySem.P.ne_int ?,wpAny_truthy_bool ?"
  let x2 := "Gv ?,part_none ?,Os ?"
  let x3 := "isTrue_and ?,isTrue_or ?,isTrue_and_nil ?,isTrue_or_nil ?,BoolOp_and ?,BoolOp_or ?,BoolOp_one ?,IfExp_ ?,not_of ?"
  let x4 := "wpAny_Assign_Subscript ?k,plainObj_wpAny_Assign_Attribute ?k,spliced_none ?,spliced_more ?k,J5 ?"
  let y := "Cc DV?kke"
  let d := "d_localN DV?kk,d_int D? 4,d_str D? 4,d_add D? 4,d_sub D? 4,d_iadd D? 4,d_isub D? 4,d_neg D? 4,d_store D?kk 2"
  let t := "d_newList D?b 4,d_slice ?,d_newTuple D?b 4"
  let k := "isTrue_plain ?k"
  match s.getString.splitOn " " with
  | ["ne"]=>`(tactic| first|exact neW|exact neA|exact neS|infer_instance|exact⟨by constructor<;>exact default⟩|exact⟨by constructor⟩)
  | ["s4"]=>Ly [x1,y, "wpAny_If ?", d]
  | ["s8"]=>Ly [x1,y,x4, "wpAny_If ?", d,x2,t]
  | ["s1"]=>Ly [x1,y,x4, "wpAny_If ?", x3,d,x2,t,k]
  | ["s3"]=>Ly [x1, "Ai DV?kke", x4,x3, "n_localN DV?kk,Gx D? 4,Gl D? 4,Ce D? 4,Cd D? 4,n_iadd D? 4,n_neg D? 4,An D?kk 2", x2, "Cb D?b 5,n_slice ?,Ca D?b 4", k]
  | "" :: ns=>Lx ns
  | ["g", x]=>Lz "Ax" (← `(.ref $(Lean.Syntax.mkNumLit x))) 1
  | ["b", x]=>Lz "Ap" (← `(.builtin $(Lean.quote x))) 2
  | ["t", x]=>Lz "Ap" (← `(.type $(Lean.quote x))) 2
  | "c" :: ns=>`(tactic| (revert $(ns.toArray.map λ n=>Lean.mkIdent n.toName)*;$(← Lx ns);set_option tactic.hygienic false in intros))
  | _=>Lean.Macro.throwUnsupported
theorem Mm:∀ (w:World) {A:Around} {s:Shared} {v:Value} (G:A5 w s) (R:A3 A 5),
  wpAny (MD w) A (call (.ref 225) [v,.none]) (λ r s'=>r=.bool (v == .none)∧A4 [] s s') no s:=by
 walk_at " w A s v G R"
 refine Ez (binds:=[("a", v),("b", .none)]) (def_is w) G R (by kernel_rfl) (by kernel_rfl) [] List.nodup_nil (λ _ h=>nomatch h) ?_
 walk_at " L s₁ D"
 refine wpAny_execs_cons ?_
 walk_at "s4"
 exact⟨rfl,D.ret⟩
theorem s_neg:∀ (w:World) {A:Around} {s:Shared} {i:Int} {t:Tok} (G:A5 w s) (R:A3 A 5),
  wpAny (MD w) A (call (.ref 232) [.int i t]) (λ r s'=>(∃ t',t'≠0∧r=.int (-i) t')∧A4 [] s s') no s:=by
 walk_at " w A s i t G R"
 refine Ez (binds:=[("a", .int i t)]) (def_neg w) G R (by kernel_rfl) (by kernel_rfl) [] List.nodup_nil (λ _ h=>nomatch h) ?_
 walk_at " L s₁ D"
 refine wpAny_execs_cons ?_
 walk_at "s4"
 exact⟨⟨_,by assumption,rfl⟩,Cq.ret (by assumption)⟩
theorem s_iadd:∀ (w:World) {A:Around} {s:Shared} {i j:Int} {t u:Tok} (G:A5 w s) (R:A3 A 5),
  wpAny (MD w) A (call (.ref 275) [.int i t,.int j u]) (λ r s'=>(∃ t',t'≠0∧r=.int (i+j) t')∧A4 [] s s') no s:=by
 walk_at " w A s i j t u G R"
 refine Ez (binds:=[("a", .int i t),("b", .int j u)]) (def_iadd w) G R (by kernel_rfl) (by kernel_rfl) [] List.nodup_nil (λ _ h=>nomatch h) ?_
 walk_at " L s₁ D"
 refine wpAny_execs_cons ?_
 walk_at "s4"
 exact⟨⟨_,by assumption,rfl⟩,Cq.ret (by assumption)⟩
theorem s_isub:∀ (w:World) {A:Around} {s:Shared} {i j:Int} {t u:Tok} (G:A5 w s) (R:A3 A 5),
  wpAny (MD w) A (call (.ref 282) [.int i t,.int j u]) (λ r s'=>(∃ t',t'≠0∧r=.int (i-j) t')∧A4 [] s s') no s:=by
 walk_at " w A s i j t u G R"
 refine Ez (binds:=[("a", .int i t),("b", .int j u)]) (def_isub w) G R (by kernel_rfl) (by kernel_rfl) [] List.nodup_nil (λ _ h=>nomatch h) ?_
 walk_at " L s₁ D"
 refine wpAny_execs_cons ?_
 walk_at "s4"
 exact⟨⟨_,by assumption,rfl⟩,Cq.ret (by assumption)⟩
section
variable {w:World} {A:Around} {E:VP} {s:Shared} {env:Env}
theorem Bl {value:PySem.Expr} {attr:Str} {pos:Pos} {Q:VP} (h:wpAny (MD w) A (eval value env) (λ o s₁=>wpAny (MD w) A (getAttr o attr true) Q E s₁) E s)
  (hb:attributeBase value attr env (eval value env)=eval value env:=by kernel_rfl):wpAny (MD w) A (eval (.Attribute value attr pos) env) Q E s:=by
 rw[arm_eval_Attribute,hb]
 exact wpAny_bind (wpAny_mono h (λ o s₁ h₁=>wpAny_bind (wpAny_standAt (wpAny_bind (wpAny_holding (wpAny_mono h₁ (λ r s₂ h₂=>wpAny_bind (wpAny_letTemporaryGo (wpAny_pure h₂))) λ _ _ e=>e))))) λ _ _ e=>e)
theorem Ak {o:PySem.Expr} {name:Str} {apos pos:Pos} {args:List PySem.Expr} {kws:List PySem.Keyword} {Q:VP}
  (h:wpAny (MD w) A (eval o env) (λ ov s₁=>∀ pl,wpAny (MD w) A (getMethod ov name pl) (λ fp s₂=>wpAny (MD w) A (callWith pos fp.1 fp.2 (backTo pos (starEach args env)) (backToKw pos (keywordEach kws env))) Q E s₂) E s₁) E s)
  (hb:attributeBase o name env (eval o env)=eval o env:=by kernel_rfl) (hfew:methodCallForm (args.length+kws.length) (backTo pos (starEach args env)) (backToKw pos (keywordEach kws env))=true:=by kernel_rfl)
  (hline:(apos.endLine == pos.line)=true:=by decide) :
  wpAny (MD w) A (eval (.Call (.Attribute o name apos) args kws pos) env) Q E s:=by
 rw[arm_eval_Call,hb]
 refine wpAny_bind (wpAny_mono h (λ ov s₁ h₁=>wpAny_bind (wpAny_standAt ?_)) λ _ _ e=>e)
 have hpos:methodCallPos true o env apos pos=pure pos:=by unfold methodCallPos;simp[hline]
 unfold methodCall
 rw[hfew]
 refine wpAny_bind (wpAny_holding ?_)
 show wpAny (MD w) A (getMethod ov name _) _ _ _
 refine wpAny_mono (h₁ _) (λ fp s₂ h₂=>?_) λ _ _ e=>e
 obtain⟨f,first⟩:=fp
 dsimp only
 rw[hpos]
 exact wpAny_bind (wpAny_pure h₂)
theorem Am {f:PySem.Expr} {args:List PySem.Expr} {kws:List PySem.Keyword} {pos:Pos} {Q:VP}
  (h:wpAny (MD w) A (eval f env) (λ fv s₁=>wpAny (MD w) A (callWith pos fv [] (backTo pos (starEach args env)) (backToKw pos (keywordEach kws env))) Q E s₁) E s)
  (hf:eval (.Call f args kws pos) env=(do callWith pos (← eval f env) [] (backTo pos (starEach args env)) (backToKw pos (keywordEach kws env))):=by rfl) :
  wpAny (MD w) A (eval (.Call f args kws pos) env) Q E s:=by
 rw[hf];exact wpAny_bind h
noncomputable def Hb (w:World) (f:Value) (h:Heap):Prop:=∃ k,(k=Keeper.frame∨k=Keeper.machine∨k=Keeper.boundFrame)∧Looks (MD w) h (keeperOf f) k
theorem Cr {f:Value} {h:Heap} (X:(K w.params).In h) (e:keepIn (K w.params) f=true):Hb w f h:=keeps_K e h X
theorem Bh {id:String} {h:Heap}:Hb w (.builtin id) h:=⟨.machine,.inr (.inl rfl),Looks.of_pure rfl⟩
theorem Gk {id:String} {h:Heap}:Hb w (.type id) h:=⟨.machine,.inr (.inl rfl),Looks.of_pure rfl⟩
theorem Ks {a:Addr} {c:Value} {vs:Array Value} {h:Heap} {d:Option Addr} {sl:Array (Option Value)} (e:h.get? a=some ⟨c,d,.fields vs,sl⟩) (hc:c=.type "builtin_function_or_method" ∨ c=.type "method-wrapper"):Hb w (.ref a) h:=by
 refine⟨.machine,.inr (.inl rfl),(Looks.ld (part:=none) e).andThen ?_⟩
 rcases hc with rfl|rfl<;>exact Looks.of_pure (by kernel_rfl)
theorem Ha {f:Value} {first:List Value} {pos:Pos} {Q:VP}
  (h:Hb w f s.heap∧wpAny (MD w) A (call f first []) Q E s) :
  wpAny (MD w) A (callWith pos f first (backTo pos (starEach [] env)) (backToKw pos (keywordEach [] env))) Q E s :=
 callWith_of (M:=MD w) (P:=Hb w f) rfl (λ _ hk=>hk) (PySem.evalArgs_none ⟨h.1,by rw[List.append_nil];exact h.2⟩)
theorem Co {f:Value} {first:List Value} {e:PySem.Expr} {args:List PySem.Expr} {pos:Pos} {Q:VP}
  (h:wpAny (MD w) A (spliced (backTo pos (starEach (e::args) env))) (λ vs s₁=>Hb w f s₁.heap∧wpAny (MD w) A (call f (first++vs) []) Q E s₁) E s)
  (he:starEach (e::args) env=(false,eval e env)::starEach args env:=by rfl) (hplain:(backTo pos (starEach args env)).any (·.1)=false:=by rfl) :
  wpAny (MD w) A (callWith pos f first (backTo pos (starEach (e::args) env)) (backToKw pos (keywordEach [] env))) Q E s:=by
 rw[he] at h ⊢
 exact callWith_of (M:=MD w) (P:=Hb w f) (by show ((false || (backTo pos (starEach args env)).any (·.1)) || false)=false;rw[hplain];rfl) (λ _ hk=>hk) (Calls.evalArgs_plain h)
theorem cwk {f:Value} {first:List Value} {e:PySem.Expr} {args:List PySem.Expr} {pos p2:Pos} {n:Str} {ke:PySem.Expr} {Q:VP}
  (h:wpAny (MD w) A (spliced (backTo pos (starEach (e::args) env))) (λ vs s₁=>wpAny (MD w) A (eval ke env) (λ kv s₂=>Hb w f s₂.heap∧wpAny (MD w) A (call f (first++vs) [(n,kv)]) Q E s₂) E s₁) E s)
  (he:starEach (e::args) env=(false,eval e env)::starEach args env:=by rfl) (hplain:(backTo pos (starEach args env)).any (·.1)=false:=by rfl) :
  wpAny (MD w) A (callWith pos f first (backTo pos (starEach (e::args) env)) (backToKw pos (keywordEach [⟨some n,ke,p2⟩] env))) Q E s:=by
 refine callWith_of (M:=MD w) (P:=Hb w f) (by rw[he];show ((false || (backTo pos (starEach args env)).any (·.1)) || false)=false;rw[hplain];rfl) (λ _ hk=>hk) ?_
 refine evalArgs_kw2 (by rfl) (wpAny_mono h (λ vs s₁ h₁=>?_) λ _ _ z=>z) he
 show wpAny (MD w) A (evalAll [do let v ← eval ke env;standAt pos;pure v]) _ _ _
 refine wpAny_bind (wpAny_bind (wpAny_mono h₁ (λ kv s₂ h₂=>wpAny_bind (wpAny_standAt (wpAny_pure ?_))) λ _ _ z=>z))
 exact wpAny_bind (wpAny_holding (wpAny_pure (wpAny_pure h₂)))
end
open Builtin Builtin.ObjectAttr
noncomputable def A8 (d:Addr) (its:List Value) (n:Nat):Obj:=⟨.ref 214,some d,.seq its.toArray n,#[]⟩
noncomputable def A9 (P:Params) (t:Tok) (v:Value):Obj:=⟨.type "dict", none,.dict [⟨PyData.keyHash P "_initial_size", .str "_initial_size" t,v⟩].toArray 1,#[]⟩
section
variable {w:World} {A:Around} {E:VP} {s:Shared} {x d:Addr} {its:List Value} {n:Nat} {t:Tok} {iv:Value}
theorem Gi {h:Heap} (hx:h.get? x=some (A8 d its n)) (hd:h.get? d=some (A9 w.params t iv)):InstAt h x (A8 d its n) 214 (some (A9 w.params t iv)):=⟨hx,rfl,rfl,hd⟩
theorem O9 (P:Params):findIn (K P) (.ref 214) "__getattribute__" = some (some (.builtin "list.__getattribute__")):=by kernel_rfl
theorem J8 {h:Heap} (X:(K w.params).In h) (I:InstAt h x (A8 d its n) 214 (some (A9 w.params t iv))):Looks (MD w) h (isInstance (.ref x) (.type "list")) true:=I.type.andThen (looks_mroIn X (by kernel_rfl))
theorem a_get {e:Bool} {Q:VP} (X:(K w.params).In s.heap) (hx:s.heap.get? x=some (A8 d its n)) (hd:s.heap.get? d=some (A9 w.params t iv)) (hv:handedIn iv=true)
  (h:Q iv {s with toks:=s.toks+1}):wpAny (MD w) A (getAttr (.ref x) "_initial_size" e) Q E s:=by
 walk_at "c w A E s x d its n t iv e Q X hx hd hv h"
 have I:=Gi hx hd
 have L1:=looks_find (M:=MD w) (name := "_initial_size") (r:=.value iv) X I (by kernel_rfl)
 refine wpAny_bind (wpAny_mkText (wpAny_holding (wpAny_bind (I.type.at (wpAny_bind ((looks_findIn X (O9 _)).at ?_))))))
 dsimp only
 rw[show (onTheHeap (.ref 214) && Value.builtin "list.__getattribute__" == Value.builtin "object.__getattribute__")=false from by decide +kernel,if_neg (by decide)]
 refine wpAny_bind ((looks_hook X (mc:=.ref 214) (r:=none) (by kernel_rfl)).at (wpAny_bind (wpAny_attempt (wpAny_holding ?_))))
 unfold callGetattribute
 rw[show (e && onTheHeap (Value.builtin "list.__getattribute__"))=false from Bool.and_false _,if_neg (by decide)]
 unfold boundAndCalled
 rw[F.slot_list_getattribute.bind]
 refine wpAny_bind (wpAny_pure ?_)
 show wpAny _ _ (call (.builtin "list.__getattribute__") [.ref x,.str "_initial_size" s.toks]) _ _ _
 refine wpAny_call (codeAny_call_builtin F.slot_list_getattribute.plain F.entry_list_ga (@check_slot (MD w) _ _ {s with toks:=s.toks+1} "list.__getattribute__" "list" "__getattribute__" (.ref x) [.str "_initial_size" s.toks] [] _ (by decide +kernel) (by decide +kernel) (J8 X I) (F.args_list_getattribute_2 _ _) ?_))
 refine wpAny_bind (wpAny_pure (wpAny_bind (wpAny_pure (wpAny_bind (I.type.at (wpAny_bind (L1.at ?_)))))))
 refine wpAny_pure ?_
 show wpAny _ _ (handedOut iv) _ _ _
 rw[handedOut_of hv];exact wpAny_pure h
noncomputable def Hn:List Value:=[.type "function", .type "method_descriptor", .type "wrapper_descriptor"]
theorem Nb {K:Frag} {C:Addr} {ox:Obj} {od:Option Obj} {name:Str} {pl:Sem Bool} {Q:Value×List Value→Shared→Prop} {fv ty:Value} {ga:String} (X:K.In s.heap) (I:InstAt s.heap x ox C od)
  (hga:findIn K (.ref C) "__getattribute__" = some (some (.builtin ga))) (hcan:(Manifest.canonical ga != "object.__getattribute__")=false) (hk:findIn K (.ref C) "__getattr__" = some none)
  (hf:findIn K (.ref C) name=some (some fv)) (ht:typeIn K fv=some ty) (hty:Hn.contains ty=true) (hs:shadowIn od name=some false) (h:Q (fv,[.ref x]) s) :
  wpAny (MD w) A (getMethod (.ref x) name pl) Q E s:=by
 walk_at "c w A E s x K C ox od name pl Q fv ty ga X I hga hcan hk hf ht hty hs h"
 have hne:(ty != .type "function" && ty != .type "method_descriptor" && ty != .type "wrapper_descriptor")=false:=by
  unfold Hn at hty
  simp only[List.contains_cons,List.contains_nil,Bool.or_false] at hty
  cases a:ty == .type "function" <;> cases b:ty == .type "method_descriptor" <;> cases c:ty == .type "wrapper_descriptor" <;> simp_all [bne]
 unfold getMethod specialOf
 refine wpAny_bind (wpAny_bind (I.type.here ((looks_findIn X hga).here ?_)))
 dsimp only
 rw[hcan,if_neg (by decide)]
 refine wpAny_bind (wpAny_bind (I.type.here ((looks_findIn X hk).here ?_)))
 refine wpAny_bind (wpAny_bind (I.type.here ((looks_findIn X hf).here (wpAny_bind ((looks_typeIn X ht).here ?_)))))
 rw[if_neg (by rw[hne];decide)]
 refine wpAny_bind (wpAny_loadPart I.at_ ?_)
 have hd:=I.dict
 cases e:ox.dict with
 | none=>exact wpAny_bind (wpAny_rule (wpAny_pure h))
 | some dx =>
  walk_at "c dx"
  cases od with
  | none=>rw[e] at hd;exact hd.elim
  | some o =>
   walk_at "c o"
   rw[e] at hd
   obtain⟨r,a,b⟩:=Option.map_eq_some_iff.mp hs
   walk_at "c r"
   refine wpAny_bind (wpAny_bind (wpAny_loadPart hd ?_))
   rw[nsLook_of a]
   refine wpAny_pure ?_
   rw[b]
   exact wpAny_bind (wpAny_rule (wpAny_pure h))
theorem Kg {name:Str} {pl:Sem Bool} {Q:Value×List Value→Shared→Prop} (fv ty:Value) (X:(K w.params).In s.heap) (hx:s.heap.get? x=some (A8 d its n)) (hd:s.heap.get? d=some (A9 w.params t iv))
  (hf:findIn (K w.params) (.ref 214) name=some (some fv)) (ht:typeIn (K w.params) fv=some ty) (hty:Hn.contains ty=true) (hs:shadowIn (some (A9 w.params t iv)) name=some false) (h:Q (fv,[.ref x]) s) :
  wpAny (MD w) A (getMethod (.ref x) name pl) Q E s:=Nb X (Gi hx hd) (O9 _) (by decide +kernel) (by kernel_rfl) hf ht hty hs h
theorem Ni (self:Value):refuseLoop self "__setattr__" [.ref 214,.type "list", .type "object"]=pure ():=by kernel_rfl
theorem Lr (P:Params) (v':Value) (h:Int) (k:Value):Obj.putName "_initial_size" h k v' (A9 P t iv)=A9 P t v':=by kernel_rfl
theorem a_set {v:Value} {Q:Unit→Shared→Prop} (X:(K w.params).In s.heap) (hx:s.heap.get? x=some (A8 d its n)) (hd:s.heap.get? d=some (A9 w.params t iv))
  (h:∀ h',Heap.SameBut d s.heap h'→h'.get? d=some (A9 w.params t v)→Q () {s with heap:=h',toks:=s.toks+2}):wpAny (MD w) A (setAttr (.ref x) "_initial_size" v) Q E s:=by
 walk_at "c w A E s x d its n t iv v Q X hx hd h"
 have I:=Gi hx hd
 refine set_plain X I (by kernel_rfl) ?_
 have SF:=PySem.F.store_object
 have hcls:clsIn (K w.params) 214=some {name := "_Accumulator", bases:=[.type "list"],mro:=[.ref 214,.type "list", .type "object"],ns:=213,qualname := "_Accumulator", hasDict:=true,slotNames:=[],subclasses:=[],abstract:=false,collection:=none,hasDel:=false}:=by kernel_rfl
 have sub:Looks (MD w) s.heap (isInstance (.ref x) (.type "object")) true:=I.type.andThen (looks_mroIn X (by kernel_rfl))
 refine codeAny_call_builtin SF.slot.plain SF.entry (@check_slot (MD w) _ _ {s with toks:=s.toks+1} "object.__setattr__" "object" "__setattr__" (.ref x) [.str "_initial_size" s.toks,v] [] _ SF.kind SF.split sub (SF.args (.ref x) (.str "_initial_size" s.toks) v) ?_)
 have hm:Looks (MD w) s.heap (mroOf (.ref 214)) [.ref 214,.type "list", .type "object"]:=(looks_clsIn X hcls).andThen .now
 have ha:findIn (K w.params) (.ref 214) "_initial_size" = some none:=by kernel_rfl
 rw[osa_eq,refuse_eq]
 refine wpAny_bind (wpAny_bind (I.type.at (wpAny_bind (hm.at ?_))))
 rw[Ni]
 refine wpAny_pure (wpAny_bind (I.type.at (wpAny_bind ((looks_findIn X ha).at (wpAny_bind (wpAny_pure ?_))))))
 dsimp only
 refine wpAny_bind (wpAny_pure (wpAny_bind (wpAny_bind (wpAny_loadPart hx (wpAny_bind ((looks_clsIn X hcls).at ?_))))))
 rw[if_neg (by decide)]
 refine wpAny_pure (a:=some d) (wpAny_bind (wpAny_pure (wpAny_bind ?_)))
 unfold nsSet
 refine wpAny_bind (wpAny_bind (wpAny_askSetting (wpAny_pure (wpAny_bind (wpAny_mkText (wpAny_bind (wpAny_loadPart hd ?_)))))))
 dsimp only[A9]
 rw[aRefKeyMayBeTheName_at,if_neg (by simp[DictEntry.refKey])]
 refine wpAny_updatePart hd ?_
 have e':∀ h1 k1,(s.heap.update d (Obj.putName "_initial_size" h1 k1 v)).get? d=some (A9 w.params t v):=λ h1 k1=>by
  have:=Heap.get?_update_self (f:=Obj.putName "_initial_size" h1 k1 v) hd (by rw[Lr];rfl)
  rw[this,Lr]
 refine wpAny_bind (wpAny_lookBehind (e' _ _) (by rfl) ?_)
 exact wpAny_pure (h _ (Heap.SameBut.update ..) (e' _ _))
end
theorem Pu {M:Model} {A:Around} {E:VP} {s:Shared} {i owner n:String} {self:Value} {rest:List Value} {kw:List (Str×Value)} {Q:Unit→Shared→Prop}
  (hk:builtinKind i=some .slot∨builtinKind i=some .method) (hs:splitId i=some (owner,n)) (hi:Looks M s.heap (isInstance self (.type owner)) true) (ha:argsOk i ⟨self::rest,kw⟩) (q:Q () s) :
  wpAny M A (checkBuiltinCall i ⟨self::rest,kw⟩) Q E s:=by
 rcases hk with hk|hk
 all_goals
  simp only[checkBuiltinCall,hk,hs]
  refine wpAny_bind (hi.here ?_)
  simp only[Bool.not_true,Bool.false_eq_true,if_false]
  cases hsig:Manifest.signature? i with
  | none=>exact wpAny_pure q
  | some sig =>
   simp only[argsOk,hsig] at ha
   have h2:Bind.checkArgs i sig ⟨self::rest,kw⟩=pure ():=ha
   show wpAny M A (Bind.checkArgs i sig ⟨self::rest,kw⟩) Q E s
   rw[h2];exact wpAny_pure q
section
variable {w:World} {A:Around} {E:VP} {s:Shared} {x d:Addr} {its:List Value} {n:Nat} {t:Tok} {iv:Value}
theorem Ib {i nm:String} {rest:List Value} {kw:List (Str×Value)} {b:Builtin} {Q:VP}
  (X:(K w.params).In s.heap) (hx:s.heap.get? x=some (A8 d its n)) (hd:s.heap.get? d=some (A9 w.params t iv))
  (hk:builtinKind i=some .slot∨builtinKind i=some .method) (hs:splitId i=some ("list", nm)) (pl:plainId i=true) (en:entryFor table i=some b) (ha:argsOk i ⟨.ref x::rest,kw⟩)
  (h:wpAny (MD w) A.in1 (b ⟨.ref x::rest,kw⟩) (λ fin s'=>match fin with|.done f=>(∃ v,f=.ret v∧Q v s')|.again c'=>c'.quiet=true∧codeAny (MD w) A c' (λ r s'=>match r with|.ok (.ret v)=>Q v s'|.ok _=>False|.error e=>E e s') s') E s) :
  wpAny (MD w) A (call (.builtin i) (.ref x::rest) kw) Q E s:=by
 refine wpAny_call (codeAny_call_builtin pl en (Pu hk hs (J8 X (Gi hx hd)) ha (wpAny_mono h (λ fin s' z=>?_) λ _ _ z=>z)))
 cases fin with
 | done f=>obtain⟨v,rfl,z⟩:=z;exact z
 | again c=>exact⟨z.1,codeAny_mono z.2 (λ r s' y=>by cases r with|error e=>exact y|ok f=>cases f<;>first|exact y|exact y.elim)⟩
theorem Ms {v:Value} {Q:VP} (X:(K w.params).In s.heap) (hx:s.heap.get? x=some (A8 d its n)) (hd:s.heap.get? d=some (A9 w.params t iv))
  (h:∀ h',Heap.SameBut x s.heap h'→h'.get? x=some (A8 d (its++[v]) (n+1))→Q .none {s with heap:=h'}) (hsz:its.length≤1000) :
  wpAny (MD w) A (call (.builtin "list.append") [.ref x,v]) Q E s:=by
 refine Ib (nm := "append") X hx hd (.inr (by decide +kernel)) (by decide +kernel) F.slot_list_append.plain F.entry_list_append (F.args_list_append_2 _ _) ?_
 show wpAny _ _ (updateSeq x (·.push v) >>= λ _=>ret .none) _ _ s
 have em:Obj.mapSeq (·.push v) (A8 d its n)=A8 d (its++[v]) (n+1):=by simp[Obj.mapSeq,A8]
 refine wpAny_bind (wpAny_updateSeq hx rfl (wpAny_pure ⟨.none,rfl,h _ (Heap.SameBut.update ..) ?_⟩) ?_ ?_)
 ·rw[Heap.get?_update_self _ hx (by rw[em];rfl),em]
 ·simp only[List.size_toArray];exact Nat.le_trans hsz (by decide +kernel)
 ·simp only[Array.size_push,List.size_toArray];exact Nat.le_trans (Nat.succ_le_succ hsz) (by decide +kernel)
end
theorem By {h:Heap} {a b:Addr} {oa ob:Obj} (ha:h.get? a=some oa) (hb:h.get? b=some ob) (n:oa.cls≠ob.cls):a≠b:=by
 rintro rfl;rw[ha] at hb;cases hb;exact n rfl
theorem Bz {w:World} {s:Shared} {d:Addr} {od:Obj} {S:List Addr} (_G:A5 w s) (hd:s.heap.get? d=some od) (h3:@LE.le Nat _ 317 d) (hS:d∉S):(hide s.heap (S++[176,183])).get? d=some od:=by
 refine (Gm λ q=>?_).trans hd
 rcases List.mem_append.mp q with q|q
 ·exact hS q
 ·simp at q
  rcases q with q|q
  ·exact Av h3 176 (by decide) q
  ·exact Av h3 183 (by decide) q
theorem s_push:∀ (w:World) {A:Around} {s:Shared} {x d:Addr} {its:List Value} {n:Nat} {t:Tok} {iv v1 v2:Value} (G:A5 w s) (R:A3 A 6) (hx:s.heap.get? x=some (A8 d its n)) (hd:s.heap.get? d=some (A9 (w.params) t iv)) (hx3:@LE.le Nat _ 317 x) (hd3:@LE.le Nat _ 317 d) (hsz:its.length≤1000),
  wpAny (MD w) A (call (.ref 158) [.ref x,v1,v2]) (λ r s'=>r=.none∧A4 [x] s s'∧∃ a,s'.heap.get? x=some (A8 d (its++[.ref a]) (n+1))∧s'.heap.get? a=some {cls:=.type "tuple", data:=.seq #[v1,v2]}∧@LE.le Nat _ 317 a) no s:=by
 walk_at " w A s x d its n t iv v1 v2 G R hx hd hx3 hd3 hsz"
 have hd1:=Bz (S:=[x]) G hd hd3 (by rw[List.mem_singleton];exact By hd hx (by intro h;cases h))
 refine Ez (binds:=[("self", .ref x),("fws", v1),("string", v2)]) (Hw w) G R (by kernel_rfl) (by kernel_rfl) [(x,A8 d its n)] (by simp) (λ p h=>by rw[List.mem_singleton.mp h];exact⟨hx,hx3⟩) ?_
 walk_at " L s₁ D"
 refine wpAny_execs_cons ?_
 walk_at "s8"
 refine Ak ?_
 walk_at "s8"
 walk_at " pl"
 refine Kg (.builtin "list.append") (.type "method_descriptor") D.k (D.at 0 rfl) (D.old hd1) (by kernel_rfl) (by kernel_rfl) (by decide +kernel) (by kernel_rfl) ?_
 refine Co ?_
 walk_at "s8"
 refine⟨Bh,Ms (Cq.k (by assumption)) (Cq.at (by assumption) 1 rfl) (Cq.old (by assumption) hd1) ?_ hsz⟩
 walk_at " h' hs hg"
 rename_i s₂ a D2 ha
 have D3:=D2.setAt 1 (t:=s₂.toks) (Nat.le_refl _) rfl hs hg
 walk_at "s8"
 exact⟨rfl,D3.ret,a,D3.at 1 rfl,D3.at 0 rfl,ha⟩
section
variable {w:World} {A:Around} {E:VP} {s:Shared} {x d:Addr} {its:List Value} {n:Nat} {t:Tok} {iv:Value}
theorem Hc {name:Str} {r:Option Value} (X:(K w.params).In s.heap) (hx:s.heap.get? x=some (A8 d its n)) (hd:s.heap.get? d=some (A9 w.params t iv))
  (hf:findIn (K w.params) (.ref 214) name=some r):Looks (MD w) s.heap (specialOf (.ref x) name) r:=(Gi hx hd).type.andThen (looks_findIn X hf)
theorem Ji {name:Str} {id:String} {args:List Value} {Q:Option Value→Shared→Prop} (X:(K w.params).In s.heap) (hx:s.heap.get? x=some (A8 d its n)) (hd:s.heap.get? d=some (A9 w.params t iv))
  (hf:findIn (K w.params) (.ref 214) name=some (some (.builtin id))) (hb:∀ self,bindSpecial (.builtin id) self=pure (.builtin id,[self]))
  (h:wpAny (MD w) A (call (.builtin id) (.ref x::args)) (λ v=>Q (some v)) E s):wpAny (MD w) A (callSpecial? (.ref x) name args) Q E s:=by
 simp only[callSpecial?]
 refine wpAny_bind ((Hc X hx hd hf).at ?_)
 simp only[hb]
 exact wpAny_holding (wpAny_bind (wpAny_pure (wpAny_bind (wpAny_mono h (λ v s' h'=>wpAny_pure h') λ _ _ h'=>h'))))
theorem Jh {name:Str} {f:Addr} {args:List Value} {Q:Option Value→Shared→Prop} (X:(K w.params).In s.heap) (hx:s.heap.get? x=some (A8 d its n)) (hd:s.heap.get? d=some (A9 w.params t iv))
  (hf:findIn (K w.params) (.ref 214) name=some (some (.ref f))) (hb:typeIn (K w.params) (.ref f)=some (.type "function"))
  (h:wpAny (MD w) A (call (.ref f) (.ref x::args)) (λ v=>Q (some v)) E s):wpAny (MD w) A (callSpecial? (.ref x) name args) Q E s:=by
 simp only[callSpecial?]
 refine wpAny_bind ((Hc X hx hd hf).at ?_)
 exact wpAny_holding (wpAny_bind ((bind_fn X _ hb).at (wpAny_bind (wpAny_mono h (λ v s' h'=>wpAny_pure h') λ _ _ h'=>h'))))
theorem Nt (X:(K w.params).In s.heap) (hx:s.heap.get? x=some (A8 d its n)) (hd:s.heap.get? d=some (A9 w.params t iv)) {k:Value} {nm:Str} {Q:VP} (h:Q k s):wpAny (MD w) A (sequenceKey (.ref x) k nm) Q E s:=by
 unfold sequenceKey
 refine wpAny_bind ((Gi hx hd).type.at ?_)
 dsimp only
 have L:Looks (MD w) s.heap (isSubtype (.ref 214) (.type "collections.deque")) false:=looks_mroIn X (by kernel_rfl)
 show wpAny _ _ ((seqItemTypes.anyM λ n=>isSubtype (.ref 214) (.type n)) >>= _) _ _ _
 unfold seqItemTypes
 simp only[List.anyM]
 refine wpAny_bind (wpAny_bind (L.at ?_))
 exact wpAny_pure (wpAny_pure h)
theorem Kh (X:(K w.params).In s.heap) (hx:s.heap.get? x=some (A8 d its n)) (hd:s.heap.get? d=some (A9 w.params t iv)) {Q:Bool→Shared→Prop} (h:Q false s):wpAny (MD w) A (getitemInPython (.ref x)) Q E s:=by
 unfold getitemInPython
 exact wpAny_bind ((Hc X hx hd (r:=some (.builtin "list.__getitem__")) (by kernel_rfl)).at (wpAny_pure h))
theorem Pj {sl:Addr} {vl vu:Value} {lo hi:Option Int} {Q:VP} (X:(K w.params).In s.heap) (hx:s.heap.get? x=some (A8 d its n)) (hd:s.heap.get? d=some (A9 w.params t iv))
  (hs:s.heap.IsSliceOf sl vl vu .none) (pl:IsPart vl lo) (pu:IsPart vu hi) 
  (h:Q (.ref s.heap.objs.size) {s with heap:=s.heap.push {cls:=.type "list", data:=.seq (slicePick its.toArray lo hi none)}}) (hsz:its.length≤1000) :
  wpAny (MD w) A (getItem (.ref x) (.ref sl)) Q E s:=by
 walk_at "c w A E s x d its n t iv sl vl vu lo hi Q X hx hd hs pl pu h hsz"
 obtain⟨os,hos,hcs,hds⟩:=id hs
 walk_at "c os"
 have hTs:s.TypeIs (.ref sl) "slice" := ⟨os,hos,hcs⟩
 unfold getItem
 refine wpAny_holding (wpAny_bind (Nt X hx hd (wpAny_bind (Ji X hx hd (by kernel_rfl) F.slot_list_getitem.bind ?_))))
 refine Ib (nm := "__getitem__") X hx hd (.inr (by decide +kernel)) (by decide +kernel) F.slot_list_getitem.plain F.entry_list_getitem (F.args_list_getitem_2 _ _) ?_
 show wpAny _ _ (Builtin.List.listSubscript? (.ref sl) >>= _) _ _ s
 refine wpAny_bind ?_
 unfold Builtin.List.listSubscript?
 refine wpAny_bind (wpAny_specialOf hTs slice_no_index ?_)
 simp only[Option.isNone_none,if_true]
 refine wpAny_pure ?_
 show wpAny _ _ (typeOf (.ref sl) >>= _) _ _ s
 refine wpAny_bind (wpAny_typeOf hTs ?_)
 rw[if_neg (by decide),listSliceParts_eq]
 refine wpAny_bind (wpAny_bind (wpAny_field hos hds (x:=.none) rfl (wpAny_bind (wpAny_listPart .none ?_))))
 have hstep:¬ ((rawPart none == rawInt 0)=true):=Bool.false_ne_true
 rw[if_neg hstep]
 refine wpAny_bind (wpAny_field hos hds (x:=vl) rfl (wpAny_bind (wpAny_listPart pl ?_)))
 refine wpAny_bind (wpAny_field hos hds (x:=vu) rfl (wpAny_bind (wpAny_listPart pu (wpAny_pure ?_))))
 refine wpAny_bind (m:=Builtin.List.listItems (.ref x)) ?_
 unfold Builtin.List.listItems
 refine wpAny_bind (wpAny_seqItems hx rfl (wpAny_pure ?_))
 refine wpAny_bind (wpAny_of_eq (sliceIndices_raw lo hi none its.toArray.size (by simp)) ?_)
 exact wpAny_bind (wpAny_newObj_type (wpAny_pure ⟨_,rfl,wpAny_pure h⟩) (Nat.le_trans (slicePick_size_le its.toArray lo hi none) (Nat.le_trans (by simpa using hsz) (by decide +kernel))))
theorem Jw (f:Array Value→Array Value) (d:Addr) (its:List Value) (n:Nat):∃ n',Obj.mapSeq f (A8 d its n)=A8 d (f its.toArray).toList n':=⟨_,by simp only[Obj.mapSeq,A8,Array.toArray_toList];rfl⟩
theorem Ic {sl b:Addr} {vl vu:Value} {lo hi:Option Int} {its2:List Value} {n2 a:Nat} {Q:Unit→Shared→Prop} (X:(K w.params).In s.heap) (hx:s.heap.get? x=some (A8 d its n)) (hd:s.heap.get? d=some (A9 w.params t iv))
  (hs:s.heap.IsSliceOf sl vl vu .none) (pl:IsPart vl lo) (pu:IsPart vu hi) (hb:s.heap.get? b=some {cls:=.type "list", data:=.seq its2.toArray n2}) 
  (hbd:sliceBounds lo hi none its.toArray.size=((a:Int),(its.length:Int),1)) (ha:a≤its.length)
  (h:∀ h' n',Heap.SameBut x s.heap h'→h'.get? x=some (A8 d (its.take a++its2) n')→Q () {s with heap:=h'}) (hsz:its.length≤1000) (hsz2:its2.length≤1000) :
  wpAny (MD w) A (setItem (.ref x) (.ref sl) (.ref b)) Q E s:=by
 walk_at "c w A E s x d its n t iv sl b vl vu lo hi its2 n2 a Q X hx hd hs pl pu hb hbd ha h hsz hsz2"
 obtain⟨os,hos,hcs,hds⟩:=id hs
 walk_at "c os"
 have hTs:s.TypeIs (.ref sl) "slice" := ⟨os,hos,hcs⟩
 have hTb:s.TypeIs (.ref b) "list" := ⟨_,hb,rfl⟩
 have hxb:b≠x:=by rintro rfl;rw[hb] at hx;cases hx
 unfold setItem
 refine wpAny_holding (wpAny_bind (Nt X hx hd (wpAny_bind (Ji X hx hd (by kernel_rfl) F.slot_list_setitem.bind ?_))))
 refine Ib (nm := "__setitem__") X hx hd (.inl (by decide +kernel)) (by decide +kernel) F.slot_list_setitem.plain F.entry_list_setitem (F.args_list_setitem_3 _ _ _) ?_
 show wpAny _ _ (Builtin.List.listSubscript? (.ref sl) >>= _) _ _ s
 refine wpAny_bind ?_
 unfold Builtin.List.listSubscript?
 refine wpAny_bind (wpAny_specialOf hTs slice_no_index ?_)
 simp only[Option.isNone_none,if_true]
 refine wpAny_pure ?_
 show wpAny _ _ (typeOf (.ref sl) >>= _) _ _ s
 refine wpAny_bind (wpAny_typeOf hTs ?_)
 rw[if_neg (by decide),listSliceParts_eq]
 refine wpAny_bind (wpAny_bind (wpAny_field hos hds (x:=.none) rfl (wpAny_bind (wpAny_listPart .none ?_))))
 have hstep:¬ ((rawPart none == rawInt 0)=true):=Bool.false_ne_true
 rw[if_neg hstep]
 refine wpAny_bind (wpAny_field hos hds (x:=vl) rfl (wpAny_bind (wpAny_listPart pl ?_)))
 refine wpAny_bind (wpAny_field hos hds (x:=vu) rfl (wpAny_bind (wpAny_listPart pu (wpAny_pure ?_))))
 have hsr:Builtin.List.listSameRef (.ref x) (.ref b)=false:=by
  show (x == b)=false
  simp[Ne.symm hxb]
 dsimp only
 rw[hsr]
 simp only[Bool.false_eq_true,if_false]
 refine wpAny_bind ?_
 unfold Builtin.List.listAllItems
 refine wpAny_bind (wpAny_typeOf hTb ?_)
 rw[if_pos (by decide +kernel)]
 unfold Builtin.List.listItems
 refine wpAny_bind (wpAny_seqItems hb rfl (wpAny_pure ?_))
 refine wpAny_bind (wpAny_bind (wpAny_seqItems hx rfl (wpAny_pure ?_)))
 refine wpAny_bind (wpAny_of_eq ((sliceIndices_raw lo hi none its.toArray.size (by simp)).trans (by rw[hbd])) ?_)
 dsimp only
 rw[if_pos (by rfl)]
 refine wpAny_bind (wpAny_rule ?_)
 have hline:(1000:Nat)+1000≤sizeLine:=by decide +kernel
 have hlong:¬ (Builtin.List.listTooLong (its.toArray.size+its2.toArray.size)=true):=by
  simp only[Builtin.List.listTooLong,decide_eq_true_eq,List.size_toArray];lia
 rw[if_neg hlong]
 obtain⟨n',em⟩:=Jw (λ xs=>xs.extract 0 ((a:Int)).toNat++its2.toArray++xs.extract (max (a:Int) (its.length:Int)).toNat xs.size) d its n
 walk_at "c n'"
 have ee:((its.toArray.extract 0 ((a:Int)).toNat++its2.toArray++its.toArray.extract (max (a:Int) (its.length:Int)).toNat its.toArray.size)).toList=its.take a++its2:=by
  have:(max (a:Int) (its.length:Int)).toNat=its.length:=by lia
  rw[this];simp
 refine wpAny_bind (wpAny_updateSeq hx rfl (wpAny_bind (wpAny_letGo (wpAny_pure ⟨.none,rfl,wpAny_pure (h _ n' (Heap.SameBut.update ..) ?_)⟩))) ?_ ?_)
 ·rw[Heap.get?_update_self _ hx (by rw[em];rfl),em,ee]
 ·simp only[List.size_toArray];exact Nat.le_trans (by assumption) (by decide)
 ·have e2:=congrArg List.length ee
  rw[Array.length_toList,List.length_append,List.length_take] at e2
  refine Nat.le_trans (Nat.le_of_eq e2) ?_
  lia
end
section
variable {w:World} {A:Around} {E:VP} {s:Shared} {env:Env}
theorem Rd {value slice:PySem.Expr} {pos:Pos} {Q:VP}
  (h:wpAny (MD w) A (eval value env) (λ o s₁=>wpAny (MD w) A (eval slice env) (λ i s₂=>wpAny (MD w) A (getitemInPython o) (λ b s₃=>b=false∧wpAny (MD w) A (getItem o i) Q E s₃) E s₂) E s₁) E s)
  (ht:∀ o r,letTemporaryGo value o r=pure ():=by intro _ _;rfl):wpAny (MD w) A (eval (.Subscript value slice pos) env) Q E s:=by
 walk_at "c w A E s env value slice pos Q h ht"
 rw[eval_Subscript]
 refine wpAny_bind (wpAny_mono h ?_ λ _ _ x=>x)
 walk_at " o s₁ h₁"
 refine wpAny_bind (wpAny_holding (wpAny_mono h₁ ?_ λ _ _ x=>x))
 walk_at " i s₂ h₂"
 refine wpAny_bind (wpAny_standAt (wpAny_bind (wpAny_mono h₂ ?_ λ _ _ x=>x)))
 walk_at " b s₃ h₃"
 obtain⟨rfl,h₃⟩:=h₃
 have fin:∀ vs,wpAny (MD w) A (operate vs (getItem o i)) (λ r s₃=>wpAny (MD w) A (letTemporaryGo value o r >>= λ _=>pure r) Q E s₃) E s₃:=λ vs =>
  wpAny_operating (wpAny_mono h₃ (λ r s₃ h₃=>wpAny_bind (wpAny_of_eq (ht o r) (wpAny_pure h₃))) λ _ _ x=>x)
 refine wpAny_bind ?_
 unfold subscripted
 split
 ·exact fin _
 ·rename_i q;cases q
 ·exact fin _
theorem part_none {Q:VP} (h:Q .none s):wpAny (MD w) A (evalPart none env) Q E s:=wpAny_pure h
theorem Os {e:PySem.Expr} {Q:VP} (h:wpAny (MD w) A (eval e env) Q E s):wpAny (MD w) A (evalPart (some e) env) Q E s:=h
theorem Gv {elts:List PySem.Expr} {pos:Pos} {Q:VP}
  (h:wpAny (MD w) A (spliced (backTo pos (starEach elts env))) (λ vs s₁=>wpAny (MD w) A (newList vs) Q E s₁) E s):wpAny (MD w) A (eval (.List elts pos) env) Q E s:=by
 rw[arm_eval_List]
 exact wpAny_bind (wpAny_standAt (wpAny_bind h))
end
section
variable {w:World} {base:Heap} {s₀:Shared} {L:Addr} {m:SV} {news:AO} {s:Shared} {A:Around} {E:VP} {env:Env}
theorem d_newList {vs:List Value} {Q:VP} (D:Cq w base s₀ L m news s) (h:∀ s' a,Cq w base s₀ L m ((a,{cls:=.type "list", data:=.seq vs.toArray})::news) s'→@LE.le Nat _ 317 a→Q (.ref a) s')
  (hsz:vs.length≤1000):wpAny (MD w) A (newList vs) Q E s :=
 wpAny_newObj_type (h _ _ (D.push _ rfl) D.vol.c) (by show vs.toArray.size≤sizeLine;rw[List.size_toArray];exact Nat.le_trans hsz (by decide +kernel))
theorem d_slice {lower upper:Option PySem.Expr} {p:Pos} {Q:VP}
  (h:wpAny (MD w) A (evalPart lower env) (λ l s₁=>wpAny (MD w) A (evalPart upper env) (λ u s₂ =>
   ∃ base s₀ L m news,Cq w base s₀ L m news s₂∧∀ s' a,Cq w base s₀ L m ((a,{cls:=.type "slice", data:=.fields #[l,u,.none]})::news) s'→Q (.ref a) s') E s₁) E s) :
  wpAny (MD w) A (eval (.Slice lower upper none p) env) Q E s:=by
 refine wpAny_Slice (wpAny_mono h (λ l s₁ h₁=>wpAny_mono h₁ (λ u s₂ h₂=>?_) λ _ _ x=>x) λ _ _ x=>x)
 obtain⟨b,z,L,m,news,D,h₂⟩:=h₂
 rw[evalPart_none]
 exact wpAny_pure (h₂ _ _ (D.push _ rfl))
end
theorem Be {c:Prop} [Decidable c] {a b:Prop} (h:¬ c) (hb:b):(if c then a else b):=by rw[if_neg h];exact hb
theorem Bk {c:Prop} [Decidable c] {a b:Prop} (h:c) (ha:a):(if c then a else b):=by rw[if_pos h];exact ha
theorem Ah {h:Heap} {a:Addr} {l u:Value} (e:h.get? a=some {cls:=.type "slice", data:=.fields #[l,u,.none]}):h.IsSliceOf a l u .none:=⟨_,e,rfl,rfl⟩
theorem Jb {h:Heap}:∀ p∈([]:AO),h.get? p.1=some p.2∧@LE.le Nat _ 317 p.1:=λ _ h=>nomatch h
theorem Gc {h:Heap} {a:Addr} {o:Obj} {l:AO} (ha:h.get? a=some o) (h3:@LE.le Nat _ 317 a) (hl:∀ p∈l,h.get? p.1=some p.2∧@LE.le Nat _ 317 p.1):∀ p∈(a,o)::l,h.get? p.1=some p.2∧@LE.le Nat _ 317 p.1:=by
 intro p hp
 rcases List.mem_cons.mp hp with rfl|hp
 ·exact⟨ha,h3⟩
 ·exact hl p hp
theorem Hg {a b c:Addr} (h1:a≠b) (h2:a≠c):a∉[b,c]:=by simp[h1,h2]
theorem Gf {a b:Addr} (h1:a≠b):a∉[b]:=by simp[h1]
theorem s_reset1:∀ (w:World) {A:Around} {s:Shared} {x d b:Addr} {its its2:List Value} {n n2:Nat} {t:Tok} {iv:Value} (G:A5 w s) (R:A3 A 6) (hx:s.heap.get? x=some (A8 d its n)) (hd:s.heap.get? d=some (A9 w.params t iv)) (hb:s.heap.get? b=some {cls:=.type "list", data:=.seq its2.toArray n2}) (hx3:@LE.le Nat _ 317 x) (hd3:@LE.le Nat _ 317 d) (hb3:@LE.le Nat _ 317 b) (hsz:its.length≤1000) (hsz2:its2.length≤1000),
  wpAny (MD w) A (call (.ref 196) [.ref x,.ref b]) (λ r s'=>r=.none∧A4 [x,d] s s'∧∃ n' t',s'.heap.get? x=some (A8 d its2 n')∧s'.heap.get? d=some (A9 w.params t (.int 0 t'))∧t'≠0) no s:=by
 walk_at " w A s x d b its its2 n n2 t iv G R hx hd hb hx3 hd3 hb3 hsz hsz2"
 have hdx:=By hd hx (by (first|(intro h;cases h;done)|simp[A8,A9]|decide +kernel))
 have hb1:=Bz (S:=[x,d]) G hb hb3 (Hg (By hb hx (by (first|(intro h;cases h;done)|simp[A8,A9]|decide +kernel))) (By hb hd (by (first|(intro h;cases h;done)|simp[A8,A9]|decide +kernel))))
 refine Ez (binds:=[("self", .ref x),("startval", .ref b)]) (Lo w) G R (by kernel_rfl) (by kernel_rfl) [(x,A8 d its n),(d,A9 w.params t iv)] (by simp[Ne.symm hdx]) (Gc hx hx3 (Gc hd hd3 Jb)) ?_
 walk_at " L s₁ D"
 refine wpAny_execs_cons ?_
 walk_at "s8"
 refine Be Bool.false_ne_true ?_
 walk_at "s8"
 refine⟨_,_,_,_,_,by assumption,?_⟩
 walk_at " s₂ a D2"
 refine Ic (a:=0) D2.k (D2.at 1 rfl) (D2.at 2 rfl) (Ah (D2.at 0 rfl)) .none .none (D2.old hb1) (by simp[sliceBounds]) (Nat.zero_le _) ?_ hsz hsz2
 walk_at " h' n' hs hg"
 have D3:=D2.setAt 1 (t:=s₂.toks) (Nat.le_refl _) rfl hs hg
 walk_at "s8"
 rename_i s₄ t4 D4 ht4
 refine a_set D4.k (D4.at 1 rfl) (D4.at 2 rfl) ?_
 walk_at " h5 hs5 hg5"
 have D5:=D4.setAt 2 (t:=s₄.toks+2) (Nat.le_add_right ..) rfl hs5 hg5
 walk_at "s8"
 exact⟨rfl,(D5.drop (List.sublist_cons_self ..)).ret,n',_,D5.at 1 rfl,D5.at 2 rfl,ht4⟩
theorem s_reset0:∀ (w:World) {A:Around} {s:Shared} {x d:Addr} {its:List Value} {n:Nat} {t:Tok} {iv:Value} (G:A5 w s) (R:A3 A 6) (hx:s.heap.get? x=some (A8 d its n)) (hd:s.heap.get? d=some (A9 w.params t iv)) (hx3:@LE.le Nat _ 317 x) (hd3:@LE.le Nat _ 317 d) (hsz:its.length≤1000),
  wpAny (MD w) A (call (.ref 196) [.ref x]) (λ r s'=>r=.none∧A4 [x,d] s s'∧∃ n' t',s'.heap.get? x=some (A8 d [] n')∧s'.heap.get? d=some (A9 w.params t (.int 0 t'))∧t'≠0) no s:=by
 walk_at " w A s x d its n t iv G R hx hd hx3 hd3 hsz"
 have hdx:=By hd hx (by (first|(intro h;cases h;done)|simp[A8,A9]|decide +kernel))
 refine Ez (binds:=[("self", .ref x),("startval", .none)]) (Lo w) G R (by kernel_rfl) (by kernel_rfl) [(x,A8 d its n),(d,A9 w.params t iv)] (by simp[Ne.symm hdx]) (Gc hx hx3 (Gc hd hd3 Jb)) ?_
 walk_at " L s₁ D"
 refine wpAny_execs_cons ?_
 walk_at "s8"
 refine Bk rfl ?_
 walk_at "s8"
 refine⟨_,_,_,_,_,by assumption,?_⟩
 walk_at " s₂ a D2"
 refine Ic (a:=0) (its2:=[]) D2.k (D2.at 2 rfl) (D2.at 3 rfl) (Ah (D2.at 0 rfl)) .none .none (D2.at 1 rfl) (by simp[sliceBounds]) (Nat.zero_le _) ?_ hsz (Nat.zero_le _)
 walk_at " h' n' hs hg"
 have D3:=D2.setAt 2 (t:=s₂.toks) (Nat.le_refl _) rfl hs hg
 walk_at "s8"
 rename_i s₄ t4 D4 ht4
 refine a_set D4.k (D4.at 2 rfl) (D4.at 3 rfl) ?_
 walk_at " h5 hs5 hg5"
 have D5:=D4.setAt 3 (t:=s₄.toks+2) (Nat.le_add_right ..) rfl hs5 hg5
 walk_at "s8"
 exact⟨rfl,(D5.drop ((List.sublist_cons_self ..).trans (List.sublist_cons_self ..))).ret,n',_,D5.at 2 rfl,D5.at 3 rfl,ht4⟩
theorem Oh (its:List Value) (i:Nat):slicePick its.toArray (some (i:Int)) none none=(its.drop i).toArray:=by rw[slicePick_from']
theorem R4 (n i:Nat) (h:i≤n):sliceBounds (some (i:Int)) none none n=((i:Int),(n:Int),1):=by
 simp only[sliceBounds,Option.getD_none,show (1:Int) > 0 by decide,if_true,if_neg (show ¬ ((i:Int)<0) by simp_all)]
 congr 1
 lia
theorem Ls:∀ (w:World) {A:Around} {s:Shared} {args:List Value} {x d:Addr} {its:List Value} {n i:Nat} {t ti:Tok} {iv:Value} (G:A5 w s) (R:A3 A 6) (hargs:peek (K w.params) ⟨PySem.Challenge.pw_wv0051_01,w.params⟩ (bindArgs Kd ⟨args,[]⟩)=some ([("self", .ref x),("i", .int (i:Int) ti)]:List (Str×Value))) (hx:s.heap.get? x=some (A8 d its n)) (hd:s.heap.get? d=some (A9 w.params t iv)) (hx3:@LE.le Nat _ 317 x) (hd3:@LE.le Nat _ 317 d) (hsz:its.length≤1000) (hi:i≤its.length),
  wpAny (MD w) A (call (.ref 166) args) (λ r s'=>A4 [x] s s'∧∃ b n',r=.ref b∧@LE.le Nat _ s.heap.objs.size b∧s'.heap.get? x=some (A8 d (its.take i) n')∧s'.heap.get? b=some {cls:=.type "list", data:=.seq (its.drop i).toArray}) no s:=by
 walk_at " w A s args x d its n i t ti iv G R hargs hx hd hx3 hd3 hsz hi"
 have hdx:=By hd hx (by (first|(intro h;cases h;done)|simp[A8,A9]|decide +kernel))
 have hd1:=Bz (S:=[x]) G hd hd3 (Gf hdx)
 refine Ez (binds:=[("self", .ref x),("i", .int i ti)]) (O0 w) G R hargs (by kernel_rfl) [(x,A8 d its n)] (by simp) (Gc hx hx3 Jb) ?_
 walk_at " L s₁ D"
 refine wpAny_execs_cons ?_
 walk_at "s8"
 refine Rd ?_
 walk_at "s8"
 refine⟨_,_,_,_,_,by assumption,?_⟩
 walk_at " s₂ a D2"
 refine Kh D2.k (D2.at 1 rfl) (D2.old hd1) ⟨rfl,?_⟩
 refine Pj D2.k (D2.at 1 rfl) (D2.old hd1) (Ah (D2.at 0 rfl)) (.int _ _) .none ?_ hsz
 rw[Oh]
 have D3:=D2.push {cls:=.type "list", data:=.seq (its.drop i).toArray} rfl
 walk_at "s8"
 refine⟨_,_,_,_,_,by assumption,?_⟩
 walk_at " s₃ c D4"
 refine Ic (a:=i) (its2:=[]) D4.k (D4.at 4 rfl) (D4.old hd1) (Ah (D4.at 0 rfl)) (.int _ _) .none (D4.at 1 rfl) (R4 _ _ (by simpa using hi)) hi ?_ hsz (Nat.zero_le _)
 walk_at " h' n' hs hg"
 have D5:=D4.setAt 4 (t:=s₃.toks) (Nat.le_refl _) rfl hs hg
 walk_at "s8"
 have hn:List.take i its++[]=List.take i its:=List.append_nil _
 refine⟨(D5.drop (List.drop_sublist 4 _)).ret,_,n',rfl,?_,hn ▸ D5.at 4 rfl,D5.at 2 rfl⟩
 have:=D2.fr.above
 rw[Fz] at this
 exact Nat.le_of_lt (Nat.lt_of_le_of_lt this D2.fr.ns.lt)
theorem Rl (w:World) {A:Around} {s:Shared} {x d:Addr} {its:List Value} {n:Nat} {t:Tok} {iv:Value} (G:A5 w s) (R:A3 A 6)
  (hx:s.heap.get? x=some (A8 d its n)) (hd:s.heap.get? d=some (A9 w.params t iv)) (hx3:@LE.le Nat _ 317 x) (hd3:@LE.le Nat _ 317 d) (hsz:its.length≤1000) :
  wpAny (MD w) A (call (.ref 166) [.ref x]) (λ r s'=>A4 [x] s s'∧∃ b n',r=.ref b∧@LE.le Nat _ s.heap.objs.size b∧s'.heap.get? x=some (A8 d [] n')∧s'.heap.get? b=some {cls:=.type "list", data:=.seq its.toArray}) no s:=by
 have h:=Ls w (A:=A) (i:=0) (args:=[.ref x]) (ti:=395) G R (by kernel_rfl) hx hd hx3 hd3 hsz (Nat.zero_le _)
 simpa using h
theorem Rm (w:World) {A:Around} {s:Shared} {x d:Addr} {its:List Value} {n i:Nat} {t ti:Tok} {iv:Value} (G:A5 w s) (R:A3 A 6)
  (hx:s.heap.get? x=some (A8 d its n)) (hd:s.heap.get? d=some (A9 w.params t iv)) (hx3:@LE.le Nat _ 317 x) (hd3:@LE.le Nat _ 317 d) (hsz:its.length≤1000) (hi:i≤its.length) :
  wpAny (MD w) A (call (.ref 166) [.ref x,.int i ti]) (λ r s'=>A4 [x] s s'∧∃ b n',r=.ref b∧@LE.le Nat _ s.heap.objs.size b∧s'.heap.get? x=some (A8 d (its.take i) n')∧s'.heap.get? b=some {cls:=.type "list", data:=.seq (its.drop i).toArray}) no s :=
 Ls w (i:=i) (ti:=ti) G R (by kernel_rfl) hx hd hx3 hd3 hsz hi
section
variable {w:World} {A:Around} {E:VP} {s:Shared} {x d:Addr} {its:List Value} {n:Nat} {t:Tok} {iv:Value}
theorem Lq {id:String} {Q:Fin→Shared→Prop} (X:(K w.params).In s.heap) (hx:s.heap.get? x=some (A8 d its n)) (hd:s.heap.get? d=some (A9 w.params t iv)) (hid:id = "list.__len__" ∨ id = "list.__init__")
  (h:Q (.done (.ret (.ref s.heap.objs.size))) {s with heap:=s.heap.push {cls:=.type "method-wrapper", data:=.fields #[.builtin id,.ref x]}}) :
  wpAny (MD w) A (Builtin.«wrapper_descriptor.__get__» ⟨[.builtin id,.ref x,.ref 214],[]⟩) Q E s:=by
 have L:=J8 X (Gi hx hd)
 unfold Builtin.«wrapper_descriptor.__get__»
 refine wpAny_bind (wpAny_of_eq (a:=(.builtin id,some (.ref x),some (.ref 214))) (by kernel_rfl) ?_)
 dsimp only
 refine wpAny_bind ?_
 rcases hid with rfl|rfl
 ·refine wpAny_bind (wpAny_of_eq (a:=(("__len__" : Str),.type "list")) (by kernel_rfl) ?_)
  dsimp only
  refine wpAny_bind (L.here ?_)
  refine wpAny_pure ?_
  exact wpAny_bind (wpAny_newObj_type (wpAny_pure h) (by show (2:Nat)≤sizeLine+2;exact Nat.le_add_left ..))
 ·refine wpAny_bind (wpAny_of_eq (a:=(("__init__" : Str),.type "list")) (by kernel_rfl) ?_)
  dsimp only
  refine wpAny_bind (L.here ?_)
  refine wpAny_pure ?_
  exact wpAny_bind (wpAny_newObj_type (wpAny_pure h) (by show (2:Nat)≤sizeLine+2;exact Nat.le_add_left ..))
theorem Sh {Q:Fin→Shared→Prop} (X:(K w.params).In s.heap) (hx:s.heap.get? x=some (A8 d its n)) (hd:s.heap.get? d=some (A9 w.params t iv))
  (h:Q (.done (.ret (.ref s.heap.objs.size))) {s with heap:=s.heap.push {cls:=.type "builtin_function_or_method", data:=.fields #[.builtin "list.pop", .ref x]}}) :
  wpAny (MD w) A (Builtin.«method_descriptor.__get__» ⟨[.builtin "list.pop", .ref x,.ref 214],[]⟩) Q E s:=by
 have L:=J8 X (Gi hx hd)
 unfold Builtin.«method_descriptor.__get__»
 refine wpAny_bind (wpAny_of_eq (a:=(.builtin "list.pop", some (.ref x),some (.ref 214))) (by kernel_rfl) ?_)
 dsimp only
 rw[if_neg (by decide +kernel)]
 refine wpAny_bind ?_
 refine wpAny_bind (wpAny_of_eq (a:=(("pop" : Str),.type "list")) (by kernel_rfl) ?_)
 dsimp only
 refine wpAny_bind (L.here ?_)
 refine wpAny_pure ?_
 exact wpAny_bind (wpAny_newObj_type (wpAny_pure h) (by show (2:Nat)≤sizeLine+2;exact Nat.le_add_left ..))
noncomputable abbrev Nm (x:Addr):Obj:={cls:=.type "super", dict:=none,data:=.fields #[.ref 214,.ref x,.ref 214],slots:=#[]}
theorem R3 {so:Addr} {name:Str} {id T ga:String} {tk:Tok} {Q:Fin→Shared→Prop} (X:(K w.params).In s.heap) (hx:s.heap.get? x=some (A8 d its n)) (hd:s.heap.get? d=some (A9 w.params t iv))
  (hso:s.heap.get? so=some (Nm x)) (hf:alongIn (K w.params) name [.type "list", .type "object"]=some (some (.builtin id))) (hT:typeOf (.builtin id)=pure (.type T)) (hg:typeLookup (.type T) "__get__" = pure (some (.builtin ga))) (hn:(name == ("__class__" : Str))=false)
  (h:wpAny (MD w) A (call (.builtin ga) [.builtin id,.ref x,.ref 214]) (λ v s'=>Q (.done (.ret v)) s') E s) :
  wpAny (MD w) A (Builtin.«super.__getattribute__» ⟨[.ref so,.str name tk],[]⟩) Q E s:=by
 walk_at "c w A E s x d its n t iv so name id T ga tk Q X hx hd hso hf hT hg hn h"
 have hno:Looks (MD w) s.heap (opaqueClassAbove (.ref 214)) none:=looks_opaque X (by kernel_rfl)
 have hC:Looks (MD w) s.heap (mroOf (.ref 214)) [.ref 214,.type "list", .type "object"]:=(looks_clsIn X (cd:={name := "_Accumulator", bases:=[.type "list"],mro:=[.ref 214,.type "list", .type "object"],ns:=213,qualname := "_Accumulator", hasDict:=true,slotNames:=[],subclasses:=[],abstract:=false,collection:=none,hasDel:=false}) (by kernel_rfl)).andThen .now
 have hxC:x≠214:=by
  rintro rfl
  have e1:((K w.params).lookup 214).map (·.cls)=some (.type "type"):=by kernel_rfl
  obtain⟨o,ho,e2⟩:=Option.map_eq_some_iff.mp e1
  walk_at "c o"
  rw[X _ _ ho] at hx
  cases hx
  cases e2
 have hne:(Value.ref x == Value.ref 214)=false:=by simp[hxC]
 have hdt:(Nm x).data=.fields #[.ref 214,.ref x,.ref 214]:=rfl
 have f0:(#[.ref 214,.ref x,.ref 214]:Array Value)[0]?=some (.ref 214):=rfl
 have f1:(#[.ref 214,.ref x,.ref 214]:Array Value)[1]?=some (.ref x):=rfl
 have f2:(#[.ref 214,.ref x,.ref 214]:Array Value)[2]?=some (.ref 214):=rfl
 obtain⟨hh,g,dd,tt,os⟩:=s
 walk_at "c hh g dd tt os"
 have hl:(([.ref 214,.type "list", .type "object"]:List Value).dropWhile (· != .ref 214)).drop 1=[.type "list", .type "object"]:=by decide +kernel
 unfold Builtin.«super.__getattribute__»
 repeat (first
  | (with_reducible refine wpAny_field hso hdt f0 ?_)|(with_reducible refine wpAny_field hso hdt f1 ?_)|(with_reducible refine wpAny_field hso hdt f2 ?_)
  | (with_reducible refine ks_wpAny_notOpaque hno ?_)
  | (with_reducible refine Looks.at hC ?_;rw[hl])
  | (refine ks_forIn_along X (λ _ _=>rfl) rfl ?_ hf)
  | (with_reducible refine wpAny_of_eq hT ?_)
  | (with_reducible refine wpAny_of_eq hg ?_)
  | (simp only[hn,hne,Bool.or_false,Bool.false_eq_true,if_false])
  | (with_reducible refine wpAny_mono h ?_ (λ _ _ z=>z))
  | wp_step
  | dsimp only)
 walk_at " v s' q"
 exact wpAny_bind (wpAny_pure (wpAny_pure (wpAny_pure q)))
theorem Jj {so:Addr} {name:Str} {id T ga bt:String} {b:Builtin} {pl:Sem Bool} {Q:Value×List Value→Shared→Prop} (X:(K w.params).In s.heap) (hx:s.heap.get? x=some (A8 d its n)) (hd:s.heap.get? d=some (A9 w.params t iv))
  (hso:s.heap.get? so=some (Nm x)) (hf:alongIn (K w.params) name [.type "list", .type "object"]=some (some (.builtin id))) (hT:typeOf (.builtin id)=pure (.type T)) (hg:typeLookup (.type T) "__get__" = pure (some (.builtin ga))) (hn:(name == ("__class__" : Str))=false)
  (hpl:plainId ga=true) (hen:entryFor table ga=some b) (hck:checkBuiltinCall ga ⟨[.builtin id,.ref x,.ref 214],[]⟩=pure ())
  (hb:∀ {A:Around} {Q':Fin→Shared→Prop},(Q' (.done (.ret (.ref s.heap.objs.size))) {s with heap:=s.heap.push {cls:=.type bt,data:=.fields #[.builtin id,.ref x]},toks:=s.toks+1})→wpAny (MD w) A (b ⟨[.builtin id,.ref x,.ref 214],[]⟩) Q' (λ _ _=>False) {s with toks:=s.toks+1})
  (h:Q (.ref s.heap.objs.size,[]) {s with heap:=s.heap.push {cls:=.type bt,data:=.fields #[.builtin id,.ref x]},toks:=s.toks+1}) :
  wpAny (MD w) A (getMethod (.ref so) name pl) Q E s:=by
 have hlk:=F.ks_slot_super_ga.lookup
 have hcan:=F.ks_canon_super_ga
 obtain⟨hh,g,dd,tt,os⟩:=s
 have hT2:∀ t',(⟨hh,g,dd,t',os⟩:Shared).TypeIs (.ref so) "super" := λ _=>⟨_,hso,rfl⟩
 unfold getMethod
 refine wpAny_bind (wpAny_specialOf (hT2 _) hlk ?_)
 show wpAny _ _ (if (Manifest.canonical "super.__getattribute__" != "object.__getattribute__")=true then _ else _) _ _ _
 rw[if_pos hcan]
 unfold getAttr getAttrBy
 refine wpAny_bind (wpAny_bind (wpAny_mkText (wpAny_holding (wpAny_bind (wpAny_typeOf (hT2 _) (wpAny_bind (wpAny_of_eq hlk ?_)))))))
 show wpAny _ _ (getAttrByItsOwn (.ref so) (.str name tt) (.type "super") (.builtin "super.__getattribute__") true false) _ _ _
 unfold getAttrByItsOwn hookBefore callGetattribute boundAndCalled
 refine wpAny_bind (wpAny_of_eq (show (if onTheHeap (.type "super") then typeLookup (.type "super") "__getattr__" else pure none)=pure none from rfl) ?_)
 refine wpAny_bind (wpAny_attempt (wpAny_holding ?_))
 show wpAny _ _ (bindSpecial (.builtin "super.__getattribute__") (.ref so) >>= _) _ _ _
 refine wpAny_bind (wpAny_of_eq (F.ks_slot_super_ga.bind _) ?_)
 refine wpAny_mono (Q:=λ v s'=>v=.ref hh.objs.size∧s'=⟨hh.push {cls:=.type bt,data:=.fields #[.builtin id,.ref x]},g,dd,tt+1,os⟩) (E:=λ _ _=>False)
  (wpAny_call_entry F.ks_slot_super_ga (hT2 _) F.ks_entry_super_ga ?_ (F.ks_gaArgs_super _ _)) (λ v s' hv=>?_) λ _ _ z=>z.elim
 ·refine R3 (s:=⟨hh,g,dd,tt+1,os⟩) X hx hd hso hf hT hg hn ?_
  refine wpAny_call (codeAny_call_builtin hpl hen (wpAny_of_eq hck ?_))
  exact hb ⟨_,rfl,rfl,rfl⟩
 ·obtain⟨rfl,rfl⟩:=hv
  exact wpAny_pure (wpAny_pure h)
theorem Mw {Q:Unit→Shared→Prop} (X:(K w.params).In s.heap) (hx:s.heap.get? x=some (A8 d its n)) (hd:s.heap.get? d=some (A9 w.params t iv)) (q:Q () s) :
  wpAny (MD w) A (checkBoundCall "list.pop" ⟨[.ref x],[]⟩) Q E s:=by
 walk_at "c w A E s x d its n t iv Q X hx hd q"
 have I:=Gi hx hd
 have hcls:clsIn (K w.params) 214=some {name := "_Accumulator", bases:=[.type "list"],mro:=[.ref 214,.type "list", .type "object"],ns:=213,qualname := "_Accumulator", hasDict:=true,slotNames:=[],subclasses:=[],abstract:=false,collection:=none,hasDel:=false}:=by kernel_rfl
 have m1:Looks (MD w) s.heap (isInstance (.ref x) (.type "module")) false:=I.type.andThen (looks_mroIn X (by kernel_rfl))
 have t1:Looks (MD w) s.heap (typeOf (.ref 214)) (.type "type"):=looks_typeIn X (by kernel_rfl)
 unfold checkBoundCall
 rw[signature?_of (id := "list.pop") (n:=['p','o','p']) (o:=['t','s','i','l']) (by kernel_rfl) F.owner_list]
 rw[show List.lookup (String.ofList (['p','o','p']:List Char).reverse) Manifest.sig_list=some ⟨.positional, "list.pop", "pop", .self,[⟨"index", .posOnly,false⟩]⟩ from by kernel_rfl]
 obtain⟨hh,g,dd,tt,os⟩:=s
 walk_at "c hh g dd tt os"
 rw[show builtinKind "list.pop" = some .method from by decide +kernel]
 dsimp only
 rw[if_neg (by decide +kernel)]
 refine wpAny_bind (m1.at ?_)
 rw[if_neg (by decide +kernel)]
 refine wpAny_bind (ks_wpAny_isType_inst hx (λ c e=>by cases e) ?_)
 simp only[Bool.false_eq_true,if_false]
 refine wpAny_bind (I.type.at ?_)
 refine wpAny_bind ((looks_clsIn X hcls).at (wpAny_bind (t1.at ?_)))
 rw[if_pos (by decide +kernel)]
 exact wpAny_of_eq (a:=()) (by kernel_rfl) q
theorem Jl {q:Addr} {bt id:String} {args:List Value} {b:Builtin} {Q:VP} (hq:s.heap.get? q=some {cls:=.type bt,data:=.fields #[.builtin id,.ref x]}) (hbt:bt = "method-wrapper" ∨ bt = "builtin_function_or_method")
  (hck:∀ {A:Around} {Q':Unit→Shared→Prop} {E':VP},Q' () s→wpAny (MD w) A (checkBoundCall id ⟨.ref x::args,[]⟩) Q' E' s) (hpl:plainId id=true) (hen:entryFor table id=some b)
  (h:wpAny (MD w) A.in1 (b ⟨.ref x::args,[]⟩) (λ fin s'=>∃ v,fin=.done (.ret v)∧Q v s') E s):wpAny (MD w) A (call (.ref q) args) Q E s:=by
 refine wpAny_call (codeAny_of_tree ?_)
 show wpAny _ A.in1 (callAny (.ref q) ⟨args,[]⟩) _ _ _
 unfold callAny
 refine wpAny_bind (wpAny_load hq ?_)
 have e:((Value.type bt == Value.type "method" || Value.type bt == Value.type "builtin_function_or_method") || Value.type bt == Value.type "method-wrapper")=true:=by rcases hbt with rfl|rfl<;>decide +kernel
 have e2:(Value.type bt != Value.type "method")=true:=by rcases hbt with rfl|rfl<;>decide +kernel
 dsimp only
 rw[if_pos e]
 show wpAny _ _ (if (Value.type bt != Value.type "method")=true then _ else _) _ _ _
 rw[if_pos e2]
 refine wpAny_bind (hck (wpAny_pure ⟨plainId_quiet hpl _,codeAny_builtin hen ?_⟩))
 rw[Around.under_plainId hpl]
 refine wpAny_mono h (λ fin s' z=>?_) λ _ _ z=>z
 obtain⟨v,rfl,z⟩:=z
 exact z
end
theorem Jm {w:World} {A:Around} {s:Shared} {f:Addr} {pos:List Value} {kw:List (Str×Value)} {Q:VP} {E:VP} {n:Nat} {fd:FuncData} {body:List Stmt} {binds:List (Str×Value)}
  (d:Ef w f fd body) (G:A5 w s) (R:A3 A (n+1)) (hb:peek (K w.params) ⟨PySem.Challenge.pw_wv0051_01,w.params⟩ (bindArgs fd ⟨pos,kw⟩)=some binds)
  (hloc:(binds.all λ x=>decide (fd.scope.names.lookup x.1=some .local))=true)
  (news:AO) (hnd:(news.map (·.1)).Nodup) (hnw:∀ p∈news,s.heap.get? p.1=some p.2∧@LE.le Nat _ 317 p.1)
  (h:∀ L s₁,Cq w (hide s.heap (news.map (·.1)++[176,183])) s L (λ x=>binds.reverse.lookup x) news s₁ →
   _root_.PySem.wpAt (MD w) (A.deeper (fenv fd f L)) (.func body (fenv fd f L)) (execs body (fenv fd f L)) (λ fl s'=>Q (Ej fl) s') (λ _ _=>False) s₁) :
  wpAny (MD w) A (call (.ref f) pos kw) Q E s:=by
 refine wpAny_call (codeAny_call_function R.depth (G.st.k _ _ d.at_) rfl d.co d.gen d.body (codeRec_of G.st.k d.code) ?_)
 refine Looks.of_peek (M:=MD w) G.st.k hb A.in1 _ _ s (λ _ _ e=>e) ?_
 refine wpAny_newFunctionEnv d.cell (locs hloc) (λ h₁ hns hsb=>⟨G.st.nolimit.fresh _ hsb,?_⟩) d.kind
 refine ks_codeAny_funcAt (ks_wpAt_mono (h s.heap.objs.size _ ?_) (λ fl s' z=>?_) λ _ _ z=>z.elim)
 ·have up:∀ b o,s.heap.get? b=some o→h₁.get? b=some o:=λ b o e=>hsb.extBut b o (Nat.ne_of_lt (Heap.lt_size e)) (Heap.get?_push_of_some _ e)
  refine⟨⟨hns,λ b o e=>up b o (Kq e).1,by rw[Fz];exact Nat.le_refl _⟩,λ p hp=>⟨up _ _ (hnw p hp).1,Nat.ne_of_lt (Heap.lt_size (hnw p hp).1),Fk (List.mem_append_left _ (List.mem_map_of_mem hp))⟩,
   hnd,G.vol.keeps (by rw[hsb.1,Heap.size_push];exact Nat.le_succ _) up,Cx.heap (Nat.le_add_right ..),Nat.lt_of_lt_of_le G.tk (Nat.le_add_right ..),
   G.st.hide λ a ha=>?_,Fk (List.mem_append_right _ (.head _)),Fk (List.mem_append_right _ (.tail _ (.head _))),G.vol.c,λ p hp=>(hnw p hp).2⟩
  rcases List.mem_append.mp ha with q|q
  ·obtain⟨p,hp,rfl⟩:=List.mem_map.mp q;exact .inl (hnw p hp).2
  ·simp at q;rcases q with q|q
   ·exact .inr (.inl q)
   ·exact .inr (.inr (.inl q))
 ·cases fl<;>exact z
theorem Cq.grow {w:World} {base:Heap} {s₀ s:Shared} {L:Addr} {m:SV} {news:AO} (D:Cq w base s₀ L m news s) {h':Heap} {o:Obj} (ho:h'.get? s.heap.objs.size=some o)
  (k:∀ b o,s.heap.get? b=some o→h'.get? b=some o):Cq w base s₀ L m ((s.heap.objs.size,o)::news) {s with heap:=h'}:=by
 obtain⟨oL,es,ep,hL,r⟩:=D.fr.ns
 have hz:@LE.le Nat _ s.heap.objs.size h'.objs.size:=Nat.le_of_lt (Heap.lt_size ho)
 have hne:base.get? s.heap.objs.size=none:=by
  cases z:base.get? s.heap.objs.size with
  | none=>rfl
  | some o=>exact absurd (Heap.lt_size (D.fr.keep _ _ z)) (Nat.lt_irrefl _)
 refine⟨⟨⟨oL,es,ep,k _ _ hL,r⟩,λ b o e=>k b o (D.fr.keep b o e),D.fr.above⟩,λ p hp=>?_,?_,D.vol.keeps hz k,D.calm.trans (Cx.heap (Nat.le_refl _)),D.tk,D.st,D.h1,D.h2,D.hL,?_⟩
 ·rcases List.mem_cons.mp hp with rfl|hp
  ·exact⟨ho,(Nat.ne_of_lt (Heap.lt_size hL)).symm,hne⟩
  ·exact⟨k _ _ (D.nw p hp).1,(D.nw p hp).2⟩
 ·refine List.nodup_cons.mpr ⟨λ q=>?_,D.nd⟩
  obtain⟨⟨b,ob⟩,hp,e⟩:=List.mem_map.mp q
  have:=Heap.lt_size (D.nw.get hp)
  exact absurd e (Nat.ne_of_lt this)
 ·intro p hp
  rcases List.mem_cons.mp hp with rfl|hp
  ·exact D.vol.c
  ·exact D.hn p hp
section
variable {w:World} {base:Heap} {s₀:Shared} {L:Addr} {m:SV} {news:AO} {s:Shared} {A:Around} {E:VP} {x d f cc:Addr} {its:List Value} {n:Nat} {t:Tok} {iv:Value} {fd:FuncData} {body:List Stmt}
noncomputable def Q2 (o:Obj):Bool:=match o.data with
 | .fields vs=>(match (vs[2]?:Option Value) with|some (Value.str f _)=>PySem.Challenge.pw_wv0051_01.main.file == f|_=>false)
 | _=>false
theorem fileIs_of {o:Obj} (h:Q2 o=true):∃ vs f t,o.data=.fields vs∧vs[2]?=some (.str f t)∧(PySem.Challenge.pw_wv0051_01.main.file == f)=true:=by
 unfold Q2 at h
 split at h
 ·rename_i vs e
  split at h
  ·rename_i f t e2;exact⟨vs,f,t,e,e2,h⟩
  ·cases h
 ·cases h
theorem Nz {p0 p1:Pos} {attr:Str} {whole:Sem Value} {Q:VP} (df:Ef w f fd body) (D:Cq w base s₀ L m news s)
  (hx:s.heap.get? x=some (A8 d its n)) (hd:s.heap.get? d=some (A9 w.params t iv)) (hv:m "self" = some (.ref x))
  (h:∀ s' a,Cq w base s₀ L m ((a,Nm x)::news) s'→(∀ b o,s.heap.get? b=some o→s'.heap.get? b=some o)→Q (.ref a) s')
  (hks:(fenv fd f L).kindOf "super" = some .globalImplicit) (hkc:(fenv fd f L).kindOf "__class__" = some .free) (hself:(fenv fd f L).kindOf "self" = some .local) (hat:(attr == ("__class__" : Str))=false)
  (hp:((fd.params.posonlyargs++fd.params.args).head?).map (·.arg)=some "self") (hco:fd.code=.ref cc) (hcc:((K w.params).lookup cc).map Q2=some true)
  (hcl:fd.closure=[(("__class__" : Str),138)]) (hg:fd.globals=3) (hbn:fd.builtins=0) :
  _root_.PySem.wpAt (MD w) A (.func body (fenv fd f L)) (attributeBase (.Call (.Name "super" p0) [] [] p1) attr (fenv fd f L) whole) Q E s:=by
 have X:=D.k
 obtain⟨ar,har,hae⟩:=Option.map_eq_some_iff.mp hp
 have e1:((K w.params).lookup 214).map (λ o=>match o.data with|.cls _=>true|_=>false)=some true:=by kernel_rfl
 obtain⟨oD,hoD,e2⟩:=Option.map_eq_some_iff.mp e1
 obtain⟨cdD,hcd⟩:∃ cd,oD.data=.cls cd:=by
  cases q:oD.data<;>rw[q] at e2<;>first|exact⟨_,rfl⟩|cases e2
 obtain⟨oc,hoc,hc2⟩:=Option.map_eq_some_iff.mp hcc
 obtain⟨vs,fl,tf,q1,q2,q3⟩:=fileIs_of hc2
 refine ks_wpAt_super_base (env:=fenv fd f L) hks hkc hat rfl (X _ _ df.at_) rfl har hco (X _ _ hoc) q1 q2 q3 (by kernel_rfl) ?_
 refine ks_loadName_global df.kind hks ?_
 obtain⟨mb,nb,eb⟩:=D.stat.b
 unfold loadGlobal
 rw[show (fenv fd f L).globals=3 from hg,show (fenv fd f L).builtins=0 from hbn]
 refine wpAny_bind ((looks_nsIn X (ns:=3) (name := "super") (r:=none) (by kernel_rfl)).here ?_)
 refine wpAny_bind (wpAny_nsGet nb ?_)
 rw[eb "super" (by decide +kernel)]
 refine wpAny_of_eq (a:=.type "super") (by kernel_rfl) ⟨rfl,?_⟩
 refine wpAny_loadName_free (v:=.ref 214) (c:=138) df.kind hkc (by show fd.closure.lookup _=_;rw[hcl];rfl) ⟨_,X 138 ⟨.type "cell", none,.cell (some (.ref 214)),#[]⟩ (by kernel_rfl),rfl⟩ ?_
 rw[hae]
 refine wpAny_loadName_local df.kind hself D.fr.ns hv ?_
 obtain⟨hh,g,dd,tt,os⟩:=s
 refine ks_wpAny_isType_cls (X _ _ hoD) hcd ⟨rfl,?_⟩
 refine ks_wpAny_call_super (X _ _ hoD) hcd hx rfl (λ c e=>by cases e) (looks_mroIn X (by kernel_rfl)) (λ h' e k=>?_)
 exact h _ _ (D.grow e k) k
end
theorem Iz {w:World} {A:Around} {E:VP} {s:Shared} {env:Env} {c:Code} {o:PySem.Expr} {name:Str} {apos pos:Pos} {Q:VP}
  (h:_root_.PySem.wpAt (MD w) A c (attributeBase o name env (eval o env)) (λ ov s₁=>∀ pl,wpAny (MD w) A (getMethod ov name pl) (λ fp s₂=>wpAny (MD w) A (callWith pos fp.1 fp.2 (backTo pos (starEach [] env)) (backToKw pos (keywordEach [] env))) Q E s₂) E s₁) E s)
  (hline:(apos.endLine == pos.line)=true:=by decide) :
  _root_.PySem.wpAt (MD w) A c (eval (.Call (.Attribute o name apos) [] [] pos) env) Q E s:=by
 rw[arm_eval_Call]
 refine _root_.PySem.wpAt_bind (ks_wpAt_mono h (λ ov s₁ h₁=>_root_.PySem.wpAt_of_wpAny (wpAny_bind (wpAny_standAt ?_))) λ _ _ e=>e)
 have hpos:methodCallPos true o env apos pos=pure pos:=by unfold methodCallPos;simp[hline]
 have hfew:methodCallForm 0 (backTo pos (starEach [] env)) (backToKw pos (keywordEach [] env))=true:=by rfl
 unfold methodCall
 rw[show (([]:List PySem.Expr).length+([]:List PySem.Keyword).length)=0 from rfl,hfew]
 refine wpAny_bind (wpAny_holding ?_)
 show wpAny (MD w) A (getMethod ov name _) _ _ _
 refine wpAny_mono (h₁ _) (λ fp s₂ h₂=>?_) λ _ _ e=>e
 obtain⟨f,first⟩:=fp
 dsimp only
 rw[hpos]
 exact wpAny_bind (wpAny_pure h₂)
noncomputable def Je (v1 v2:Value):Obj:={cls:=.type "tuple", data:=.seq #[v1,v2]}
theorem Ik:∀ (w:World) {A:Around} {s:Shared} {x d:Addr} {its:List Value} {n:Nat} {t:Tok} {iv:Value} (G:A5 w s) (R:A3 A 6) (hx:s.heap.get? x=some (A8 d its n)) (hd:s.heap.get? d=some (A9 w.params t iv)) (hx3:@LE.le Nat _ 317 x) (hd3:@LE.le Nat _ 317 d) (hsz:its.length≤1000),
  wpAny (MD w) A (call (.ref 211) [.ref x]) (λ r s'=>(∃ t',t'≠0∧r=.int its.length t')∧A4 [] s s') no s:=by
 walk_at " w A s x d its n t iv G R hx hd hx3 hd3 hsz"
 have hx1:=Bz (S:=[]) G hx hx3 (by simp)
 have hd1:=Bz (S:=[]) G hd hd3 (by simp)
 refine Jm (binds:=[("self", .ref x)]) (Ih w) G R (by kernel_rfl) (by kernel_rfl) [] List.nodup_nil (λ _ h=>nomatch h) ?_
 walk_at " L s₁ D"
 conv in (execs Gt _)=>arg 1;unfold Gt;whnf
 refine ks_wpAt_execs_cons (ks_wpAt_Return_some (Iz ?_))
 refine Nz (Ih w) D (D.old hx1) (D.old hd1) rfl ?_ (by kernel_rfl) (by kernel_rfl) (by kernel_rfl) (by decide +kernel) (by kernel_rfl) rfl (by kernel_rfl) rfl rfl rfl
 walk_at " s₂ a D2 _ pl"
 refine Jj (id := "list.__len__") (T := "wrapper_descriptor") (ga := "wrapper_descriptor.__get__") (bt := "method-wrapper") D2.k (D2.old hx1) (D2.old hd1) (D2.at 0 rfl) (by kernel_rfl) (by show builtinType _=_;rw[builtinType_eq_fast];kernel_rfl) (by rw[typeLookup_type,builtinLookup_eq_fast];kernel_rfl) (by decide +kernel) (by decide +kernel) (entryFor_of_tree (by kernel_rfl)) (by kernel_rfl) (λ q=>Lq (s:={s₂ with toks:=s₂.toks+1}) D2.k (D2.old hx1) (D2.old hd1) (.inl rfl) q) ?_
 have D3:=(D2.push {cls:=.type "method-wrapper", data:=.fields #[.builtin "list.__len__", .ref x]} rfl).toks 1
 refine Ha ⟨Ks (D3.at 0 rfl) (.inr rfl),?_⟩
 refine Jl (D3.at 0 rfl) (.inl rfl) (λ q=>wpAny_of_eq (a:=()) (by kernel_rfl) q) (by decide +kernel) F.entry_list_len ?_
 show wpAny _ _ (do retInt (← seqSize x)) _ _ _
 unfold seqSize
 refine wpAny_bind (wpAny_bind (wpAny_loadPart (D3.old hx1) (wpAny_pure ?_)))
 unfold retInt
 refine wpAny_bind (wpAny_mkInt (wpAny_pure ⟨_,rfl,⟨_,Nat.ne_of_gt D3.tk,by simp only[List.size_toArray];rfl⟩,?_⟩))
 exact (((D3.toks 1).drop (news':=[]) (List.nil_sublist _))).ret
theorem at_nil {w:World} {A:Around} {E:VP} {s:Shared} {env:Env} {c:Code} {Q:FP} (h:Q .next s):_root_.PySem.wpAt (MD w) A c (execs [] env) Q E s:=_root_.PySem.wpAt_of_wpAny (wpAny_execs_nil h)
theorem s_pop:∀ (w:World) {A:Around} {s:Shared} {x d:Addr} {its:List Value} {n:Nat} {t:Tok} {iv last:Value} (G:A5 w s) (R:A3 A 7) (hx:s.heap.get? x=some (A8 d (its++[last]) n)) (hd:s.heap.get? d=some (A9 w.params t iv)) (hx3:@LE.le Nat _ 317 x) (hd3:@LE.le Nat _ 317 d) (hsz:its.length≤500),
  wpAny (MD w) A (call (.ref 174) [.ref x]) (λ r s'=>r=last∧A4 [x] s s'∧∃ n',s'.heap.get? x=some (A8 d its n')) no s:=by
 walk_at " w A s x d its n t iv last G R hx hd hx3 hd3 hsz"
 have hd1:=Bz (S:=[x]) G hd hd3 (Gf (By hd hx (by (first|(intro h;cases h;done)|simp[A8,A9]|decide +kernel))))
 refine Jm (binds:=[("self", .ref x)]) (Kl w) G R (by kernel_rfl) (by kernel_rfl) [(x,A8 d (its++[last]) n)] (by simp) (Gc hx hx3 Jb) ?_
 walk_at " L s₁ D"
 conv in (execs Id _)=>arg 1;unfold Id;whnf
 refine ks_wpAt_execs_cons (ks_wpAt_If (_root_.PySem.wpAt_of_wpAny ?_))
 walk_at "s8"
 refine Ak ?_
 walk_at "s8"
 walk_at " pl"
 refine Kg (.ref 211) (.type "function") D.k (D.at 0 rfl) (D.old hd1) (by kernel_rfl) (by kernel_rfl) (by decide +kernel) (by kernel_rfl) ?_
 refine Ha ⟨Cr D.k (by kernel_rfl),?_⟩
 refine wpAny_mono (Ik w D.good (R.deeper _) (D.at 0 rfl) (D.old hd1) hx3 hd3 (by simp;exact Nat.le_trans (by assumption) (by decide))) ?_ λ _ _ e=>e.elim
 walk_at " r s₂ h₂"
 obtain⟨⟨t',ht',rfl⟩,st2⟩:=h₂
 walk_at "c t'"
 have D2:=D.step st2
 walk_at "s8"
 refine Be ?_ ?_
 ·simp;grind
 refine at_nil (ks_wpAt_execs_cons (ks_wpAt_Return_some (Iz ?_)))
 rename_i _ _ D2 _
 refine Nz (Kl w) D2 (D2.at 0 rfl) (D2.old hd1) rfl ?_ (by kernel_rfl) (by kernel_rfl) (by kernel_rfl) (by decide +kernel) (by kernel_rfl) rfl (by kernel_rfl) rfl rfl rfl
 walk_at " s₃ a D3 _ pl"
 refine Jj (id := "list.pop") (T := "method_descriptor") (ga := "method_descriptor.__get__") (bt := "builtin_function_or_method") D3.k (D3.at 1 rfl) (D3.old hd1) (D3.at 0 rfl) (by kernel_rfl) F.type_list_pop (by rw[typeLookup_type,builtinLookup_eq_fast];kernel_rfl) (by decide +kernel) (by decide +kernel) (entryFor_of_tree (by kernel_rfl)) (by kernel_rfl) (λ q=>Sh (s:={s₃ with toks:=s₃.toks+1}) D3.k (D3.at 1 rfl) (D3.old hd1) q) ?_
 have D4:=(D3.push {cls:=.type "builtin_function_or_method", data:=.fields #[.builtin "list.pop", .ref x]} rfl).toks 1
 refine Ha ⟨Ks (D4.at 0 rfl) (.inl rfl),?_⟩
 refine Jl (D4.at 0 rfl) (.inr rfl) (λ q=>Mw D4.k (D4.at 2 rfl) (D4.old hd1) q) (by decide +kernel) F.entry_list_pop ?_
 unfold Builtin.«list.pop»
 refine wpAny_bind (wpAny_of_eq (a:=(.ref x,[])) (by kernel_rfl) ?_)
 dsimp only
 refine wpAny_bind (wpAny_pure ?_)
 rw[if_neg (by decide +kernel)]
 refine wpAny_bind ?_
 unfold Builtin.List.listItems
 refine wpAny_bind (wpAny_seqItems (D4.at 2 rfl) rfl (wpAny_pure ?_))
 rw[if_neg (by simp)]
 have hz:(its++[last]).toArray.size=its.length+1:=by simp
 have hk:(seqIndex? (-1) (its++[last]).toArray.size).bind (λ k=>(its++[last]).toArray[k]?.map (k,·))=some (its.length,last):=by
  rw[hz]
  have:seqIndex? (-1) (its.length+1)=some its.length:=by
   unfold seqIndex?
   have h1:((-1:Int)<0):=by decide
   simp only[h1,if_true]
   have h2:(-1:Int)+((its.length+1:Nat):Int)=(its.length:Int):=by simp_all +arith
   rw[h2]
   have h3:(decide (0≤(its.length:Int)) && decide ((its.length:Int)<((its.length+1:Nat):Int)))=true:=by
    simp only[Bool.and_eq_true,decide_eq_true_eq];simp_all +arith
   rw[if_pos h3];simp
  rw[this];simp
 rw[hk]
 dsimp only
 obtain⟨n',em⟩:=Jw (λ xs=>xs.eraseIdxIfInBounds its.length) d (its++[last]) n
 walk_at "c n'"
 have ee:((its++[last]).toArray.eraseIdxIfInBounds its.length).toList=its:=by
  have:=kl_erase its [] last
  rw[List.append_nil] at this
  rw[this]
 rw[ee] at em
 refine wpAny_bind (wpAny_updateSeq (D4.at 2 rfl) rfl (wpAny_pure ⟨_,rfl,rfl,?_⟩) ?_ ?_)
 ·have D5:=D4.upd 2 (f:=Obj.mapSeq λ xs=>xs.eraseIdxIfInBounds its.length) rfl (by rw[em];rfl)
  rw[em] at D5
  exact⟨((D5.drop (List.drop_sublist 2 _))).ret,n',D5.at 2 rfl⟩
 ·rw[hz];exact Nat.le_trans (Nat.succ_le_succ hsz) (by decide +kernel)
 ·have e2:=congrArg List.length ee
  rw[Array.length_toList] at e2
  rw[e2];exact Nat.le_trans hsz (by decide +kernel)
noncomputable def Gg (h:Heap) (x:Addr) (items:Array Value):Prop:=∃ o n,h.get? x=some o∧o.data=.seq items n
theorem Gg.at {h h':Heap} {x:Addr} {items:Array Value} (q:Gg h x items) (k:∀ o,h.get? x=some o→h'.get? x=some o):Gg h' x items:=q.elim λ o qq=>qq.elim λ n qq=>qq.elim λ a b=>⟨o,n,k o a,b⟩
theorem Gg.extBut {h h':Heap} {x a:Addr} {items:Array Value} (q:Gg h x items) (hs:Heap.ExtBut a h h') (hab:x≠a):Gg h' x items:=q.at λ o e=>hs _ o hab e
section
variable {prog:Program} {w:World} {A:Around} {E:VP} {s:Shared}
theorem Pg {it l:Addr} {i:Nat} {items} {x:Value} {Q:Option Value→Shared→Prop} (hit:s.heap.IsListIter it l i)
  (hl:Gg s.heap l items) (hx:items[i]?=some x)
  (hQ:∀ h',h'.IsListIter it l (i+1)→Heap.SameBut it s.heap h'→Q (some x) {s with heap:=h'}) :
  wpAny (model prog w) A (pyNext (.ref it)) Q E s:=by
 obtain⟨o,ho,hc,hd⟩:=id hit
 obtain⟨ol,nl,hol,hdl⟩:=hl
 unfold pyNext
 refine wpAny_bind (wpAny_attempt (wpAny_callSpecial?_slot (name:=Str.ofString "__next__") hit.typeIs slot_listiter_next
  (wpAny_call_entry slot_listiter_next hit.typeIs entry_listiter_next ?_ (args_listiter_next _))))
 show wpAny _ _ (field (.ref it) 0 >>= _) _ _ s
 refine wpAny_bind (wpAny_field ho hd (x:=.ref l) rfl ?_)
 show wpAny _ _ (if (Value.ref l == Value.none)=true then _ else _) _ _ s
 rw[if_neg (show ¬ ((Value.ref l == Value.none)=true) from Bool.false_ne_true)]
 show wpAny _ _ (field (.ref it) 1 >>= _) _ _ s
 refine wpAny_bind (wpAny_field ho hd (x:=.int i 0) rfl ?_)
 show wpAny _ _ (seqItems? (.ref l) >>= _) _ _ s
 refine wpAny_bind (wpAny_seqItems hol hdl ?_)
 simp only[Int.toNat_natCast,hx]
 refine wpAny_bind (wpAny_setField ho hd (by simp) (wpAny_pure ⟨x,rfl,wpAny_pure (hQ _ ?_ (Heap.SameBut.update ..))⟩))
 exact⟨_,Heap.get?_update_self _ ho (Obj.isFreed_of_fields (Obj.data_mapFields hd _)),(Obj.cls_mapFields ..).trans hc,by
  rw[Obj.data_mapFields hd];simp[rawInt]⟩
theorem Ad {it l:Addr} {i:Nat} {items} {Q:Option Value→Shared→Prop} (hh:A.handled=none)
  (hit:s.heap.IsListIter it l i) (hl:Gg s.heap l items) (hx:items[i]?=none)
  (hQ:∀ h',Heap.ExtBut it s.heap h'→Q none {s with heap:=h'}):wpAny (model prog w) A (pyNext (.ref it)) Q E s:=by
 obtain⟨o,ho,hc,hd⟩:=id hit
 obtain⟨ol,nl,hol,hdl⟩:=hl
 unfold pyNext
 refine wpAny_bind (wpAny_attempt (wpAny_callSpecial?_slot (name:=Str.ofString "__next__") hit.typeIs slot_listiter_next
  (wpAny_call_entry slot_listiter_next hit.typeIs entry_listiter_next ?_ (args_listiter_next _))))
 show wpAny _ _ (field (.ref it) 0 >>= _) _ _ s
 refine wpAny_bind (wpAny_field ho hd (x:=.ref l) rfl ?_)
 show wpAny _ _ (if (Value.ref l == Value.none)=true then _ else _) _ _ s
 rw[if_neg (show ¬ ((Value.ref l == Value.none)=true) from Bool.false_ne_true)]
 show wpAny _ _ (field (.ref it) 1 >>= _) _ _ s
 refine wpAny_bind (wpAny_field ho hd (x:=.int i 0) rfl ?_)
 show wpAny _ _ (seqItems? (.ref l) >>= _) _ _ s
 refine wpAny_bind (wpAny_seqItems hol hdl ?_)
 simp only[Int.toNat_natCast,hx]
 refine wpAny_bind (wpAny_rule (wpAny_bind (wpAny_setField ho hd (by simp) ?_)))
 show wpAny _ _ (newExc (.type "StopIteration") [] >>= _) _ _ _
 refine wpAny_bind ?_
 simp only[newExc,newTuple]
 refine wpAny_bind (wpAny_newObj_type ?_ (by size_fits))
 refine wpAny_bind (m:=firstArgMember _ _) (wpAny_of_eq (a:=Value.none) (by first|rfl|(simp only[firstArgMember];rfl)) ?_)
 refine wpAny_newObj_type ?_ (by size_fits)
 simp only[raiseNew]
 refine wpAny_bind (wpAny_handled ?_)
 rw[show A.in1.handled=none from hh]
 refine wpAny_bind (wpAny_pure (wpAny_throw ?_))
 refine wpAny_bind (wpAny_isInstance (T := "StopIteration") (b:=true) ⟨_,Heap.get?_push_size _ rfl,rfl⟩ isSubtype_stop ?_)
 exact wpAny_pure (hQ _ (((Heap.SameBut.update ..).extBut.push _).push _))
end
theorem T3 {w:World} {A:Around} (hh:A.handled=none) (I ax:Addr) (hne:ax≠I) (items:Array Value) (Ts:Nat→Addr) (vals:Nat→Array Value)
  (hit:∀ j,j<items.size→items[j]?=some (.ref (Ts j))) (hTI:∀ j,j<items.size→Ts j≠I) :
  WalksU PySem.Challenge.pw_wv0051_01 w A I (I::ax::(List.range items.size).map Ts) [I] items.size (λ j v=>v=vals j)
   (λ j h=>h.IsListIter I ax j∧Gg h ax items∧∀ k,k<items.size→h.IsTuple (Ts k) (vals k))
   (λ j T h=>(j<items.size∧T=Ts j)∧h.IsListIter I ax (j+1)∧Gg h ax items∧∀ k,k<items.size→h.IsTuple (Ts k) (vals k)) where
 sub:=λ b hb=>by simp at hb;simp[hb]
 frame:=λ _ _ _ st hk=>⟨st.1.at λ o e=>hk I (by simp) o e,st.2.1.at λ o e=>hk ax (by simp) o e,
  λ k hk'=>(st.2.2 k hk').at λ o e=>hk (Ts k) (List.mem_cons_of_mem _ (List.mem_cons_of_mem _ (List.mem_map.mpr ⟨k,List.mem_range.mpr hk',rfl⟩))) o e⟩
 item:=λ i s Q E hi st hQ=>by
  refine Pg st.1 st.2.1 (x:=.ref (Ts i)) (hit i hi) λ h' hit' hs'=>?_
  have tup:∀ k,k<items.size→h'.IsTuple (Ts k) (vals k):=λ k hk'=>(st.2.2 k hk').extBut hs'.extBut (hTI k hk')
  exact hQ (Ts i) (vals i) h' s.toks rfl (tup i hi) ⟨⟨hi,rfl⟩,hit',st.2.1.extBut hs'.extBut hne,tup⟩ λ b o hb e=>hs'.extBut b o (λ h=>hb (by simp[h])) e
 go:=λ _ _ _ _ _ s Q _ hm hQ=>wpAny_letOwnedTupleGo_listiter hm.2.1 (hQ s.heap hm.2 λ _ _ _ e=>e)
 apart:=λ j T _ hm hmem=>by
  rcases List.mem_cons.mp hmem with e|e
  ·exact hTI j hm.1.1 (hm.1.2 ▸ e)
  ·cases e
 done:=λ s Q E st hQ=>Ad hh st.1 st.2.1 (by simp) λ h' he'=>hQ h' s.toks λ b o hb e=>he' b o (λ h=>hb (by simp[h])) e
 self:=λ _ _ _ _ st hQ=>wpAny_pyIter_listiter st.1 hQ
section
variable {w:World} {A:Around} {E:VP} {s:Shared}
theorem Gz (b0:Int) (val:Nat→Int):∀ n,preSum (λ i=>match i with|0=>b0|k+1=>val k) (n+1)=b0+preSum val n
 | 0=>by simp[preSum]
 | n+1=>by rw[preSum,Gz b0 val n,preSum];show b0+preSum val n+val n=_;simp +arith
theorem L6 {I:Addr} {fp wr:List Addr} {G:Array GenState→Array GenState→Prop} {n:Nat} {P:Nat→Value→Prop} {St:Nat→Shared→Prop} (W:WalksS PySem.Challenge.pw_wv0051_01 w A I fp wr G n P St) (b0:Int) :
  WalksS PySem.Challenge.pw_wv0051_01 w A I fp wr G (n+1) (λ i v=>match i with|0=>v=.int b0 0|k+1=>P k v) (λ i s=>match i with|0=>False|k+1=>St k s) where
 sub:=W.sub
 grefl:=W.grefl
 gtrans:=W.gtrans
 frame:=λ i s h' tk st ht hk=>by
  cases i with
  | zero=>exact st.elim
  | succ k=>exact W.frame k s h' tk st ht hk
 item:=λ i s Q E hi st hQ=>by
  cases i with
  | zero=>exact st.elim
  | succ k=>exact W.item k s Q E (Nat.lt_of_succ_lt_succ hi) st hQ
 done:=λ s Q E st hQ=>W.done s Q E st hQ
 self:=λ i s Q E st hQ=>by
  cases i with
  | zero=>exact st.elim
  | succ k=>exact W.self k s Q E st hQ
theorem sum_from {x:Value} {i0:Int} {t0:Tok} {Q:VP}
  (h:wpAny (MD w) A.in1 (pyIter x) (λ it s₂=>∃ I fp wr G n P St val,it=.ref I∧WalksS PySem.Challenge.pw_wv0051_01 w A.in1 I fp wr G n P St∧St 0 s₂∧(∀ b∈fp,b<s₂.heap.objs.size) ∧
   (∀ i v,P i v→∃ t,v=.int (val i) t) ∧
   ∀ s' t',Moved wr G s₂ s'→Q (.int (i0+preSum val n) t') s') E s) :
  wpAny (MD w) A (call (.builtin "sum") [x,.int i0 t0]) Q E s:=by
 walk_at "c w A E s x i0 t0 Q h"
 refine call_function_tree F.kind_sum F.plain_sum F.entry_sum (by unfold argsOk;kernel_rfl) ?_
 unfold Builtin.«sum»
 simp only[List.length_cons,List.length_nil]
 rw[if_neg (by decide)]
 refine wpAny_bind (wpAny_of_eq (show Builtin.Builtins.bindParams "sum" ["start"] 0 {pos:=[.int i0 t0]}=pure [some (.int i0 t0)] from by kernel_rfl) ?_)
 refine wpAny_bind (wpAny_mono h ?_ λ _ _ e=>e)
 walk_at " it s₂ h₂"
 obtain⟨I,fp,wr,G,n,P,St,val,rfl,W,hst,hfp,hval,hQ⟩:=h₂
 walk_at "c I fp wr G n P St val"
 have hSf:s₂.heap.objs.size∉fp:=λ hm=>Nat.lt_irrefl _ (hfp _ hm)
 have e1:preSum (λ i=>match i with|0=>i0|k+1=>val k) 1=i0:=by rw[Gz];simp[preSum]
 dsimp only
 split
 ·refine wpAny_bind (wpAny_rule (wpAny_bind (wpAny_mkInt ?_)))
  refine wpAny_bind (wpAny_pure ?_)
  dsimp only
  simp only[List.forIn_cons,List.forIn_nil]
  refine wpAny_bind (wpAny_bind (wpAny_bind (wpAny_isInstance (T := "int") (b:=false) (typeIs_int _ _ _) _root_.PySem.sub_int_str ?_)))
  simp only[Bool.false_eq_true,if_false]
  refine wpAny_pure (wpAny_bind (wpAny_bind (wpAny_isInstance (T := "int") (b:=false) (typeIs_int _ _ _) _root_.PySem.sub_int_bytes ?_)))
  simp only[Bool.false_eq_true,if_false]
  refine wpAny_pure (wpAny_bind (wpAny_bind (wpAny_isInstance (T := "int") (b:=false) (typeIs_int _ _ _) _root_.PySem.sub_int_bytearray ?_)))
  simp only[Bool.false_eq_true,if_false]
  refine wpAny_pure (wpAny_pure ?_)
  refine wpAny_bind (wpAny_newObj_type ?_)
  refine wpAny_pure ⟨plainId_quiet F.plain_sum_loop _,codeAny_sum_loopAnyS (L6 W i0) (λ i=>match i with|0=>i0|k+1=>val k) (λ i v hv=>by cases i with|zero=>exact⟨0,hv⟩|succ k=>exact hval k v hv) s₂.heap.objs.size hSf n 1 _ _ 0 0 (.inl rfl) (Nat.add_sub_cancel ..) (Nat.le_add_left ..)
   (W.frame 0 s₂ _ _ hst (Nat.le_succ _) λ b _ o e=>Heap.get?_push_of_some _ e) (by rw[e1];exact Heap.get?_push_size _ rfl) λ s' t' hm=>?_⟩
  rw[Gz]
  exact hQ s' t' (hm.drop_new (Nat.le_succ _))
 ·refine wpAny_bind (wpAny_pure ?_)
  dsimp only
  simp only[List.forIn_cons,List.forIn_nil]
  refine wpAny_bind (wpAny_bind (wpAny_bind (wpAny_isInstance (T := "int") (b:=false) (typeIs_int _ _ _) _root_.PySem.sub_int_str ?_)))
  simp only[Bool.false_eq_true,if_false]
  refine wpAny_pure (wpAny_bind (wpAny_bind (wpAny_isInstance (T := "int") (b:=false) (typeIs_int _ _ _) _root_.PySem.sub_int_bytes ?_)))
  simp only[Bool.false_eq_true,if_false]
  refine wpAny_pure (wpAny_bind (wpAny_bind (wpAny_isInstance (T := "int") (b:=false) (typeIs_int _ _ _) _root_.PySem.sub_int_bytearray ?_)))
  simp only[Bool.false_eq_true,if_false]
  refine wpAny_pure (wpAny_pure ?_)
  refine wpAny_bind (wpAny_newObj_type ?_)
  refine wpAny_pure ⟨plainId_quiet F.plain_sum_loop _,codeAny_sum_loopAnyS (L6 W i0) (λ i=>match i with|0=>i0|k+1=>val k) (λ i v hv=>by cases i with|zero=>exact⟨0,hv⟩|succ k=>exact hval k v hv) s₂.heap.objs.size hSf n 1 _ _ 0 2 (.inr rfl) (Nat.add_sub_cancel ..) (Nat.le_add_left ..)
   (W.frame 0 s₂ _ _ hst (Nat.le_refl _) λ b _ o e=>Heap.get?_push_of_some _ e) (by rw[e1];exact Heap.get?_push_size _ rfl) λ s' t' hm=>?_⟩
  rw[Gz]
  exact hQ s' t' (hm.drop_new (Nat.le_refl _))
end
theorem Fl.low {w:World} {h h':Heap} (x:Fl w h) (hk:∀ b o,@LT.lt Nat _ b 317→b≠176→b≠183→h.get? b=some o→h'.get? b=some o):Fl w h':=by
 refine⟨λ a o e=>?_,?_⟩
 ·have l:=K_low e
  exact hk a o l.1 l.2.1 l.2.2.1 (x.k a o e)
 ·obtain⟨mb,⟨o,es,ep,ho,r⟩,e⟩:=x.b
  exact⟨mb,⟨o,es,ep,hk builtinsNs o (by decide) (by decide) (by decide) ho,r⟩,e⟩
structure A0 where
 a:Addr
 b:Str
 tb:Tok
 p:Str
 tp:Tok
noncomputable def A0.obj (q:A0):Obj:=Je (.str q.b q.tb) (.str q.p q.tp)
noncomputable def A0.len (q:A0):Int:=(q.b.length:Int)+(q.p.length:Int)
structure A2 (P:Params) (h:Heap) (x d:Addr) (init:Int) (ps:List A0):Prop where
 ox:∃ n,h.get? x=some (A8 d (ps.map λ q=>.ref q.a) n)
 od:∃ t ti,h.get? d=some (A9 P t (.int init ti))∧ti≠0
 tup:∀ q∈ps,h.get? q.a=some q.obj∧@LE.le Nat _ 317 q.a∧q.b.length≤1000∧q.p.length≤1000
 x3:@LE.le Nat _ 317 x
 d3:@LE.le Nat _ 317 d
 few:ps.length≤200
theorem A2.keeps {P:Params} {h h':Heap} {x d:Addr} {init:Int} {ps:List A0} (q:A2 P h x d init ps) (hk:∀ b o,@LE.le Nat _ 317 b→h.get? b=some o→h'.get? b=some o):A2 P h' x d init ps :=
 ⟨q.ox.elim λ n e=>⟨n,hk _ _ q.x3 e⟩,q.od.elim λ t qq=>qq.elim λ ti qq=>qq.elim λ e z=>⟨t,ti,hk _ _ q.d3 e,z⟩,λ y hy=>(q.tup y hy).elim λ e z=>⟨hk _ _ z.1 e,z⟩,q.x3,q.d3,q.few⟩
theorem A2.step {P:Params} {s s':Shared} {x d:Addr} {init:Int} {ps:List A0} (q:A2 P s.heap x d init ps) (st:A4 [] s s'):A2 P s'.heap x d init ps :=
 q.keeps λ b o h3 e=>st.keep b o (λ h=>nomatch h) (Av h3 176 (by decide)) (Av h3 183 (by decide)) e
theorem A2.base {w:World} {s:Shared} {x d:Addr} {init:Int} {ps:List A0} (q:A2 w.params s.heap x d init ps) (G:A5 w s):A2 w.params (hide s.heap ([]++[176,183])) x d init ps :=
 q.keeps λ _ _ h3 e=>Bz (S:=[]) G e h3 (λ h=>nomatch h)
theorem A2.old {w:World} {base:Heap} {s₀ s:Shared} {L:Addr} {m:SV} {news:AO} {x d:Addr} {init:Int} {ps:List A0} (q:A2 w.params base x d init ps) (D:Cq w base s₀ L m news s):A2 w.params s.heap x d init ps :=
 q.keeps λ _ _ _ e=>D.old e
section
variable {w:World} {A:Around} {E:VP} {s:Shared} {x d:Addr} {its:List Value} {n:Nat} {t:Tok} {iv:Value}
theorem acc_iter {Q:VP} (X:(K w.params).In s.heap) (hx:s.heap.get? x=some (A8 d its n)) (hd:s.heap.get? d=some (A9 w.params t iv))
  (h:Q (.ref s.heap.objs.size) {s with heap:=s.heap.push {cls:=.type "list_iterator", data:=.fields #[.ref x,.int 0 0]}}):wpAny (MD w) A (pyIter (.ref x)) Q E s:=by
 walk_at "c w A E s x d its n t iv Q X hx hd h"
 have sp:=Hc X hx hd (name := "__iter__") (r:=some (.builtin "list.__iter__")) (by kernel_rfl)
 have hcall:wpAny (MD w) A (call (.builtin "list.__iter__") [.ref x]) (λ v s'=>v=.ref s.heap.objs.size∧s'={s with heap:=s.heap.push {cls:=.type "list_iterator", data:=.fields #[.ref x,.int 0 0]}}) E s:=by
  refine Ib (nm := "__iter__") X hx hd (.inl (by decide +kernel)) (by decide +kernel) F.slot_list_iter.plain F.entry_list_iter (F.args_list_iter_1 _) ?_
  show wpAny _ _ (do ret (← newFields "list_iterator" [.ref x,rawInt 0])) _ _ s
  exact wpAny_bind (wpAny_newObj_type (wpAny_pure ⟨_,rfl,rfl,rfl⟩))
 unfold pyIter
 refine wpAny_bind (sp.here ?_)
 show wpAny _ _ (callSpecialIfBoundUnlessNone? (.ref x) "__iter__" _ >>= _) Q E s
 refine wpAny_bind ?_
 unfold callSpecialIfBoundUnlessNone? bindSpecialIfBound?
 refine wpAny_holding (wpAny_bind (wpAny_bind (sp.here ?_)))
 refine wpAny_bind (wpAny_askSetting ?_)
 have fin:wpAny (MD w) A (call (.builtin "list.__iter__") [.ref x]) (λ it s'=>wpAny (MD w) A (do match ← specialOf it "__next__" with|none=>(do rule "iter.non-iterator"; raiseError "TypeError" s!"iter() returned non-iterator of type '{← typeNameOf it}'")|some _=>pure it) Q E s') E s:=by
  refine wpAny_mono hcall ?_ λ _ _ z=>z
  walk_at " it s' z"
  obtain⟨rfl,rfl⟩:=z
  exact wpAny_bind (wpAny_specialOf (T := "list_iterator") ⟨_,Heap.get?_push_size _ rfl,rfl⟩ slot_listiter_next.lookup (wpAny_pure h))
 split
 ·refine wpAny_bind ?_
  rw[F.slot_list_iter.bind]
  refine wpAny_pure (wpAny_pure ?_)
  dsimp only
  rw[if_neg (by decide +kernel)]
  exact wpAny_bind (wpAny_mono fin (λ _ _ z=>wpAny_pure z) λ _ _ z=>z)
 ·refine wpAny_tryCatch (wpAny_bind ?_)
  rw[F.slot_list_iter.bind]
  refine wpAny_pure (wpAny_pure ?_)
  dsimp only
  rw[if_neg (by decide +kernel)]
  exact wpAny_bind (wpAny_mono fin (λ _ _ z=>wpAny_pure z) λ _ _ z=>z)
end
structure GenW (w:World) (A:Around) (s:Shared) (a:Addr) (n:Nat) (F:Nat→Value→Prop) (s₅:Shared):Prop where
 ex:∃ fp wr St,WalksS PySem.Challenge.pw_wv0051_01 w A.in4 a fp wr (GenOnlyQ s.gens.size) n F St∧St 0 s₅∧(∀ i s',St i s'→s'.TypeIs (.ref a) "generator")∧a∈fp∧(∀ b∈fp,b<s₅.heap.objs.size) ∧
  ∀ s',Moved wr (GenOnlyQ s.gens.size) s₅ s'→A4 [] s s'
theorem Q7 {M:Model} {A:Around} {E:VP} {s:Shared} {env:Env} {c P:Addr} {ps:Array Value} {pos:Pos} {qualname:Str} {scope:Scope} {Q:VP} (hc:env.code=.ref c) (hok:I9 s.heap c P ps)
  (hQ:∀ code h' tk ps',Heap.ExtBut P s.heap h'→I9 h' c P ps'→Q code {s with heap:=h',toks:=tk}):wpAny M A (genexprCode env pos qualname scope) Q E s:=by
 cases q:codeAmong pos ps.toList with
 | some c'=>exact wpAny_genexprCode_hit hc hok.1 q (hQ c' s.heap s.toks ps (λ _ _ _ e=>e) hok)
 | none=>exact wpAny_genexprCodeX hc hok.1 hok.2 q λ c' h' tk hx _ _ hi _ ht _=>hQ _ h' tk _ hx ⟨hi,ht⟩
theorem Sq {s s₅ s':Shared} {wr:List Addr} {gs:GenState} {a:Addr} {oa:Obj} (V:Fh s.heap) (hk5:∀ b o,b≠176→b≠183→s.heap.get? b=some o→s₅.heap.get? b=some o) (v5:Fh s₅.heap)
  (hg:s₅.gens=s.gens.push gs) (hb:gs.bare=true) (hos:s₅.os=s.os) (ht:s.toks≤s₅.toks) (hm:Moved wr (GenOnlyQ s.gens.size) s₅ s') (hwr:∀ b∈wr,@LE.le Nat _ s.heap.objs.size b)
  (ha:s₅.heap.get? a=some oa) (haw:a∉wr) (hle:@LE.le Nat _ s.heap.objs.size a):A4 [] s s':=by
 have out:∀ b,@LT.lt Nat _ b s.heap.objs.size→b∉wr:=λ b h hm'=>absurd (hwr b hm') (Nat.not_le.mpr h)
 have hz:@LE.le Nat _ s.heap.objs.size s'.heap.objs.size:=Nat.le_of_lt (Nat.lt_of_le_of_lt hle (Heap.lt_size (hm.heap a oa haw ha)))
 have low:∀ b o,@LT.lt Nat _ b 317→s₅.heap.get? b=some o→s'.heap.get? b=some o:=λ b o h e=>hm.heap b o (out b (Nat.lt_of_lt_of_le h V.c)) e
 refine⟨λ b o _ h1 h2 e=>hm.heap b o (out b (Heap.lt_size e)) (hk5 b o h1 h2 e),hz,⟨?_,?_,Nat.le_trans V.c hz⟩,⟨hm.os.trans hos,?_,?_,?_,Nat.le_trans ht hm.toks⟩⟩
 ·obtain⟨ps,e⟩:=v5.a
  exact⟨ps,e.at2 (λ _ e1=>low _ _ (by decide) e1) (λ _ e2=>low _ _ (by decide) e2)⟩
 ·obtain⟨ps,e⟩:=v5.b
  exact⟨ps,e.at2 (λ _ e1=>low _ _ (by decide) e1) (λ _ e2=>low _ _ (by decide) e2)⟩
 ·rcases hm.gens with e|⟨x,_⟩
  ·rw[e,hg,Array.size_push];exact Nat.le_succ _
  ·have:=x.1;rw[hg,Array.size_push] at this;simp_all +arith
 ·intro i hi
  rcases hm.gens with e|⟨x,_⟩
  ·rw[e,hg,Array.getElem?_push_lt hi];simp[hi]
  ·rw[x.2 i (Nat.ne_of_lt hi),hg,Array.getElem?_push_lt hi];simp[hi]
 ·intro ha
  refine GenOnlyQ.bare hm.gens ?_
  rw[hg]
  intro y hy
  rcases Array.mem_push.mp hy with h|h
  ·exact ha y h
  ·subst h;exact hb
theorem Rp {w:World} {A:Around} {I:Addr} {fp wr:List Addr} {G:Array GenState→Array GenState→Prop} {n:Nat} {P P':Nat→Value→Prop} {St:Nat→Shared→Prop} (W:WalksS PySem.Challenge.pw_wv0051_01 w A I fp wr G n P St) (h:∀ i v,P i v→P' i v) :
  WalksS PySem.Challenge.pw_wv0051_01 w A I fp wr G n P' St where
 sub:=W.sub
 grefl:=W.grefl
 gtrans:=W.gtrans
 frame:=W.frame
 item:=λ i s Q E hi st hQ=>W.item i s Q E hi st λ v s' hP=>hQ v s' (h i v hP)
 done:=W.done
 self:=W.self
theorem Rh:∀ n,passing (λ _=>true) n 0=List.range n:=λ n=>by unfold passing;rw[List.drop_zero];exact List.filter_eq_self.mpr λ _ _=>rfl
theorem Ps {w:World} {h:Heap} (X:(K w.params).In h) {r:Addr}:Looks (MD w) h (builtinsFor 3 r) 0:=by
 unfold builtinsFor
 refine (looks_nsIn X (ns:=3) (name := "__builtins__") (r:=some (.ref 4)) (by kernel_rfl)).andThen ?_
 refine (Looks.ld (part:=none) (X 4 ⟨.type "module", (some 0),.plain,#[]⟩ (by kernel_rfl))).andThen ?_
 exact Looks.of_pure (by kernel_rfl)
section
variable {w:World} {base:Heap} {s₀:Shared} {L:Addr} {m:SV} {news:AO} {s:Shared} {A:Around} {E:VP}
theorem acc_gen {elt:PySem.Expr} {pa pb pt pi:Pos} {kt:Nat} {scope:Scope} {pos:Pos} {fd:FuncData} {f c P x d:Addr} {init:Int} {ps:List A0} {F:Nat→Value→Prop} {Q:VP}
  (D:Cq w base s₀ L m news s) (hself:m "self" = some (.ref x)) (q:A2 w.params s.heap x d init ps) (hh:A.handled=none) (hroom:A.depth<recursionLimit)
  (hcode:fd.code=.ref c) (hcP:(c=180∧P=176)∨(c=187∧P=183)) (hgl:fd.globals=3) 
  (hkf:(fenv fd f L).scope.kind=.function) (hself2:(fenv fd f L).kindOf "self" = some .local)
  (hco:scope.isCoroutine=false) (hclos:closureFor scope (fenv fd f L)=pure []) (hcell:∀ y∈scope.names,y.2≠.cell) (h0:scope.names.lookup (".0" : Str)=some NameKind.local)
  (hxa:scope.names.lookup ("fws" : Str)=some NameKind.local) (hxb:scope.names.lookup ("part" : Str)=some NameKind.local) (hkind:scope.kind=.function)
  (helt:∀ (A':Around) E' C code i y (s₂:Shared) m₂,A'.handled=none→ps[i]?=some y→Fl w s₂.heap→s₂.heap.Ns C m₂→m₂ "fws" = some (.str y.b y.tb)→m₂ "part" = some (.str y.p y.tp) →
   wpAny (MD w) A' (eval elt (genEnv scope [] C code 0 (fenv fd f L))) (λ v s₃=>F i v∧Keeps s₂ s₃) E' s₂)
  (h:∀ a s₅,GenW w A s a ps.length F s₅→A4 [] s s₅→Q (.ref a) s₅) :
  wpAny (MD w) A (eval (.GeneratorExp elt [⟨.Tuple [.Name "fws" pa,.Name "part" pb] kt pt,.Name "self" pi,[],0⟩] scope pos) (fenv fd f L)) Q E s:=by
 refine wpAny_with_toks (Nat.le_refl s.toks) ?_
 refine wpAny_GeneratorExp_walksQT (cl:=[]) hh hco hclos hcell h0 hxa hxb (by decide +kernel) hkind hroom ?_ (by intro _;rfl)
 refine Cc (env:=fenv fd f L) D hself ?_ hkf hself2
 obtain⟨n,hx⟩:=q.ox
 obtain⟨t,ti,hd,_⟩:=q.od
 refine acc_iter D.k hx hd ?_
 have D1:=D.push {cls:=.type "list_iterator", data:=.fields #[.ref x,.int 0 0]} rfl
 have q1:A2 w.params (s.heap.push {cls:=.type "list_iterator", data:=.fields #[.ref x,.int 0 0]}) x d init ps:=q.keeps λ _ _ _ e=>Heap.get?_push_of_some _ e
 refine⟨D1.stat.nolimit,?_⟩
 have hP3:P=176∨P=183:=hcP.imp (·.2) (·.2)
 have hIC:∃ ps',I9 (s.heap.push {cls:=.type "list_iterator", data:=.fields #[.ref x,.int 0 0]}) c P ps':=by
  rcases hcP with ⟨rfl,rfl⟩|⟨rfl,rfl⟩
  ·exact D1.vol.a
  ·exact D1.vol.b
 obtain⟨ps',hic⟩:=hIC
 generalize hS1:({s with heap:=s.heap.push {cls:=.type "list_iterator", data:=.fields #[.ref x,.int 0 0]}}:Shared)=s₁ at *
 have hI1:s₁.heap.get? s.heap.objs.size=some {cls:=.type "list_iterator", data:=.fields #[.ref x,.int 0 0]}:=D1.at 0 rfl
 have hk1:∀ b o,s.heap.get? b=some o→s₁.heap.get? b=some o:=λ b o e=>by rw[← hS1];exact Heap.get?_push_of_some _ e
 have hg1:s₁.gens=s.gens:=by rw[← hS1]
 have ho1:s₁.os=s.os:=by rw[← hS1]
 have hd1:s₁.drawn=s.drawn:=by rw[← hS1]
 have ht1:s₁.toks=s.toks:=by rw[← hS1]
 refine Q7 (c:=c) (P:=P) hcode (by rw[← hS1];exact hic) (λ code h' tk ps2 hx2 hic2=>?_)
 have hPlt:@LT.lt Nat _ P 317:=by rcases hP3 with h|h<;>subst h<;>decide
 have hP1:∀ b o,@LE.le Nat _ 317 b→s₁.heap.get? b=some o→h'.get? b=some o:=λ b o h e=>hx2 b o (Nat.ne_of_gt (Nat.lt_of_lt_of_le hPlt h)) e
 have hI2:=hP1 _ _ D.vol.c hI1
 have hz2:@LT.lt Nat _ s.heap.objs.size h'.objs.size:=Heap.lt_size hI2
 have v1:Fh s₁.heap:=hS1 ▸ D1.vol
 have st1:Fl w s₁.heap:=hS1 ▸ D1.stat
 have st2:Fl w h':=st1.low λ b o _ h1 h2 e=>hx2 b o (by rcases hP3 with h|h<;>subst h<;>assumption) e
 have v2:Fh h':=by
  rcases hcP with ⟨rfl,rfl⟩|⟨rfl,rfl⟩
  ·exact⟨⟨_,hic2⟩,v1.b.elim λ p e=>⟨p,e.extBut hx2 (by decide) (by decide)⟩,Nat.le_of_lt (Nat.lt_of_le_of_lt D.vol.c hz2)⟩
  ·exact⟨v1.a.elim λ p e=>⟨p,e.extBut hx2 (by decide) (by decide)⟩,⟨_,hic2⟩,Nat.le_of_lt (Nat.lt_of_le_of_lt D.vol.c hz2)⟩
 have q2:A2 w.params h' x d init ps:=q.keeps λ b o h3 e=>hP1 b o h3 (hk1 b o e)
 rw[show (fenv fd f L).globals=3 from hgl]
 refine (Ps st2.k).at ?_
 refine letI items:Array Value:=(ps.map λ y=>Value.ref y.a).toArray;?_
 have hsz:items.size=ps.length:=by simp[items]
 refine letI Ts:Nat→Addr:=λ j=>((ps[j]?).map (·.a)).getD 0;?_
 refine letI vals:Nat→Array Value:=λ j=>((ps[j]?).map λ y=>#[.str y.b y.tb,.str y.p y.tp]).getD #[.none,.none];?_
 have hTs:∀ j y,ps[j]?=some y→Ts j=y.a:=λ j y e=>by simp[Ts,e]
 have hvs:∀ j y,ps[j]?=some y→vals j=#[.str y.b y.tb,.str y.p y.tp]:=λ j y e=>by simp[vals,e]
 have hgetp:∀ j,j<items.size→∃ y,ps[j]?=some y∧y∈ps:=λ j hj=>by
  rw[hsz] at hj
  exact⟨ps[j],by simp[hj],List.getElem_mem hj⟩
 have hxI:x≠s.heap.objs.size:=Nat.ne_of_lt (Heap.lt_size hx)
 have hTI:∀ j,j<items.size→Ts j≠s.heap.objs.size:=λ j hj=>by
  obtain⟨y,e,hy⟩:=hgetp j hj
  rw[hTs j y e];exact Nat.ne_of_lt (Heap.lt_size (q.tup y hy).1)
 have htup:∀ k,k<items.size→h'.IsTuple (Ts k) (vals k):=λ k hk=>by
  obtain⟨y,e,hy⟩:=hgetp k hk
  rw[hTs k y e,hvs k y e]
  exact⟨_,(q2.tup y hy).1,rfl,0,rfl⟩
 have hit:∀ j,j<items.size→items[j]?=some (.ref (Ts j)):=λ j hj=>by
  obtain⟨y,e,hy⟩:=hgetp j hj
  rw[hTs j y e];simp[items,e]
 have W:∀ A':Around,A'.handled=none→_:=λ A' hA=>(T3 (w:=w) (A:=A') hA s.heap.objs.size x hxI items Ts vals hit hTI).bound
 obtain⟨n2,hx2'⟩:=q2.ox
 refine⟨s.heap.objs.size,_,_,_,_,_,_,λ _=>true,F,rfl,W,λ i vs hv=>?_,⟨⟨_,hI2,rfl,rfl⟩,⟨_,n2,hx2',rfl⟩,htup⟩,λ b hb=>?_,st2.nolimit,?_,λ href hhref=>⟨?_,?_⟩,?_⟩
 ·rw[hv.2]
  cases e:ps[i]? with
  | none=>exact⟨.none,.none,by simp[vals,e]⟩
  | some y=>exact⟨_,_,hvs i y e⟩
 ·rcases List.mem_cons.mp hb with rfl|hb
  ·exact hz2
  ·rcases List.mem_cons.mp hb with rfl|hb
   ·exact Heap.lt_size hx2'
   ·obtain⟨k,hk,rfl⟩:=List.mem_map.mp hb
    obtain⟨o,e,_⟩:=htup k (List.mem_range.mp hk)
    exact Heap.lt_size e
 ·intro hm
  rw[List.mem_singleton] at hm
  exact absurd hm.symm (Nat.ne_of_gt (Nat.lt_of_lt_of_le (by decide) D.vol.c))
 ·intro A' E' i va vb s₂ m₂ _ _ _ _ _ _
  exact wpAny_pure ⟨rfl,s₂.heap,s₂.toks,rfl,λ _ _ e=>e⟩
 ·intro A' E' i va vb s₂ m₂ hA hP _ hn ha hb hkeep
  obtain⟨y,e,hy⟩:=hgetp i hP.1
  have hv:=hP.2
  rw[hvs i y e] at hv
  obtain⟨rfl,rfl⟩:va=.str y.b y.tb∧vb=.str y.p y.tp:=by simpa using hv
  refine helt A' E' h'.objs.size code i y s₂ m₂ hA e ?_ hn ha hb
  refine st2.low λ b o hlt _ _ eb=>hkeep b (List.mem_range.mpr (Nat.lt_of_lt_of_le hlt v2.c)) ?_ o (hhref b o eb)
  rw[List.mem_singleton]
  exact Nat.ne_of_lt (Nat.lt_of_lt_of_le hlt D.vol.c)
 ·intro a h₅ tk5 gs hgb hag hsz5 hk5 W5 hat htk
  subst hS1
  rw[Rh] at W5
  rw[hsz] at W5 hat
  simp only[List.length_range] at W5
  obtain⟨oa,hoa⟩:∃ o,h₅.get? a=some o:=by
   obtain⟨⟨o,_,_,ho,_⟩,_⟩:=id hat
   exact⟨o,ho⟩
  have v5:Fh h₅:=v2.keeps (by rw[hsz5];exact Nat.le_of_lt (Nat.lt_succ_of_lt hag)) hk5
  have hkk:∀ b o,b≠176→b≠183→s.heap.get? b=some o→h₅.get? b=some o:=λ b o h1 h2 e=>hk5 b o (hx2 b o (by rcases hP3 with h|h<;>subst h<;>assumption) (hk1 b o e))
  have haI:@LT.lt Nat _ s.heap.objs.size a:=Nat.lt_trans hz2 hag
  have hwr:∀ b∈[h'.objs.size,s.heap.objs.size],@LE.le Nat _ s.heap.objs.size b:=λ b hb=>by
   rcases List.mem_cons.mp hb with rfl|hb
   ·exact Nat.le_of_lt hz2
   ·rw[List.mem_singleton.mp hb];exact Nat.le_refl _
  have haw:a∉[h'.objs.size,s.heap.objs.size]:=λ hb=>by
   rcases List.mem_cons.mp hb with e|hb
   ·exact absurd e (Nat.ne_of_gt hag)
   ·exact absurd (List.mem_singleton.mp hb) (Nat.ne_of_gt haI)
  have mv:∀ s',Moved [h'.objs.size,s.heap.objs.size] (GenOnlyQ s.gens.size) {s with heap:=h₅,gens:=s.gens.push gs,toks:=tk5} s'→A4 [] s s':=λ s' hm =>
   Sq (s₅:={s with heap:=h₅,gens:=s.gens.push gs,toks:=tk5}) D.vol hkk v5 rfl hgb rfl htk hm hwr hoa haw (Nat.le_of_lt haI)
  refine h a _ ⟨_,_,_,Rp W5 (λ j v hv=>?_),hat,λ i s' st=>st.1.typeIs,List.mem_cons_self,λ b hb=>?_,mv⟩ (mv _ (Moved.refl λ _=>.inl rfl))
  ·obtain⟨i,e,hF⟩:=hv
   have:i=j:=by
    have:=List.getElem?_eq_some_iff.mp e
    obtain⟨_,e⟩:=this
    simpa using e.symm
   subst this;exact hF
  ·show b<h₅.objs.size
   rw[hsz5]
   rcases List.mem_cons.mp hb with rfl|hb
   ·exact Nat.lt_succ_self _
   ·rcases List.mem_cons.mp hb with rfl|hb
    ·exact Nat.lt_succ_of_lt hag
    ·exact Nat.lt_succ_of_lt (Nat.lt_trans (List.mem_range.mp hb) hag)
end
section
variable {w:World} {s:Shared} {A:Around} {E:VP} {env:Env} {m:SV}
theorem Lf {x:Str} {pos:Pos} {v:Value} {Q:VP} (hn:s.heap.Ns env.locals m) (hv:m x=some v) (h:Q v s)
  (hk:env.scope.kind=.function:=by kernel_rfl) (hl:env.kindOf x=some .local:=by kernel_rfl) (hd:(x == ("__debug__" : Str))=false:=by decide +kernel) :
  wpAny (MD w) A (eval (.Name x pos) env) Q E s:=wpAny_Name (wpAny_loadName_local hk hl hn hv h) hd
theorem Iv {x:Str} {pos:Pos} (v:Value) {Q:VP} (D:Fl w s.heap) (e:nsIn (K w.params) 3 x=some none) (hv:bootBuiltins x=some v) (h:Q v s)
  (hn:x ≠ "__name__" := by decide +kernel) (hg:env.globals=3:=by rfl) (hb:env.builtins=0:=by rfl)
  (hk:env.scope.kind=.function:=by kernel_rfl) (hl:env.kindOf x=some .globalImplicit:=by kernel_rfl) (hd:(x == ("__debug__" : Str))=false:=by decide +kernel) :
  wpAny (MD w) A (eval (.Name x pos) env) Q E s:=by
 refine Calls.Name_function_global hk hl ?_ hd
 obtain⟨mb,nb,eb⟩:=D.b
 unfold loadGlobal
 rw[hg,hb]
 refine wpAny_bind ((looks_nsIn D.k e).here ?_)
 refine wpAny_bind (wpAny_nsGet nb ?_)
 rw[eb x hn,hv]
 exact wpAny_pure h
theorem Q5 {x:Str} {pos:Pos} (v:Value) {Q:VP} (D:Fl w s.heap) (e:nsIn (K w.params) 3 x=some (some v)) (h:Q v s)
  (hg:env.globals=3:=by rfl)
  (hk:env.scope.kind=.function:=by kernel_rfl) (hl:env.kindOf x=some .globalImplicit:=by kernel_rfl) (hd:(x == ("__debug__" : Str))=false:=by decide +kernel) :
  wpAny (MD w) A (eval (.Name x pos) env) Q E s:=by
 refine Calls.Name_function_global hk hl ?_ hd
 unfold loadGlobal
 rw[hg]
 refine wpAny_bind ((looks_nsIn D.k e).here ?_)
 exact wpAny_pure h
theorem Mf {b:Str} {t:Tok} {Q:VP} (hb:b.length≤100000) (h:Q (.int b.length (s.toks+1)) {s with toks:=s.toks+1+1}):wpAny (MD w) A (call (.builtin "len") [.str b t]) Q E s :=
 PySem.P.len_str (by lia) h
end
theorem Ri (l:List Int) (v:Nat→Int) (hv:∀ i z,l[i]?=some z→v i=z):preSum v l.length=l.sum:=by
 have key:∀ k,k≤l.length→preSum v k=(l.take k).sum:=by
  intro k
  induction k with
  | zero=>intro _;rfl
  | succ k ih =>
   intro hk
   have hk':k<l.length:=hk
   rw[preSum,ih (Nat.le_of_lt hk'),List.take_add_one,hv k l[k] (by simp[hk'])]
   rw[List.sum_append];simp[hk']
 have:=key l.length (Nat.le_refl _)
 rwa[List.take_length] at this
noncomputable def Au (init:Int) (ps:List A0):Int:=init+(ps.map A0.len).sum
theorem s_len:∀ (w:World) {A:Around} {s:Shared} {x d:Addr} {init:Int} {ps:List A0} (G:A5 w s) (R:A3 A 6) (q:A2 w.params s.heap x d init ps),
  wpAny (MD w) A (call (.ref 181) [.ref x]) (λ r s'=>(∃ t',r=.int (Au init ps) t')∧A4 [] s s') no s:=by
 walk_at " w A s x d init ps G R q"
 have qb:=q.base G
 refine Ez (binds:=[("self", .ref x)]) (def_A_len w) G R (by kernel_rfl) (by kernel_rfl) [] List.nodup_nil (λ _ h=>nomatch h) ?_
 walk_at " L s₁ D"
 refine wpAny_execs_cons ?_
 walk_at "s8"
 refine Am ?_
 refine F0 (.builtin "sum") D (by kernel_rfl) (by kernel_rfl) ?_
 refine Co (spliced_more ?_)
 refine acc_gen (F:=λ i v=>∃ y t,ps[i]?=some y∧v=.int y.len t) D rfl (qb.old D) R.hd (R.deeper _).depth rfl (.inl ⟨rfl,rfl⟩) rfl (by kernel_rfl) (by kernel_rfl) (by kernel_rfl) (by kernel_rfl) (by decide +kernel) (by kernel_rfl) (by kernel_rfl) (by kernel_rfl) (by kernel_rfl) ?_ ?_
 ·walk_at " A' E' C code i y s₂ m₂ hA hy st hn h1 h2"
  refine wpAny_BinOp (Am ?_)
  refine Iv (.builtin "len") st (by kernel_rfl) (by kernel_rfl) ?_
  refine Co (spliced_more ?_)
  refine Lf hn h1 (spliced_none ⟨Bh,Mf (Nat.le_trans (qb.tup y (List.mem_of_getElem? hy)).2.2.1 (by decide)) ?_⟩)
  refine Am ?_
  refine Iv (.builtin "len") st (by kernel_rfl) (by kernel_rfl) ?_
  refine Co (spliced_more ?_)
  refine Lf hn h2 (spliced_none ⟨Bh,Mf (Nat.le_trans (qb.tup y (List.mem_of_getElem? hy)).2.2.2 (by decide)) ?_⟩)
  refine P.add_int ⟨⟨y,_,hy,rfl⟩,_,_,rfl,λ _ _ e=>e⟩
 ·walk_at " a s₅ W st5"
  have D5:=D.step st5
  walk_at "s8"
  refine Bl ?_
  walk_at "s8"
  have q5:=(qb.old D).step st5
  obtain⟨n5,hx5⟩:=q5.ox
  walk_at "c n5"
  obtain⟨t5,ti5,hd5,hti5⟩:=q5.od
  walk_at "c t5 ti5"
  refine a_get D5.k hx5 hd5 rfl ?_
  walk_at "s8"
  refine⟨Bh,sum_from ?_⟩
  obtain⟨fp,wr,St,W5,hst,hty,hafp,hfp,hmv⟩:=W.ex
  walk_at "c fp wr St"
  have hst6:=W5.frame 0 s₅ s₅.heap (s₅.toks+1) hst (Nat.le_succ _) λ _ _ _ e=>e
  refine W5.in4_1.self 0 _ _ _ hst6 ⟨a,fp,wr,_,_,_,St,λ i=>((ps[i]?).map A0.len).getD 0,rfl,W5.in4_1,hst6,hfp,?_,?_⟩
  ·walk_at " i v hv"
   obtain⟨y,t,hy,rfl⟩:=hv
   walk_at "c y t"
   exact⟨t,by simp[hy]⟩
  ·walk_at " s' t' hm"
   have hs:preSum (λ i=>((ps[i]?).map A0.len).getD 0) ps.length=(ps.map A0.len).sum:=by
    have:=Ri (ps.map A0.len) (λ i=>((ps[i]?).map A0.len).getD 0) (λ i z e=>by
     rw[List.getElem?_map] at e
     rw[e];rfl)
    rwa[List.length_map] at this
   rw[hs]
   have hm5:Moved wr (GenOnlyQ s₁.gens.size) s₅ s':=⟨hm.heap,hm.gens,hm.drawn,hm.os,Nat.le_trans (Nat.le_succ _) hm.toks⟩
   exact⟨⟨t',rfl⟩,(D.step (hmv s' hm5)).ret⟩
theorem Lm:∀ (w:World) {A:Around} {s:Shared} {x d:Addr} {init:Int} {ps:List A0} (G:A5 w s) (R:A3 A 6) (q:A2 w.params s.heap x d init ps) (h0:0≤Au init ps) (h1:Au init ps<100000),
  wpAny (MD w) A (Builtin.«len» ⟨[.ref x],[]⟩) (λ fin s'=>∃ t',fin=.done (.ret (.int (Au init ps) t'))∧t'≠0∧A4 [] s s') no s:=by
 walk_at " w A s x d init ps G R q h0 h1"
 obtain⟨n,hx⟩:=q.ox
 walk_at "c n"
 obtain⟨t,ti,hd,_⟩:=q.od
 walk_at "c t ti"
 unfold Builtin.«len»
 refine wpAny_bind (m:=oneArg "len" _) (wpAny_pure ?_)
 refine wpAny_bind (Jh (f:=181) G.st.k hx hd (by kernel_rfl) (by kernel_rfl) ?_)
 refine wpAny_mono (s_len w G R q) ?_ λ _ _ e=>e.elim
 walk_at " r s' z"
 obtain⟨⟨t',rfl⟩,st⟩:=z
 walk_at "c t'"
 refine wpAny_bind (wpAny_holding (wpAny_pure ?_))
 refine wpAny_bind (wpAny_letGo ?_)
 rw[if_neg (by lia),if_neg (by lia)]
 have tk:0<s'.toks:=Nat.lt_of_lt_of_le G.tk st.calm.toks
 exact wpAny_bind (wpAny_mkInt (wpAny_pure ⟨_,rfl,Nat.ne_of_gt tk,st.keep,st.size,st.vol,st.calm.trans (Cx.heap (Nat.le_succ _))⟩))
theorem Lb (w:World) {A:Around} {s:Shared} {x d:Addr} {init:Int} {ps:List A0} (G:A5 w s) (R:A3 A 7) (q:A2 w.params s.heap x d init ps) (h0:0≤Au init ps) (h1:Au init ps<100000) :
  wpAny (MD w) A (call (.builtin "len") [.ref x]) (λ r s'=>(∃ t',t'≠0∧r=.int (Au init ps) t')∧A4 [] s s') no s:=by
 refine Calls.call_function_entry kind_len plain_len entry_len (args_len1 _) ?_
 refine wpAny_mono (Lm w G R.in1 q h0 h1) (λ fin s' z=>?_) λ _ _ e=>e
 obtain⟨t',rfl,z⟩:=z
 exact⟨_,rfl,⟨t',z.1,rfl⟩,z.2⟩
theorem Rt:∀ (w:World) {A:Around} {s:Shared} {x d:Addr} {init:Int} {ps:List A0} (G:A5 w s) (R:A3 A 7) (q:A2 w.params s.heap x d init ps) (h0:0≤Au init ps) (h1:Au init ps<100000),
  wpAny (MD w) A (truthy (.ref x)) (λ b s'=>b=(Au init ps != 0)∧A4 [] s s') no s:=by
 walk_at " w A s x d init ps G R q h0 h1"
 obtain⟨n,hx⟩:=q.ox
 walk_at "c n"
 obtain⟨t,ti,hd,_⟩:=q.od
 walk_at "c t ti"
 unfold truthy
 refine wpAny_bind ?_
 simp only[callSpecial?]
 refine wpAny_bind ((Hc G.st.k hx hd (name := "__bool__") (r:=none) (by kernel_rfl)).here (wpAny_pure ?_))
 refine wpAny_bind ((Hc G.st.k hx hd (name := "__len__") (r:=some (.ref 181)) (by kernel_rfl)).here ?_)
 rw[if_neg (by decide)]
 refine wpAny_bind (wpAny_runValue (codeAny_builtin entry_len ?_))
 rw[Around.under_plainId plain_len _]
 refine wpAny_mono (Lm w G R.in1 q h0 h1) ?_ λ _ _ e=>e.elim
 walk_at " fin s' z"
 obtain⟨t',rfl,z⟩:=z
 walk_at "c t'"
 exact wpAny_pure ⟨rfl,z.2⟩
theorem Ae:∀ (w:World) {A:Around} {s:Shared} {x d:Addr} {init:Int} {ps:List A0} (G:A5 w s) (R:A3 A 8) (q:A2 w.params s.heap x d init ps) (h0:0≤Au init ps) (h1:Au init ps<100000),
  wpAny (MD w) A (call (.ref 268) [.ref x]) (λ r s'=>(∃ t',t'≠0∧r=.int (Au init ps) t')∧A4 [] s s') no s:=by
 walk_at " w A s x d init ps G R q h0 h1"
 have qb:=q.base G
 refine Ez (binds:=[("obj", .ref x),("default", .int 0 513)]) (Iu w) G R (by kernel_rfl) (by kernel_rfl) [] List.nodup_nil (λ _ h=>nomatch h) ?_
 walk_at " L s₁ D"
 refine wpAny_execs_cons ?_
 walk_at "s1"
 refine Am ?_
 (refine' F0 (.builtin "isinstance") ?hD (by kernel_rfl) (by kernel_rfl) ?_;(case hD=>assumption))
 refine Co ?_
 walk_at "s1"
 (refine' F0 (.type "int") ?hD (by kernel_rfl) (by kernel_rfl) ?_;(case hD=>assumption))
 walk_at "s1"
 refine⟨Bh,call_isinstance (isinstance_true (Tx := "int") (T := "int") (by kernel_rfl) (by rw[isSubtype_type];kernel_rfl)) ⟨rfl,?_⟩⟩
 walk_at "s1"
 refine Be Bool.false_ne_true ?_
 walk_at "s1"
 refine wpAny_Try_except ?_
 walk_at "s1"
 refine Am ?_
 (refine' F0 (.builtin "len") ?hD (by kernel_rfl) (by kernel_rfl) ?_;(case hD=>assumption))
 refine Co ?_
 walk_at "s1"
 refine⟨Bh,wpAny_mono (Lb w D.good (R.deeper _) (qb.old D) h0 h1) ?_ λ _ _ e=>e.elim⟩
 walk_at " r s' z"
 exact⟨z.1,(D.step z.2).ret⟩
noncomputable def A0.chars (q:A0):List Nat:=q.b.cps.toList++q.p.cps.toList
noncomputable def Bj (ps:List A0):List Nat:=(ps.map A0.chars).flatten
noncomputable def S (l:List Nat):Str:=⟨l.toArray⟩
theorem Pi (a b:List Nat):S a++S b=S (a++b):=by
 show Str.mk _=Str.mk _
 simp[S]
theorem S_chars (x:Str):S x.cps.toList=x:=by cases x;simp[S]
theorem S_inj {a b:List Nat} (h:S a=S b):a=b:=by
 have:=congrArg (λ x=>x.cps.toList) h
 simpa [S] using this
theorem Na:∀ l:List Str,Str.join (Str.ofString "") l=S (l.map λ x=>x.cps.toList).flatten
 | []=>by rfl
 | [x]=>by simp[Str.join,S_chars]
 | x::y::r=>by
  show x++Str.ofString "" ++ Str.join (Str.ofString "") (y::r)=_
  rw[Na (y::r)]
  rw[show Str.ofString "" = S [] from by kernel_rfl]
  conv=>lhs;rw[← S_chars x]
  rw[Pi,Pi];simp
theorem Jf (l:List Str):Txt.join (Str.ofString "") l=S (l.map λ x=>x.cps.toList).flatten:=by
 rw[show Txt.join (Str.ofString "") l=Builtin.Str.glued (Str.ofString "") l from rfl,StrLaws.glued_eq_join,Na]
theorem A4.withToks {S:List Addr} {a b:Shared} (st:A4 S a b) {k:Tok} (h:a.toks≤k):A4 S a {b with toks:=k}:=⟨st.keep,st.size,st.vol,⟨st.calm.os,st.calm.size,st.calm.gens,st.calm.bare,h⟩⟩
theorem s_str:∀ (w:World) {A:Around} {s:Shared} {x d:Addr} {init:Int} {ps:List A0} (G:A5 w s) (R:A3 A 6) (q:A2 w.params s.heap x d init ps),
  wpAny (MD w) A (call (.ref 188) [.ref x]) (λ r s'=>(∃ t',r=.str (S (Bj ps)) t')∧A4 [] s s') no s:=by
 walk_at " w A s x d init ps G R q"
 have qb:=q.base G
 refine Ez (binds:=[("self", .ref x)]) (def_A_str w) G R (by kernel_rfl) (by kernel_rfl) [] List.nodup_nil (λ _ h=>nomatch h) ?_
 walk_at " L s₁ D"
 refine wpAny_execs_cons ?_
 walk_at "s1"
 refine Ak ?_
 refine Pv (.str "" 254) D (by kernel_rfl) ?_
 walk_at " pl"
 refine GM.join ?_
 refine Co (spliced_more ?_)
 refine acc_gen (F:=λ i v=>∃ y t,ps[i]?=some y∧v=.str (S y.chars) t) D rfl (qb.old D) R.hd (R.deeper _).depth rfl (.inr ⟨rfl,rfl⟩) rfl (by kernel_rfl) (by kernel_rfl) (by kernel_rfl) (by kernel_rfl) (by decide +kernel) (by kernel_rfl) (by kernel_rfl) (by kernel_rfl) (by kernel_rfl) ?_ ?_
 ·walk_at " A' E' C code i y s₂ m₂ hA hy st hn h1 h2"
  refine Ak ?_
  refine Q5 (.str "" 254) st (by kernel_rfl) ?_
  walk_at " pl"
  refine GM.join ?_
  refine Co (spliced_more ?_)
  refine J5 (spliced_more ?_)
  refine Lf hn h1 (spliced_more ?_)
  refine Lf hn h2 (spliced_none ?_)
  refine wpAny_newObj_type ?_ (by show (2:Nat)≤sizeLine;decide +kernel)
  refine spliced_none ⟨Bh,?_⟩
  have hb:=(qb.tup y (List.mem_of_getElem? hy)).2.2
  have hbound:(([y.b,y.p]:List Str).map (·.length)).sum+([y.b,y.p]:List Str).length*(Str.ofString "").length≤16777216:=by
   have h1:=hb.1
   have h2:=hb.2
   have h0:(Str.ofString "").length=0:=by kernel_rfl
   simp only[List.map_cons,List.map_nil,List.sum_cons,List.sum_nil,List.length_cons,List.length_nil,h0]
   lia
  show wpAny _ _ (call (.builtin "str.join") [.str (Str.ofString "") 254,.ref s₂.heap.objs.size]) _ _ _
  refine join_tuple (items:=#[.str y.b y.tb,.str y.p y.tp]) (ys:=[y.b,y.p]) ⟨_,Heap.get?_push_size _ rfl,rfl,0,rfl⟩ (.cons _ _ (.cons _ _ .nil)) hbound λ t' k=>?_
  refine⟨⟨y,t',hy,?_⟩,_,k,rfl,λ b o e=>Heap.get?_push_of_some _ e⟩
  rw[Jf];simp[A0.chars]
 ·walk_at " a s₅ W st5"
  have D5:=D.step st5
  obtain⟨fp,wr,St,W5,hst,hty,hafp,hfp,hmv⟩:=W.ex
  walk_at "c fp wr St"
  refine spliced_none ⟨Bh,wpAny_with_toks (Nat.le_refl s₅.toks) (SC.joinGen W5.in4_2 hty hst hfp hafp ?_ ?_ (Nat.le_trans q.few (by decide +kernel)))⟩
  ·walk_at " i v hv"
   obtain⟨y,t,_,rfl⟩:=hv
   walk_at "c y t"
   exact⟨_,t,rfl⟩
  ·walk_at " s' l hm hit"
   have hl:l.map (·.1)=ps.map λ y=>S y.chars:=by
    refine List.ext_getElem? ?_
    walk_at " i"
    have hsz:l.length=ps.length:=by have:=hit.1;simpa [strValues] using this
    rw[List.getElem?_map,List.getElem?_map]
    by_cases hi:i<l.length
    ·have hi2:i<ps.length:=hsz ▸ hi
     have e1:(strValues l).toArray[i]?=some (.str l[i].1 l[i].2):=by simp[strValues,hi]
     obtain⟨y,t,hy,hv⟩:=hit.2 i _ e1
     walk_at "c y t"
     injection hv with e2 _
     rw[hy,List.getElem?_eq_getElem hi]
     simp[e2]
    ·rw[List.getElem?_eq_none (Nat.le_of_not_lt hi),List.getElem?_eq_none (by simp_all)];rfl
   rw[hl]
   have hm5:=hmv s' hm
   refine⟨joinOk_of ?_,?_⟩
   ·have h0:(Str.ofString "").length=0:=by kernel_rfl
    rw[h0,Nat.mul_zero,Nat.add_zero,List.map_map]
    have:∀ r:List A0,(∀ y∈r,y.b.length≤1000∧y.p.length≤1000)→(r.map ((λ x:Str=>x.length) ∘ λ y=>S y.chars)).sum≤2000*r.length:=by
     walk_at " r"
     induction r with
     | nil=>intro _;simp
     | cons y r ih =>
      intro h
      walk_at "c y r"
      have h1:=h y (.head _)
      have h2:=ih λ z hz=>h z (.tail _ hz)
      have h3:(S y.chars).length=y.b.length+y.p.length:=by simp[S,Str.length,A0.chars]
      simp only[List.map_cons,List.sum_cons,Function.comp,List.length_cons] at h2 ⊢
      rw[h3]
      lia
    have h1:=this ps λ y hy=>(q.tup y hy).2.2
    have h2:=q.few
    lia
   ·walk_at " t' k"
    walk_at " hk"
    refine⟨⟨t',?_⟩,(D.step (hm5.withToks (Nat.le_trans st5.calm.toks hk))).ret⟩
    rw[Jf,List.map_map]
    rfl
theorem Hm:∀ (w:World) {A:Around} {s:Shared} {x d:Addr} {init:Int} {ps:List A0} (G:A5 w s) (R:A3 A 9) (q:A2 w.params s.heap x d init ps),
  wpAny (MD w) A (call (.type "str") [.ref x]) (λ r s'=>(∃ t',r=.str (S (Bj ps)) t')∧A4 [] s s') no s:=by
 walk_at " w A s x d init ps G R q"
 obtain⟨n,hx⟩:=q.ox
 walk_at "c n"
 obtain⟨t,ti,hd,_⟩:=q.od
 walk_at "c t ti"
 refine callType_codes (Q₁:=λ obj s₁=>(∃ t',obj=.str (S (Bj ps)) t')∧A4 [] s s₁) F.called_str (F.typeCall_str_1 _) F.entry_object_init ?_ ?_
 ·refine codeAny_of_tree ?_
  show wpAny _ A.in1.in1 (do checkBuiltinCall "str.__new__" ⟨[.type "str", .ref x],[]⟩;again (.builtin "str.__new__" ⟨[.type "str", .ref x],[]⟩)) _ _ s
  refine wpAny_bind (wpAny_of_eq (F.newCall_str_1 _) (wpAny_pure ⟨plainId_quiet (by decide +kernel) _,codeAny_builtin F.entry_str_new ?_⟩))
  rw[Around.under_plainId (by decide +kernel) _,str_new_tree]
  refine wpAny_bind (wpAny_pure ?_)
  refine wpAny_bind (wpAny_of_eq isSubtype_str_str ?_)
  refine wpAny_bind ?_
  unfold Builtin.Str.strOf
  rw[show Builtin.Str.isExactStr (.ref x)=false from rfl]
  refine wpAny_bind (wpAny_cRoomFor R.in1.in1.units ?_)
  refine wpAny_bind (Jh (f:=188) G.st.k hx hd (by kernel_rfl) (by kernel_rfl) ?_)
  refine wpAny_mono (s_str w G (R.in1.in1.mono (by decide)) q) ?_ λ _ _ e=>e.elim
  walk_at " r s' z"
  obtain⟨⟨t',rfl⟩,st⟩:=z
  walk_at "c t'"
  refine wpAny_bind (wpAny_pure ?_)
  exact wpAny_pure (wpAny_pure ⟨⟨t',rfl⟩,st⟩)
 ·walk_at " obj s₁ h₁"
  obtain⟨⟨t',rfl⟩,st⟩:=h₁
  walk_at "c t'"
  exact⟨typeIs_str _ _ _,F.args_object_init_2 _ _,object_init_meets F.called_str.init.lookup F.called_str.made (by decide) PySem.Challenge.pw_wv0051_01 w A.in1 _ s₁ ⟨typeIs_str _ _ _,rfl,⟨t',rfl⟩,st⟩⟩
theorem Rj:∀ (w:World) {A:Around} {s:Shared} {x d:Addr} {init:Int} {ps:List A0} (G:A5 w s) (R:A3 A 11) (q:A2 w.params s.heap x d init ps) (h0:0≤Au init ps) (h1:Au init ps<100000),
  wpAny (MD w) A (call (.ref 203) [.ref x]) (λ r s'=>r=.bool (decide (init=0) && (decide (Au init ps=0) || Txt.isspace (S (Bj ps))))∧A4 [] s s') no s:=by
 walk_at " w A s x d init ps G R q h0 h1"
 have qb:=q.base G
 refine Ez (binds:=[("self", .ref x)]) (N0 w) G R (by kernel_rfl) (by kernel_rfl) [] List.nodup_nil (λ _ h=>nomatch h) ?_
 walk_at " L s₁ D"
 refine wpAny_execs_cons ?_
 walk_at "s1"
 refine Bl ?_
 walk_at "s1"
 obtain⟨n,hx⟩:=(qb.old D).ox
 walk_at "c n"
 obtain⟨t,ti,hd,_⟩:=(qb.old D).od
 walk_at "c t ti"
 refine a_get D.k hx hd rfl ?_
 have D1:=D.toks 1
 walk_at "s1"
 rename_i s2 t2 D2 _
 by_cases hi:init=0
 ·subst hi
  refine Bk rfl ?_
  walk_at "s1"
  refine wpAny_mono (Rt w D2.good (R.deeper _ |>.mono (by decide)) (qb.old D2) h0 h1) ?_ λ _ _ e=>e.elim
  walk_at " b s3 z"
  obtain⟨rfl,st3⟩:=z
  have D3:=D2.step st3
  walk_at "s1"
  by_cases hz:Au 0 ps=0
  ·rw[hz]
   refine Bk rfl ?_
   exact⟨by simp[Ej,hz],D3.ret⟩
  ·refine Be (by simp[hz]) ?_
   walk_at "s1"
   refine Ak ?_
   refine Am ?_
   (refine' F0 (.type "str") ?hD (by kernel_rfl) (by kernel_rfl) ?_;(case hD=>assumption))
   refine Co ?_
   walk_at "s1"
   refine⟨Gk,wpAny_mono (Hm w D3.good (R.deeper _ |>.mono (by decide)) (qb.old D3)) ?_ λ _ _ e=>e.elim⟩
   walk_at " r s4 z"
   obtain⟨⟨t4,rfl⟩,st4⟩:=z
   have D4:=D3.step st4
   intro pl
   refine GM.isspace (Ha ⟨Bh,SC.isspace ?_⟩)
   exact⟨by simp[Ej,hz],D4.ret⟩
 ·refine Be (by simp[hi]) ?_
  exact⟨by simp[Ej,hi],D2.ret⟩
noncomputable abbrev Bn:Obj:={cls:=.type "dict", data:=.dict #[]}
theorem Ng (P:Params) (v':Value) (t:Tok):Obj.putName "_initial_size" (PyData.keyHash P "_initial_size") (.str "_initial_size" t) v' Bn=A9 P t v':=by kernel_rfl
section
variable {w:World} {A:Around} {E:VP} {s:Shared} {x d:Addr}
theorem a_set0 {v:Value} {Q:Unit→Shared→Prop} (X:(K w.params).In s.heap) (hx:s.heap.get? x=some (A8 d [] 0)) (hd:s.heap.get? d=some Bn)
  (h:∀ h' t,Heap.SameBut d s.heap h'→h'.get? d=some (A9 w.params t v)→Q () {s with heap:=h',toks:=s.toks+2}):wpAny (MD w) A (setAttr (.ref x) "_initial_size" v) Q E s:=by
 walk_at "c w A E s x d v Q X hx hd h"
 have I:InstAt s.heap x (A8 d [] 0) 214 (some Bn):=⟨hx,rfl,rfl,hd⟩
 refine set_plain X I (by kernel_rfl) ?_
 have SF:=PySem.F.store_object
 have hcls:clsIn (K w.params) 214=some {name := "_Accumulator", bases:=[.type "list"],mro:=[.ref 214,.type "list", .type "object"],ns:=213,qualname := "_Accumulator", hasDict:=true,slotNames:=[],subclasses:=[],abstract:=false,collection:=none,hasDel:=false}:=by kernel_rfl
 have sub:Looks (MD w) s.heap (isInstance (.ref x) (.type "object")) true:=I.type.andThen (looks_mroIn X (by kernel_rfl))
 refine codeAny_call_builtin SF.slot.plain SF.entry (@check_slot (MD w) _ _ {s with toks:=s.toks+1} "object.__setattr__" "object" "__setattr__" (.ref x) [.str "_initial_size" s.toks,v] [] _ SF.kind SF.split sub (SF.args (.ref x) (.str "_initial_size" s.toks) v) ?_)
 have hm:Looks (MD w) s.heap (mroOf (.ref 214)) [.ref 214,.type "list", .type "object"]:=(looks_clsIn X hcls).andThen .now
 have ha:findIn (K w.params) (.ref 214) "_initial_size" = some none:=by kernel_rfl
 rw[osa_eq,refuse_eq]
 refine wpAny_bind (wpAny_bind (I.type.at (wpAny_bind (hm.at ?_))))
 rw[Ni]
 refine wpAny_pure (wpAny_bind (I.type.at (wpAny_bind ((looks_findIn X ha).at (wpAny_bind (wpAny_pure ?_))))))
 dsimp only
 refine wpAny_bind (wpAny_pure (wpAny_bind (wpAny_bind (wpAny_loadPart hx (wpAny_bind ((looks_clsIn X hcls).at ?_))))))
 rw[if_neg (by decide)]
 refine wpAny_pure (a:=some d) (wpAny_bind (wpAny_pure (wpAny_bind ?_)))
 unfold nsSet
 refine wpAny_bind (wpAny_bind (wpAny_askSetting (wpAny_pure (wpAny_bind (wpAny_mkText (wpAny_bind (wpAny_loadPart hd ?_)))))))
 dsimp only
 rw[aRefKeyMayBeTheName_at,if_neg (by simp)]
 refine wpAny_updatePart hd ?_
 have e':∀ t,(s.heap.update d (Obj.putName "_initial_size" (PyData.keyHash w.params "_initial_size") (.str "_initial_size" t) v)).get? d=some (A9 w.params t v):=λ t=>by
  have:=Heap.get?_update_self (f:=Obj.putName "_initial_size" (PyData.keyHash w.params "_initial_size") (.str "_initial_size" t) v) hd (by rw[Ng];rfl)
  rw[this,Ng]
 refine wpAny_bind (wpAny_lookBehind (e' _) (by rfl) ?_)
 exact wpAny_pure (h _ _ (Heap.SameBut.update ..) (e' _))
end
theorem s_init':∀ (w:World) {A:Around} {s:Shared} {args:List Value} {x d:Addr} {v:Value} (G:A5 w s) (R:A3 A 6) (hargs:peek (K w.params) ⟨PySem.Challenge.pw_wv0051_01,w.params⟩ (bindArgs Om ⟨args,[]⟩)=some ([("self", .ref x),("initial_size", v)]:List (Str×Value))) (hx:s.heap.get? x=some (A8 d [] 0)) (hd:s.heap.get? d=some Bn) (hx3:@LE.le Nat _ 317 x) (hd3:@LE.le Nat _ 317 d),
  wpAny (MD w) A (call (.ref 151) args) (λ r s'=>r=.none∧A4 [x,d] s s'∧∃ n' t,s'.heap.get? x=some (A8 d [] n')∧s'.heap.get? d=some (A9 w.params t v)) no s:=by
 walk_at " w A s args x d v G R hargs hx hd hx3 hd3"
 have hdx:=By hd hx (by (first|(intro h;cases h;done)|simp[A8,A9]|decide +kernel))
 refine Jm (binds:=[("self", .ref x),("initial_size", v)]) (Mz w) G R hargs (by kernel_rfl) [(x,A8 d [] 0),(d,Bn)] (by simp[Ne.symm hdx]) (Gc hx hx3 (Gc hd hd3 Jb)) ?_
 walk_at " L s₁ D"
 conv in (execs Kk _)=>arg 1;unfold Kk;whnf
 refine ks_wpAt_execs_cons (ks_wpAt_Assign_Attr (_root_.PySem.wpAt_of_wpAny ?_) (by kernel_rfl))
 walk_at "s1"
 refine a_set0 D.k (D.at 0 rfl) (D.at 1 rfl) ?_
 walk_at " h' t hs hg"
 have D1:=D.setAt 1 (t:=s₁.toks+2) (Nat.le_add_right ..) rfl hs hg
 refine ks_wpAt_execs_cons (ks_wpAt_Expr_any (Iz ?_) (by kernel_rfl) (by kernel_rfl))
 refine Nz (Mz w) D1 (D1.at 0 rfl) (D1.at 1 rfl) rfl ?_ (by kernel_rfl) (by kernel_rfl) (by kernel_rfl) (by decide +kernel) (by kernel_rfl) rfl (by kernel_rfl) rfl rfl rfl
 walk_at " s₃ a D3 _ pl"
 refine Jj (id := "list.__init__") (T := "wrapper_descriptor") (ga := "wrapper_descriptor.__get__") (bt := "method-wrapper") D3.k (D3.at 1 rfl) (D3.at 2 rfl) (D3.at 0 rfl) (by kernel_rfl) (by show builtinType _=_;rw[builtinType_eq_fast];kernel_rfl) (by rw[typeLookup_type,builtinLookup_eq_fast];kernel_rfl) (by decide +kernel) (by decide +kernel) (entryFor_of_tree (by kernel_rfl)) (by kernel_rfl) (λ q=>Lq (s:={s₃ with toks:=s₃.toks+1}) D3.k (D3.at 1 rfl) (D3.at 2 rfl) (.inr rfl) q) ?_
 have D4:=(D3.push {cls:=.type "method-wrapper", data:=.fields #[.builtin "list.__init__", .ref x]} rfl).toks 1
 refine Ha ⟨Ks (D4.at 0 rfl) (.inr rfl),?_⟩
 refine Jl (D4.at 0 rfl) (.inl rfl) (λ q=>wpAny_of_eq (a:=()) (by kernel_rfl) q) (by decide +kernel) F.entry_list_init ?_
 show wpAny _ _ (do let old ← Builtin.List.listItems (.ref x);Builtin.List.listUpdate (.ref x) (λ _=>#[]);letGo old.toList.reverse;ret .none) _ _ _
 refine wpAny_bind ?_
 unfold Builtin.List.listItems
 refine wpAny_bind (wpAny_seqItems (D4.at 2 rfl) rfl (wpAny_pure ?_))
 obtain⟨n',em⟩:=Jw (λ _=>#[]) d [] 0
 walk_at "c n'"
 refine wpAny_bind (wpAny_updateSeq (D4.at 2 rfl) rfl (wpAny_bind (wpAny_letGo (wpAny_pure ⟨_,rfl,?_⟩))) (Nat.zero_le _) (Nat.zero_le _))
 have D5:=D4.upd 2 (f:=Obj.mapSeq λ _=>#[]) rfl (by rw[em];rfl)
 rw[em] at D5
 refine at_nil ⟨rfl,(D5.drop (List.drop_sublist 2 _)).ret,n',t,D5.at 2 rfl,D5.at 3 rfl⟩
noncomputable abbrev accCd:ClassData:={name := "_Accumulator", bases:=[.type "list"],mro:=[.ref 214,.type "list", .type "object"],ns:=213,qualname := "_Accumulator", hasDict:=true,slotNames:=[],subclasses:=[],abstract:=false,collection:=none,hasDel:=false}
noncomputable abbrev accSl:Array (Option Value):=#[some (.ref 135),none,some (.str "_Accumulator" 364),some (.str "_Accumulator" 372),some (.builtin "list.__new__"),some (.bool true)]
theorem at214 {w:World} {h:Heap} (X:(K w.params).In h):h.get? 214=some ⟨.type "type", none,.cls accCd,accSl⟩:=X 214 _ (by kernel_rfl)
theorem Qe {w:World} {h:Heap} (X:(K w.params).In h):Looks (MD w) h (mroOf (.ref 214)) [.ref 214,.type "list", .type "object"]:=(looks_clsIn X (cd:=accCd) (by kernel_rfl)).andThen .now
theorem Oc {w:World} {h:Heap} (X:(K w.params).In h):Looks (MD w) h (Bind.madeBy (.ref 214)) (some "list.__new__"):=by
 intro A Q E s k q
 unfold Bind.madeBy
 refine wpAny_bind (Qe X A _ E s k ?_)
 rw[List.forIn_cons]
 refine wpAny_bind (wpAny_bind (wpAny_bind (wpAny_bind (wpAny_loadPart (k _ _ (at214 X)) (wpAny_pure ?_)))))
 exact wpAny_pure (wpAny_pure (wpAny_pure q))
theorem base214 {w:World} {h:Heap} (X:(K w.params).In h):Looks (MD w) h (Bind.staticBase (.ref 214)) (.ref 214):=by
 intro A Q E s k q
 unfold Bind.staticBase
 refine wpAny_bind (Qe X A _ E s k ?_)
 rw[List.forIn_cons]
 exact wpAny_bind (wpAny_bind (wpAny_bind (Oc X A _ E s k (wpAny_pure (wpAny_pure (wpAny_pure q))))))
theorem isType214 {w:World} {h:Heap} (X:(K w.params).In h):Looks (MD w) h (isType (.ref 214)) true:=by
 intro A Q E s k q
 unfold isType loadHead
 refine wpAny_bind (wpAny_loadPart (k _ _ (at214 X)) ?_)
 exact wpAny_pure q
section
variable {w:World} {A:Around} {E:VP} {s:Shared} {R:Result→Shared→Prop}
theorem acc_new {rest:List Value} (hr:rest=[]∨∃ v,rest=[v]) (X:(K w.params).In s.heap) (h:R (.ok (.ret (.ref (s.heap.objs.size+1)))) {s with heap:=(s.heap.push Bn).push (A8 s.heap.objs.size [] 0)}) :
  codeAny (MD w) A (.call (.builtin "list.__new__") ⟨.ref 214::rest,[]⟩) R s:=by
 walk_at "c w A s R rest hr X h"
 have sub:Looks (MD w) s.heap (isSubtype (.ref 214) (.type "list")) true:=looks_mroIn X (by kernel_rfl)
 have ty:=isType214 X
 have ba:=base214 X
 have md:=Oc X
 have ar:∀ {Q:Unit→Shared→Prop} {E:VP} {A:Around},Q () s→wpAny (MD w) A (match Manifest.signature? "list.__new__" with|some sig=>Bind.checkArgs "list.__new__" sig ⟨.ref 214::rest,[]⟩|_=>pure ()) Q E s:=by
  walk_at " Q E A q"
  rw[signature?_of (id := "list.__new__") (n:=['_','_','w','e','n','_','_']) (o:=['t','s','i','l']) (by kernel_rfl) F.owner_list]
  rcases hr with rfl|⟨v,rfl⟩
  ·exact wpAny_of_eq (a:=()) (by kernel_rfl) q
  ·walk_at "c v"
   exact wpAny_of_eq (a:=()) (by kernel_rfl) q
 refine codeAny_of_tree ?_
 show wpAny _ A.in1 (do checkBuiltinCall "list.__new__" ⟨.ref 214::rest,[]⟩;again (.builtin "list.__new__" ⟨.ref 214::rest,[]⟩)) _ _ s
 refine wpAny_bind ?_
 simp only[checkBuiltinCall,show builtinKind "list.__new__" = some .builtinFn from by decide +kernel,show splitId "list.__new__" = some ("list", "__new__") from by decide +kernel]
 rw[if_pos (by decide +kernel)]
 refine wpAny_bind (ty.here ?_)
 rw[if_neg (by decide)]
 refine wpAny_bind (sub.here ?_)
 rw[if_neg (by decide)]
 refine wpAny_bind (ba.here (wpAny_bind (md.here ?_)))
 dsimp only
 rw[if_neg (by decide +kernel)]
 refine ar (wpAny_pure ⟨plainId_quiet F.plain_list_new _,codeAny_builtin_stack F.entry_list_new rfl ?_⟩)
 walk_at " p st"
 rw[Around.under_plainId F.plain_list_new _]
 have hown:=owner_list_new
 simp only[hown]
 refine wpAny_bind (ty.here ?_)
 rw[if_neg (by decide)]
 refine wpAny_bind (sub.here ?_)
 rw[if_neg (by decide)]
 refine wpAny_bind (wpAny_pure ?_)
 rw[if_neg (by decide +kernel)]
 refine wpAny_bind ?_
 unfold newDict
 refine wpAny_newObj_type ?_
 dsimp only
 refine wpAny_bind ?_
 unfold newObj newObjAsIs classHasDel
 have h214:=Heap.get?_push_of_some (A8 s.heap.objs.size [] 0) (Heap.get?_push_of_some Bn (at214 X))
 refine wpAny_bind (wpAny_alloc (wpAny_bind (wpAny_bind (wpAny_load h214 (wpAny_pure ?_)))))
 refine wpAny_pure (wpAny_pure ?_)
 rw[Heap.size_push]
 exact h
end
theorem A3.undr {A:Around} {n:Nat} {c:Code} (R:A3 A (n+1)) (hw:c.weight≤1) (hu:c.cUnits≤16):A3 (A.under c) n :=
 ⟨R.hd,by have:=R.dp;show A.depth+c.weight+n<1000;lia,by have:=R.un;show A.units+c.cUnits+16*n<9900;lia,by
  obtain⟨l,e⟩:=R.fr
  show ∃ l,pushEnvs c.envs A.frames=some l
  rw[e,pushEnvs_eq];exact⟨_,rfl⟩⟩
theorem s_init0 (w:World) {A:Around} {s:Shared} {x d:Addr} (G:A5 w s) (R:A3 A 6)
  (hx:s.heap.get? x=some (A8 d [] 0)) (hd:s.heap.get? d=some Bn) (hx3:@LE.le Nat _ 317 x) (hd3:@LE.le Nat _ 317 d) :
  wpAny (MD w) A (call (.ref 151) [.ref x]) (λ r s'=>r=.none∧A4 [x,d] s s'∧∃ n' t,s'.heap.get? x=some (A8 d [] n')∧s'.heap.get? d=some (A9 w.params t (.int 0 376))) no s :=
 s_init' w G R (by kernel_rfl) hx hd hx3 hd3
theorem s_init1 (w:World) {A:Around} {s:Shared} {x d:Addr} {v:Value} (G:A5 w s) (R:A3 A 6)
  (hx:s.heap.get? x=some (A8 d [] 0)) (hd:s.heap.get? d=some Bn) (hx3:@LE.le Nat _ 317 x) (hd3:@LE.le Nat _ 317 d) :
  wpAny (MD w) A (call (.ref 151) [.ref x,v]) (λ r s'=>r=.none∧A4 [x,d] s s'∧∃ n' t,s'.heap.get? x=some (A8 d [] n')∧s'.heap.get? d=some (A9 w.params t v)) no s :=
 s_init' w G R (by kernel_rfl) hx hd hx3 hd3
theorem M1:∀ (w:World) {A:Around} {s:Shared} {rest:List Value} {v:Value} (G:A5 w s) (R:A3 A 8) (hr:(rest=[]∧v=.int 0 376)∨rest=[v]),
  wpAny (MD w) A (call (.ref 214) rest) (λ r s'=>∃ x d n t,r=.ref x∧@LE.le Nat _ s.heap.objs.size d∧@LE.le Nat _ s.heap.objs.size x∧A4 [] s s'∧s'.heap.get? x=some (A8 d [] n)∧s'.heap.get? d=some (A9 w.params t v)) no s:=by
 walk_at " w A s rest v G R hr"
 have X:=G.st.k
 have hr':rest=[]∨∃ v,rest=[v]:=hr.imp (·.1) (λ h=>⟨v,h⟩)
 have call:Looks (MD w) s.heap (specialOf (.ref 214) "__call__") (some (.builtin "type.__call__")):=looks_specialIn X (by kernel_rfl)
 have typ:Looks (MD w) s.heap (isInstance (.ref 214) (.type "type")) true:=looks_instIn X (by kernel_rfl)
 have made:=Oc X
 have hi:findIn (K w.params) (.ref 214) "__init__" = some (some (.ref 151)):=by kernel_rfl
 refine wpAny_call (codeAny_of_tree ?_)
 show wpAny _ _ (callAny (.ref 214) _) _ _ _
 unfold callAny
 refine wpAny_bind (wpAny_load (at214 X) ?_)
 show wpAny _ _ (callAny.viaDunder (.ref 214) _) _ _ _
 unfold callAny.viaDunder
 refine wpAny_bind (call.here ?_)
 dsimp only
 rw[tc_bind]
 refine wpAny_bind (wpAny_pure (wpAny_bind (wpAny_pure ?_)))
 refine wpAny_pure (a:=Fin.again (.call (.builtin "type.__call__") ⟨.ref 214::rest,[]⟩)) (And.intro rfl ?_)
 refine codeAny_call_builtin_at (Code.quiet_builtin _ (by decide +kernel)) entry_typeCall (check_slot tc_kind tc_split typ (tc_args _ _ _) ?_)
 have RU:A3 (A.under (.builtin "type.__call__" ⟨.ref 214::rest,[]⟩)) 7:=by
  refine R.undr ?_ ?_
  ·rcases hr' with rfl|⟨v,rfl⟩<;>exact Nat.le_of_eq (by kernel_rfl)
  ·rcases hr' with rfl|⟨v,rfl⟩<;>exact Nat.le_trans (Nat.le_of_eq (show _=1 by kernel_rfl)) (by decide)
 unfold Builtin.«type.__call__»
 dsimp only
 rw[if_neg (by decide +kernel)]
 refine wpAny_bind ((Qe X).here ?_)
 rw[if_neg (by decide)]
 refine wpAny_bind (made.here ?_)
 refine wpAny_bind (wpAny_pure ?_)
 refine wpAny_bind (wpAny_holding (wpAny_call (acc_new hr' X ?_)))
 have up:∀ b o,s.heap.get? b=some o→((s.heap.push Bn).push (A8 s.heap.objs.size [] 0)).get? b=some o:=λ b o e=>Heap.get?_push_of_some _ (Heap.get?_push_of_some _ e)
 have hx:((s.heap.push Bn).push (A8 s.heap.objs.size [] 0)).get? (s.heap.objs.size+1)=some (A8 s.heap.objs.size [] 0):=Heap.get?_push_at (by rw[Heap.size_push]) rfl
 have hd:((s.heap.push Bn).push (A8 s.heap.objs.size [] 0)).get? s.heap.objs.size=some Bn:=Heap.get?_push_of_some _ (Heap.get?_push_at rfl rfl)
 have X2:(K w.params).In ((s.heap.push Bn).push (A8 s.heap.objs.size [] 0)):=X.keeps up
 have hz:@LE.le Nat _ s.heap.objs.size ((s.heap.push Bn).push (A8 s.heap.objs.size [] 0)).objs.size:=by rw[Heap.size_push,Heap.size_push];exact Nat.le_add_right _ 2
 have G2:A5 w {s with heap:=(s.heap.push Bn).push (A8 s.heap.objs.size [] 0)}:=⟨G.st.keeps up,G.vol.keeps hz up,G.tk⟩
 have s2:A4 [] s {s with heap:=(s.heap.push Bn).push (A8 s.heap.objs.size [] 0)}:=⟨λ b o _ _ _ e=>up b o e,hz,G2.vol,Cx.heap (Nat.le_refl _)⟩
 have t1:Looks (MD w) ((s.heap.push Bn).push (A8 s.heap.objs.size [] 0)) (typeOf (.ref (s.heap.objs.size+1))) (.ref 214):=(Looks.ld hx).andThen .now
 have in1:Looks (MD w) ((s.heap.push Bn).push (A8 s.heap.objs.size [] 0)) (isInstance (.ref (s.heap.objs.size+1)) (.ref 214)) true:=t1.andThen (looks_mroIn X2 (by kernel_rfl))
 have sp1:Looks (MD w) ((s.heap.push Bn).push (A8 s.heap.objs.size [] 0)) (specialOf (.ref (s.heap.objs.size+1)) "__init__") (some (.ref 151)):=t1.andThen (looks_findIn X2 hi)
 have bn:=bind_fn (M:=MD w) X2 (.ref (s.heap.objs.size+1)) (f:=151) (by kernel_rfl)
 dsimp only
 refine wpAny_bind (in1.at ?_)
 rw[if_neg (by decide)]
 refine wpAny_bind (wpAny_holding ?_)
 unfold callSpecial?
 refine wpAny_bind (sp1.at (wpAny_holding (wpAny_bind (bn.at (wpAny_bind ?_)))))
 have fin:∀ (r:Value) (s':Shared),(r=.none∧A4 [s.heap.objs.size+1,s.heap.objs.size] {s with heap:=(s.heap.push Bn).push (A8 s.heap.objs.size [] 0)} s'∧∃ n' t,s'.heap.get? (s.heap.objs.size+1)=some (A8 s.heap.objs.size [] n')∧s'.heap.get? s.heap.objs.size=some (A9 w.params t v)) →
   r=.none∧∃ x d n t,Value.ref (s.heap.objs.size+1)=.ref x∧@LE.le Nat _ s.heap.objs.size d∧@LE.le Nat _ s.heap.objs.size x∧A4 [] s s'∧s'.heap.get? x=some (A8 d [] n)∧s'.heap.get? d=some (A9 w.params t v):=by
  rintro r s' ⟨e,st,n',t,a,b⟩
  walk_at "c r s' e st n' t"
  refine⟨e,_,_,n',t,rfl,Nat.le_refl _,Nat.le_succ _,s2.trans st ?_,a,b⟩
  walk_at " q hq"
  refine .inr ?_
  rcases List.mem_cons.mp hq with rfl|hq
  ·exact Nat.le_succ _
  ·rw[List.mem_singleton.mp hq];exact Nat.le_refl _
 have h3x:@LE.le Nat _ 317 (s.heap.objs.size+1):=Nat.le_succ_of_le G.vol.c
 have R7:A3 (A.under (.builtin "type.__call__" ⟨.ref 214::rest,[]⟩)) 6:=RU.pred
 rcases hr with ⟨rfl,rfl⟩|rfl
 ·refine wpAny_mono (s_init0 w G2 R7 hx hd h3x G.vol.c) ?_ λ _ _ e=>e.elim
  walk_at " r s' z"
  obtain⟨rfl,z'⟩:=fin r s' z
  exact wpAny_pure (wpAny_pure z')
 ·refine wpAny_mono (s_init1 w G2 R7 hx hd h3x G.vol.c) ?_ λ _ _ e=>e.elim
  walk_at " r s' z"
  obtain⟨rfl,z'⟩:=fin r s' z
  exact wpAny_pure (wpAny_pure z')
noncomputable def dO (P:Params) (l:List (Str×Tok×Value)) (n:Nat):Obj:=⟨.type "dict", none,.dict (l.map λ q=>⟨PyData.keyHash P q.1,.str q.1 q.2.1,q.2.2⟩).toArray n,#[]⟩
noncomputable def H0 (d:Addr):Obj:=⟨.ref 130,some d,.plain,#[]⟩
theorem refuse_vf (self:Value):refuseLoop self "__setattr__" [.ref 130,.type "object"]=pure ():=by kernel_rfl
theorem dO_noRef (P:Params) (l:List (Str×Tok×Value)):((l.map λ q=>(⟨PyData.keyHash P q.1,.str q.1 q.2.1,q.2.2⟩:DictEntry)).toArray.any (·.refKey))=false:=by
 rw[Array.any_eq_false']
 intro x hx
 simp only[List.mem_toArray,List.mem_map] at hx
 obtain⟨q,_,rfl⟩:=hx
 simp[DictEntry.refKey]
section
variable {w:World} {A:Around} {E:VP} {s:Shared} {x d:Addr} {l:List (Str×Tok×Value)} {n:Nat}
theorem Qw {h:Heap} (hx:h.get? x=some (H0 d)) (hd:h.get? d=some (dO w.params l n)):InstAt h x (H0 d) 130 (some (dO w.params l n)):=⟨hx,rfl,rfl,hd⟩
theorem No {name:Str} {v:Value} {e:Bool} {Q:VP} (X:(K w.params).In s.heap) (hx:s.heap.get? x=some (H0 d)) (hd:s.heap.get? d=some (dO w.params l n))
  (hf:findObj (K w.params) 130 (some (dO w.params l n)) name=some (.value v)) (hh:handedIn v=true) (h:Q v {s with toks:=s.toks+1}):wpAny (MD w) A (getAttr (.ref x) name e) Q E s :=
 get_value X (Qw hx hd) (by kernel_rfl) hf hh h
theorem v_meth {name:Str} {pl:Sem Bool} {Q:Value×List Value→Shared→Prop} (fv ty:Value) (X:(K w.params).In s.heap) (hx:s.heap.get? x=some (H0 d)) (hd:s.heap.get? d=some (dO w.params l n))
  (hf:findIn (K w.params) (.ref 130) name=some (some fv)) (ht:typeIn (K w.params) fv=some ty) (hty:Hn.contains ty=true) (hs:shadowIn (some (dO w.params l n)) name=some false) (h:Q (fv,[.ref x]) s) :
  wpAny (MD w) A (getMethod (.ref x) name pl) Q E s:=Nb X (Qw hx hd) (ga := "object.__getattribute__") (by kernel_rfl) (by decide +kernel) (by kernel_rfl) hf ht hty hs h
theorem Lk {name:Str} {v:Value} {Q:Unit→Shared→Prop} (X:(K w.params).In s.heap) (hx:s.heap.get? x=some (H0 d)) (hd:s.heap.get? d=some (dO w.params l n))
  (ha:findIn (K w.params) (.ref 130) name=some none) (e:∀ t,Obj.putName name (PyData.keyHash w.params name) (.str name t) v (dO w.params l n)=dO w.params (l++[(name,t,v)]) (n+1)) (hl:l.length≤100)
  (h:∀ h' t,Heap.SameBut d s.heap h'→h'.get? d=some (dO w.params (l++[(name,t,v)]) (n+1))→Q () {s with heap:=h',toks:=s.toks+2}):wpAny (MD w) A (setAttr (.ref x) name v) Q E s:=by
 walk_at "c w A E s x d l n name v Q X hx hd ha e hl h"
 have I:=Qw hx hd
 refine set_plain X I (by kernel_rfl) ?_
 have SF:=PySem.F.store_object
 obtain⟨cd,hcls,hmro⟩:∃ cd,clsIn (K w.params) 130=some cd∧(cd.mro=[.ref 130,.type "object"]∧cd.hasDict=true):=by
  have e1:(clsIn (K w.params) 130).map (λ cd=>(cd.mro,cd.hasDict))=some ([.ref 130,.type "object"],true):=by kernel_rfl
  obtain⟨cd,a,b⟩:=Option.map_eq_some_iff.mp e1
  walk_at "c cd"
  exact⟨cd,a,by simpa using b⟩
 walk_at "c cd"
 have sub:Looks (MD w) s.heap (isInstance (.ref x) (.type "object")) true:=I.type.andThen (looks_mroIn X (by kernel_rfl))
 refine codeAny_call_builtin SF.slot.plain SF.entry (@check_slot (MD w) _ _ {s with toks:=s.toks+1} "object.__setattr__" "object" "__setattr__" (.ref x) [.str name s.toks,v] [] _ SF.kind SF.split sub (SF.args (.ref x) (.str name s.toks) v) ?_)
 have hm:Looks (MD w) s.heap (mroOf (.ref 130)) [.ref 130,.type "object"]:=hmro.1 ▸ (looks_clsIn X hcls).andThen .now
 rw[osa_eq,refuse_eq]
 refine wpAny_bind (wpAny_bind (I.type.at (wpAny_bind (hm.at ?_))))
 rw[refuse_vf]
 refine wpAny_pure (wpAny_bind (I.type.at (wpAny_bind ((looks_findIn X ha).at (wpAny_bind (wpAny_pure ?_))))))
 dsimp only
 refine wpAny_bind (wpAny_pure (wpAny_bind (wpAny_bind (wpAny_loadPart hx (wpAny_bind ((looks_clsIn X hcls).at ?_))))))
 rw[hmro.2,if_neg (by decide)]
 refine wpAny_pure (a:=some d) (wpAny_bind (wpAny_pure (wpAny_bind ?_)))
 unfold nsSet
 refine wpAny_bind (wpAny_bind (wpAny_askSetting (wpAny_pure (wpAny_bind (wpAny_mkText (wpAny_bind (wpAny_loadPart hd ?_)))))))
 dsimp only[dO]
 rw[aRefKeyMayBeTheName_at,if_neg (by rw[dO_noRef,Bool.and_false];decide)]
 refine wpAny_updatePart hd ?_
 have e':∀ t,(s.heap.update d (Obj.putName name (PyData.keyHash w.params name) (.str name t) v)).get? d=some (dO w.params (l++[(name,t,v)]) (n+1)):=λ t=>by
  have:=Heap.get?_update_self (f:=Obj.putName name (PyData.keyHash w.params name) (.str name t) v) hd (by rw[e];rfl)
  rw[this,e]
 refine wpAny_bind (wpAny_lookBehind (e' _) (pastItsLine_dict (by rw[List.size_toArray,List.length_map,sizeLine_eq];simp;exact Nat.le_trans (by assumption) (by decide))) ?_)
 exact wpAny_pure (h _ _ (Heap.SameBut.update ..) (e' _))
end
theorem Bc {h:Heap} {a:Addr} (g:@LE.le Nat _ h.objs.size a):h.get? a=none:=by
 cases e:h.get? a with
 | none=>rfl
 | some o=>exact absurd (Heap.lt_size e) (Nat.not_lt.mpr g)
theorem Cq.freshOf {w:World} {s₀ s:Shared} {S:List Addr} {L:Addr} {m:SV} {news:AO} (D:Cq w (hide s₀.heap (S++[176,183])) s₀ L m news s) {a:Addr} {o:Obj} (hm:(a,o)∈news) (hS:a∉S):s₀.heap.get? a=none:=by
 have h:=(D.nw _ hm).2.2
 have h3:=D.hn _ hm
 rwa[Gm λ q=>?_] at h
 rcases List.mem_append.mp q with q|q
 ·exact hS q
 ·simp at q
  rcases q with q|q
  ·exact Av h3 176 (by decide) q
  ·exact Av h3 183 (by decide) q
noncomputable def vfD (P:Params) (t1 t2 t3 t4 t5 t6:Tok) (mx:Int) (tm:Tok) (cws:Str) (tc:Tok) (tl:Tok) (sp:Str) (ts:Tok) (la ax:Addr):Obj :=
 dO P [("_maxlen", t1,.int mx tm),("_continuation_ws", t2,.str cws tc),("_continuation_ws_len", t3,.int cws.length tl),("_splitchars", t4,.str sp ts),("_lines", t5,.ref la),("_current_line", t6,.ref ax)] 6
structure Aa (P:Params) (h:Heap) (x d la ax ad:Addr) (mx:Int) (cws sp:Str) (lines:List Str) (init:Int) (ps:List A0):Prop where
 ox:h.get? x=some (H0 d)
 od:∃ t1 t2 t3 t4 t5 t6 tm tc tl ts,h.get? d=some (vfD P t1 t2 t3 t4 t5 t6 mx tm cws tc tl sp ts la ax)
 ol:∃ (ls:List (Str×Tok)) (n:Nat),ls.map (·.1)=lines∧h.get? la=some {cls:=.type "list", data:=.seq (strValues ls).toArray n}
 acc:A2 P h ax ad init ps
 x3:@LE.le Nat _ 317 x
 d3:@LE.le Nat _ 317 d
 l3:@LE.le Nat _ 317 la
 few:lines.length≤200
theorem s_VF_init:∀ (w:World) {A:Around} {s:Shared} {x d:Addr} {hi mx:Int} {th tm tc ts:Tok} {cws sp:Str} (G:A5 w s) (R:A3 A 10) (hth:th≠0) (hcws:cws.length≤1000) (hx:s.heap.get? x=some (H0 d)) (hd:s.heap.get? d=some (dO w.params [] 0)) (hx3:@LE.le Nat _ 317 x) (hd3:@LE.le Nat _ 317 d),
  wpAny (MD w) A (call (.ref 71) [.ref x,.int hi th,.int mx tm,.str cws tc,.str sp ts]) (λ r s'=>r=.none∧A4 [d] s s'∧∃ la ax ad,Aa w.params s'.heap x d la ax ad mx cws sp [] hi []∧s.heap.get? la=none∧s.heap.get? ax=none∧s.heap.get? ad=none) no s:=by
 walk_at " w A s x d hi mx th tm tc ts cws sp G R hth hcws hx hd hx3 hd3"
 have hdx:=By hd hx (by intro h;cases h)
 have hx1:=Bz (S:=[d]) G hx hx3 (Gf (Ne.symm hdx))
 refine Ez (binds:=[("self", .ref x),("headerlen", .int hi th),("maxlen", .int mx tm),("continuation_ws", .str cws tc),("splitchars", .str sp ts)]) (R8 w) G R (by kernel_rfl) (by kernel_rfl) [(d,dO w.params [] 0)] (by simp) (Gc hd hd3 Jb) ?_
 walk_at " L s₁ D"
 refine wpAny_execs_cons ?_
 walk_at "s1"
 refine Lk D.k (D.old hx1) (D.at 0 rfl) (by kernel_rfl) (λ t=>by kernel_rfl) (Nat.le_of_ble_eq_true rfl) ?_
 walk_at " h1 t1 hs1 hg1"
 have D1:=D.setAt 0 (t:=s₁.toks+2) (Nat.le_add_right ..) rfl hs1 hg1
 walk_at "s1"
 refine Lk D1.k (D1.old hx1) (D1.at 0 rfl) (by kernel_rfl) (λ t=>by kernel_rfl) (Nat.le_of_ble_eq_true rfl) ?_
 walk_at " h2 t2 hs2 hg2"
 have D2:=D1.setAt 0 (t:=s₁.toks+2+2) (Nat.le_add_right ..) rfl hs2 hg2
 walk_at "s1"
 refine Am ?_
 (refine' F0 (.builtin "len") ?hD (by kernel_rfl) (by kernel_rfl) ?_;(case hD=>assumption))
 refine Co ?_
 walk_at "s1"
 refine⟨Bh,Mf (Nat.le_trans hcws (by decide)) ?_⟩
 have D3:=D2.toks 2
 walk_at "s1"
 refine Lk D3.k (D3.old hx1) (D3.at 0 rfl) (by kernel_rfl) (λ t=>by kernel_rfl) (Nat.le_of_ble_eq_true rfl) ?_
 walk_at " h4 t4 hs4 hg4"
 have D4:=D3.setAt 0 (t:=_) (Nat.le_add_right _ 2) rfl hs4 hg4
 walk_at "s1"
 refine Lk D4.k (D4.old hx1) (D4.at 0 rfl) (by kernel_rfl) (λ t=>by kernel_rfl) (Nat.le_of_ble_eq_true rfl) ?_
 walk_at " h5 t5 hs5 hg5"
 have D5:=D4.setAt 0 (t:=_) (Nat.le_add_right _ 2) rfl hs5 hg5
 walk_at "s1"
 rename_i s6 la D6 hla3
 refine Lk D6.k (D6.old hx1) (D6.at 1 rfl) (by kernel_rfl) (λ t=>by kernel_rfl) (Nat.le_of_ble_eq_true rfl) ?_
 walk_at " h7 t7 hs7 hg7"
 have D7:=D6.setAt 1 (t:=_) (Nat.le_add_right _ 2) rfl hs7 hg7
 walk_at "s1"
 refine Am ?_
 (refine' Pv (.ref 214) ?hD (by kernel_rfl) ?_;(case hD=>assumption))
 refine Co ?_
 walk_at "s1"
 refine⟨Cr D7.k (by kernel_rfl),wpAny_mono (M1 w D7.good (R.deeper _ |>.mono (by decide)) (.inr rfl)) ?_ λ _ _ e=>e.elim⟩
 walk_at " r s8 z"
 obtain⟨ax,ad,n8,t8,rfl,had,hax,st8,gx8,gd8⟩:=z
 walk_at "c ax ad n8 t8"
 have D8:=D7.step st8
 walk_at "s1"
 refine Lk D8.k (D8.old hx1) (D8.at 1 rfl) (by kernel_rfl) (λ t=>by kernel_rfl) (Nat.le_of_ble_eq_true rfl) ?_
 walk_at " h9 t9 hs9 hg9"
 have D9:=D8.setAt 1 (t:=_) (Nat.le_add_right _ 2) rfl hs9 hg9
 walk_at "s1"
 have hbase:∀ {L:Addr} {m:SV} {news:AO} {s':Shared},Cq w (hide s.heap ([d]++[176,183])) s L m news s'→@LT.lt Nat _ s.heap.objs.size s'.heap.objs.size:=λ D=>by
  have:=D.fr.above
  rw[Fz] at this
  exact Nat.lt_of_le_of_lt this D.fr.ns.lt
 have hlt7:=Nat.le_of_lt (hbase D7)
 have hds:@LT.lt Nat _ d s.heap.objs.size:=Heap.lt_size hd
 have hax2:@LE.le Nat _ s.heap.objs.size ax:=Nat.le_trans hlt7 hax
 have had2:@LE.le Nat _ s.heap.objs.size ad:=Nat.le_trans hlt7 had
 have hxd:ax≠d:=Nat.ne_of_gt (Nat.lt_of_lt_of_le hds hax2)
 have hdd:ad≠d:=Nat.ne_of_gt (Nat.lt_of_lt_of_le hds had2)
 refine⟨rfl,(D9.drop (List.sublist_cons_self ..)).ret,la,ax,ad,⟨D9.old hx1,⟨_,_,_,_,_,_,_,_,_,_,D9.at 1 rfl⟩,⟨[],0,rfl,D9.at 0 rfl⟩,⟨⟨n8,(hs9.2 _ hxd).trans gx8⟩,⟨t8,th,(hs9.2 _ hdd).trans gd8,hth⟩,λ _ h=>(nomatch h),Nat.le_trans G.vol.c hax2,Nat.le_trans G.vol.c had2,Nat.zero_le _⟩,hx3,hd3,hla3,Nat.zero_le _⟩,D9.freshOf (.head _) ?_,Bc hax2,Bc had2⟩
 walk_at " q"
 have:=D9.nd
 simp at this q
 exact this q
theorem A4.fresh {s s2 s':Shared} {S:List Addr} (x:A4 [] s s2) (y:A4 S s2 s') (h:∀ q∈S,s.heap.get? q=none):A4 [] s s' :=
 ⟨λ q o _ h2 h3 e=>y.keep q o (λ m=>by rw[h q m] at e;cases e) h2 h3 (x.keep q o (λ m=>nomatch m) h2 h3 e),Nat.le_trans x.size y.size,y.vol,x.calm.trans y.calm⟩
theorem vf_make:∀ (w:World) {A:Around} {s:Shared} {hi mx:Int} {th tm tc ts:Tok} {cws sp:Str} (G:A5 w s) (R:A3 A 12) (hth:th≠0) (hcws:cws.length≤1000),
  wpAny (MD w) A (call (.ref 130) [.int hi th,.int mx tm,.str cws tc,.str sp ts]) (λ r s'=>∃ x d la ax ad,r=.ref x∧A4 [] s s'∧Aa w.params s'.heap x d la ax ad mx cws sp [] hi []∧s.heap.get? x=none∧s.heap.get? d=none∧s.heap.get? la=none∧s.heap.get? ax=none∧s.heap.get? ad=none) no s:=by
 walk_at " w A s hi mx th tm tc ts cws sp G R hth hcws"
 have X:=G.st.k
 have Y:=makes_of (M:=MD w) X (C:=130) (by kernel_rfl)
 have call:=Y.call
 have typ:=Y.typ
 have made:=Y.made
 have hi2:findIn (K w.params) (.ref 130) "__init__" = some (some (.ref 71)):=by kernel_rfl
 obtain⟨oc,od,cd,sl,hC,e1,e2,e4⟩:=Y.obj
 walk_at "c oc od cd sl"
 have hmro:Looks (MD w) s.heap (mroOf (.ref 130)) cd.mro:=((Looks.ld (part:=none) hC).andThen .now).andThen .now
 refine wpAny_call (codeAny_of_tree ?_)
 show wpAny _ _ (callAny (.ref 130) _) _ _ _
 unfold callAny
 refine wpAny_bind (wpAny_load hC ?_)
 show wpAny _ _ (callAny.viaDunder (.ref 130) _) _ _ _
 unfold callAny.viaDunder
 refine wpAny_bind (call.here ?_)
 dsimp only
 rw[tc_bind]
 refine wpAny_bind (wpAny_pure (wpAny_bind (wpAny_pure ?_)))
 refine wpAny_pure (a:=Fin.again (.call (.builtin "type.__call__") ⟨.ref 130::[.int hi th,.int mx tm,.str cws tc,.str sp ts],[]⟩)) (And.intro rfl ?_)
 refine codeAny_call_builtin_at (Code.quiet_builtin _ (by decide +kernel)) entry_typeCall (check_slot tc_kind tc_split typ (tc_args _ _ _) ?_)
 have RU:A3 (A.under (.builtin "type.__call__" ⟨.ref 130::[.int hi th,.int mx tm,.str cws tc,.str sp ts],[]⟩)) 11:=by
  refine R.undr ?_ ?_
  ·exact Nat.le_of_eq (by kernel_rfl)
  ·exact Nat.le_trans (Nat.le_of_eq (show _=1 by kernel_rfl)) (by decide)
 unfold Builtin.«type.__call__»
 dsimp only
 rw[if_neg (by decide +kernel)]
 refine wpAny_bind (hmro.here ?_)
 rw[if_neg (by rw[e4];decide)]
 refine wpAny_bind (made.here ?_)
 refine wpAny_bind (wpAny_pure ?_)
 have up:∀ b o,s.heap.get? b=some o→((s.heap.push Bn).push (H0 s.heap.objs.size)).get? b=some o:=λ b o e=>Heap.get?_push_of_some _ (Heap.get?_push_of_some _ e)
 have hx:((s.heap.push Bn).push (H0 s.heap.objs.size)).get? (s.heap.objs.size+1)=some (H0 s.heap.objs.size):=Heap.get?_push_at (by rw[Heap.size_push]) rfl
 have hd:((s.heap.push Bn).push (H0 s.heap.objs.size)).get? s.heap.objs.size=some (dO w.params [] 0):=Heap.get?_push_of_some _ (Heap.get?_push_at rfl rfl)
 have X2:(K w.params).In ((s.heap.push Bn).push (H0 s.heap.objs.size)):=X.keeps up
 have hz:@LE.le Nat _ s.heap.objs.size ((s.heap.push Bn).push (H0 s.heap.objs.size)).objs.size:=by rw[Heap.size_push,Heap.size_push];exact Nat.le_add_right _ 2
 have G2:A5 w {s with heap:=(s.heap.push Bn).push (H0 s.heap.objs.size)}:=⟨G.st.keeps up,G.vol.keeps hz up,G.tk⟩
 have s2:A4 [] s {s with heap:=(s.heap.push Bn).push (H0 s.heap.objs.size)}:=⟨λ b o _ _ _ e=>up b o e,hz,G2.vol,Cx.heap (Nat.le_refl _)⟩
 have t1:Looks (MD w) ((s.heap.push Bn).push (H0 s.heap.objs.size)) (typeOf (.ref (s.heap.objs.size+1))) (.ref 130):=(Looks.ld hx).andThen .now
 have in1:Looks (MD w) ((s.heap.push Bn).push (H0 s.heap.objs.size)) (isInstance (.ref (s.heap.objs.size+1)) (.ref 130)) true:=t1.andThen (looks_mroIn X2 (by kernel_rfl))
 have sp1:Looks (MD w) ((s.heap.push Bn).push (H0 s.heap.objs.size)) (specialOf (.ref (s.heap.objs.size+1)) "__init__") (some (.ref 71)):=t1.andThen (looks_findIn X2 hi2)
 have bn:=bind_fn (M:=MD w) X2 (.ref (s.heap.objs.size+1)) (f:=71) (by kernel_rfl)
 have h3x:@LE.le Nat _ 317 (s.heap.objs.size+1):=Nat.le_succ_of_le G.vol.c
 obtain⟨hh,g,dd,tt,os⟩:=s
 walk_at "c hh g dd tt os"
 refine wpAny_bind (wpAny_holding (wpAny_call (new_K Y (looks_findIn X hi2) (.inl rfl) ?_)))
 dsimp only
 refine wpAny_bind (in1.at ?_)
 rw[if_neg (by decide)]
 refine wpAny_bind (wpAny_holding ?_)
 unfold callSpecial?
 refine wpAny_bind (sp1.at (wpAny_holding (wpAny_bind (bn.at (wpAny_bind ?_)))))
 refine wpAny_mono (s_VF_init w G2 RU.pred hth hcws hx hd h3x G.vol.c) ?_ λ _ _ e=>e.elim
 walk_at " r s' z"
 obtain⟨rfl,st,la,ax,ad,V,f1,f2,f3⟩:=z
 walk_at "c la ax ad"
 have old:∀ a,((hh.push Bn).push (H0 hh.objs.size)).get? a=none→hh.get? a=none:=λ a e=>by
  cases q:hh.get? a with
  | none=>rfl
  | some o=>rw[up a o q] at e;cases e
 refine wpAny_pure (wpAny_pure ⟨_,_,la,ax,ad,rfl,s2.fresh st ?_,V,Bc (Nat.le_succ _),Bc (Nat.le_refl _),old _ f1,old _ f2,old _ f3⟩)
 walk_at " q hq"
 rw[List.mem_singleton.mp hq]
 exact Bc (Nat.le_refl _)
section
variable {w:World} {base:Heap} {s₀:Shared} {L:Addr} {m:SV} {news:AO} {s:Shared}
end
section
variable {w:World} {A:Around} {s:Shared} {env:Env}
theorem On {target:PySem.Expr} {body orelse:List Stmt} {I:Addr} {fp wr:List Addr} {n:Nat} {P:Nat→Value→Prop} {St:Nat→Heap→Prop} {Q:FP} {E:VP}
  (W:Walks PySem.Challenge.pw_wv0051_01 w A I fp wr n P St) (Inv:Nat→Shared→Prop) (hSt:∀ i s,Inv i s→St i s.heap)
  (turn:∀ i s,i<n→Inv i s→∀ v h' tk,P i v→St (i+1) h'→(∀ b o,b∉wr→s.heap.get? b=some o→h'.get? b=some o)→s.toks≤tk →
   wpAny (MD w) A (assign target env v) (λ _ s₂=>wpAny (MD w) A (execs body env) (λ f s₃=>match f with|.next|.cont=>Inv (i+1) s₃|.brk=>Q .next s₃|.ret v=>Q (.ret v) s₃) (λ _ _=>False) s₂) (λ _ _=>False) {s with heap:=h',toks:=tk})
  (done:∀ s,Inv n s→∀ h' tk,(∀ b o,b∉wr→s.heap.get? b=some o→h'.get? b=some o)→s.toks≤tk→wpAny (MD w) A (execs orelse env) Q (λ _ _=>False) {s with heap:=h',toks:=tk})
  (h0:Inv 0 s) (ht:∀ v,letOwnedTupleGo target (.ref I) v=pure ():=by intro _;rfl) :
  codeAny (MD w) A (.forLoop target (.ref I) body orelse env) (λ r s'=>match r with|.ok f=>Q f s'|.error e=>E e s') s:=by
 walk_at "c w A s env target body orelse I fp wr n P St Q E W Inv hSt turn done h0 ht"
 refine codeAny_forLoop (λ k s'=>∃ i,Inv i s'∧i≤n∧k=n+1-i) ?_ (n+1) ⟨0,h0,Nat.zero_le _,rfl⟩ ht
 rintro k s' ⟨i,hI,hi,rfl⟩
 walk_at "c s' i"
 by_cases hlt:i<n
 ·refine wpAny_with_toks (Nat.le_refl s'.toks) (W.item i s' _ _ hlt (hSt _ _ hI) ?_)
  walk_at " v h₁ tk₁ hP hst₁ hk₁ htk"
  refine wpAny_mono (turn i s' hlt hI v h₁ tk₁ hP hst₁ hk₁ htk) ?_ λ _ _ e=>e.elim
  walk_at " _ s₂ h₂"
  refine wpAny_mono h₂ ?_ λ _ _ e=>e.elim
  walk_at " f s₃ h₃"
  cases f with
  | next=>exact⟨n+1-(i+1),by omega,i+1,h₃,hlt,rfl⟩
  | cont=>exact⟨n+1-(i+1),by omega,i+1,h₃,hlt,rfl⟩
  | brk=>exact h₃
  | ret v=>exact h₃
 ·have hin:i=n:=by omega
  subst hin
  refine wpAny_with_toks (Nat.le_refl s'.toks) (W.done s' _ _ (hSt _ _ hI) ?_)
  walk_at " h₁ tk₁ hk₁ htk"
  exact wpAny_mono (done s' hI h₁ tk₁ hk₁ htk) (λ f s₃ h₃=>h₃) λ _ _ e=>e.elim
end
section
variable {P:Params} {s s':Shared} {x d:Addr} {init:Int} {ps:List A0}
theorem A2.nx (q:A2 P s.heap x d init ps) {y:A0} (h:s.heap.get? y.a=some y.obj):y.a≠x∧y.a≠d:=by
 obtain⟨n,hx⟩:=q.ox
 obtain⟨t,ti,hd,_⟩:=q.od
 exact⟨By h hx (by show (Value.type "tuple")≠.ref 214;intro h;cases h),By h hd (by show (Value.type "tuple")≠.type "dict"; simp)⟩
theorem A2.dx (q:A2 P s.heap x d init ps):d≠x:=by
 obtain⟨n,hx⟩:=q.ox
 obtain⟨t,ti,hd,_⟩:=q.od
 exact By hd hx (by intro h;cases h)
theorem A4.get {S:List Addr} (st:A4 S s s') {b:Addr} {o:Obj} (h3:@LE.le Nat _ 317 b) (hS:b∉S) (e:s.heap.get? b=some o):s'.heap.get? b=some o:=st.keep b o hS (Av h3 176 (by decide)) (Av h3 183 (by decide)) e
noncomputable def Ar (h:Heap) (y:A0):Prop:=h.get? y.a=some y.obj∧@LE.le Nat _ 317 y.a∧y.b.length≤1000∧y.p.length≤1000
theorem A2.pieces (q:A2 P s.heap x d init ps) (st:A4 [x,d] s s') {r:List A0} (hr:∀ y∈r,Ar s.heap y):∀ y∈r,Ar s'.heap y:=λ y hy=>by
 obtain⟨a,b,c⟩:=hr y hy
 have n:=q.nx a
 exact⟨st.get b (Hg n.1 n.2) a,b,c⟩
theorem A4.w1 (st:A4 [x] s s'):A4 [x,d] s s':=st.weaken λ q hq=>by rw[List.mem_singleton.mp hq];exact .head _
end
theorem Lj:∀ (w:World) {A:Around} {s:Shared} {x d:Addr} {init:Int} {ps:List A0} {b p:Str} {tb tp:Tok} (G:A5 w s) (R:A3 A 6) (q:A2 w.params s.heap x d init ps) (hb:b.length≤1000) (hp:p.length≤1000) (hf:ps.length≤199),
  wpAny (MD w) A (call (.ref 158) [.ref x,.str b tb,.str p tp]) (λ r s'=>r=.none∧A4 [x,d] s s'∧∃ a,A2 w.params s'.heap x d init (ps++[⟨a,b,tb,p,tp⟩])) no s:=by
 walk_at " w A s x d init ps b p tb tp G R q hb hp hf"
 obtain⟨n,hx⟩:=q.ox
 walk_at "c n"
 obtain⟨t,ti,hd,hti⟩:=q.od
 walk_at "c t ti"
 refine wpAny_mono (s_push w G R hx hd q.x3 q.d3 (by simp;exact Nat.le_trans (by assumption) (by decide))) ?_ λ _ _ e=>e
 walk_at " r s' z"
 obtain⟨rfl,st,a,hx',ha,ha3⟩:=z
 walk_at "c a"
 have hps:=q.pieces st.w1 q.tup
 refine⟨rfl,st.w1,a,⟨⟨n+1,by simpa using hx'⟩,⟨t,ti,st.get q.d3 (Gf q.dx) hd,hti⟩,?_,q.x3,q.d3,by simp;omega⟩⟩
 walk_at " y hy"
 rcases List.mem_append.mp hy with hy|hy
 ·exact hps y hy
 ·rw[List.mem_singleton.mp hy]
  exact⟨ha,ha3,hb,hp⟩
theorem s_popA:∀ (w:World) {A:Around} {s:Shared} {x d:Addr} {init:Int} {ps:List A0} {y:A0} (G:A5 w s) (R:A3 A 7) (q:A2 w.params s.heap x d init (ps++[y])),
  wpAny (MD w) A (call (.ref 174) [.ref x]) (λ r s'=>r=.ref y.a∧A4 [x,d] s s'∧A2 w.params s'.heap x d init ps∧Ar s'.heap y) no s:=by
 walk_at " w A s x d init ps y G R q"
 obtain⟨n,hx⟩:=q.ox
 walk_at "c n"
 obtain⟨t,ti,hd,hti⟩:=q.od
 walk_at "c t ti"
 have hf:=q.few
 rw[List.map_append] at hx
 refine wpAny_mono (s_pop w (last:=.ref y.a) G R hx hd q.x3 q.d3 (by simp at hf ⊢;exact Nat.le_trans (by assumption) (by decide))) ?_ λ _ _ e=>e
 walk_at " r s' z"
 obtain⟨rfl,st,n',hx'⟩:=z
 walk_at "c n'"
 have hps:=q.pieces st.w1 q.tup
 exact⟨rfl,st.w1,⟨⟨n',hx'⟩,⟨t,ti,st.get q.d3 (Gf q.dx) hd,hti⟩,λ z hz=>hps z (List.mem_append_left _ hz),q.x3,q.d3,by simp at hf ⊢;exact Nat.le_trans (by assumption) (by decide)⟩,hps y (by simp)⟩
theorem s_resetA0:∀ (w:World) {A:Around} {s:Shared} {x d:Addr} {init:Int} {ps:List A0} (G:A5 w s) (R:A3 A 6) (q:A2 w.params s.heap x d init ps),
  wpAny (MD w) A (call (.ref 196) [.ref x]) (λ r s'=>r=.none∧A4 [x,d] s s'∧A2 w.params s'.heap x d 0 []) no s:=by
 walk_at " w A s x d init ps G R q"
 obtain⟨n,hx⟩:=q.ox
 walk_at "c n"
 obtain⟨t,ti,hd,hti⟩:=q.od
 walk_at "c t ti"
 have hf:=q.few
 refine wpAny_mono (s_reset0 w G R hx hd q.x3 q.d3 (by simp;exact Nat.le_trans (by assumption) (by decide))) ?_ λ _ _ e=>e
 walk_at " r s' z"
 obtain⟨rfl,st,n',t',hx',hd',ht'⟩:=z
 walk_at "c n' t'"
 exact⟨rfl,st,⟨⟨n',hx'⟩,⟨t,t',hd',ht'⟩,λ _ h=>(nomatch h),q.x3,q.d3,Nat.zero_le _⟩⟩
theorem s_resetA1:∀ (w:World) {A:Around} {s:Shared} {x d b:Addr} {init:Int} {ps rs:List A0} {n2:Nat} (G:A5 w s) (R:A3 A 6) (q:A2 w.params s.heap x d init ps) (hb:s.heap.get? b=some {cls:=.type "list", data:=.seq (rs.map λ y=>Value.ref y.a).toArray n2}) (hb3:@LE.le Nat _ 317 b) (hrs:∀ y∈rs,Ar s.heap y) (hf2:rs.length≤200),
  wpAny (MD w) A (call (.ref 196) [.ref x,.ref b]) (λ r s'=>r=.none∧A4 [x,d] s s'∧A2 w.params s'.heap x d 0 rs) no s:=by
 walk_at " w A s x d b init ps rs n2 G R q hb hb3 hrs hf2"
 obtain⟨n,hx⟩:=q.ox
 walk_at "c n"
 obtain⟨t,ti,hd,hti⟩:=q.od
 walk_at "c t ti"
 have hf:=q.few
 refine wpAny_mono (s_reset1 w G R hx hd hb q.x3 q.d3 hb3 (by simp;exact Nat.le_trans (by assumption) (by decide)) (by simp;exact Nat.le_trans (by assumption) (by decide))) ?_ λ _ _ e=>e
 walk_at " r s' z"
 obtain⟨rfl,st,n',t',hx',hd',ht'⟩:=z
 walk_at "c n' t'"
 exact⟨rfl,st,⟨⟨n',hx'⟩,⟨t,t',hd',ht'⟩,q.pieces st hrs,q.x3,q.d3,hf2⟩⟩
theorem Rn:∀ (w:World) {A:Around} {s:Shared} {x d:Addr} {init:Int} {ps:List A0} {i:Nat} {ti:Tok} (G:A5 w s) (R:A3 A 6) (q:A2 w.params s.heap x d init ps) (hi:i≤ps.length),
  wpAny (MD w) A (call (.ref 166) [.ref x,.int i ti]) (λ r s'=>A4 [x,d] s s'∧∃ b,r=.ref b∧@LE.le Nat _ s.heap.objs.size b∧s'.heap.get? b=some {cls:=.type "list", data:=.seq ((ps.drop i).map λ y=>Value.ref y.a).toArray}∧A2 w.params s'.heap x d init (ps.take i)∧∀ y∈ps,Ar s'.heap y) no s:=by
 walk_at " w A s x d init ps i ti G R q hi"
 obtain⟨n,hx⟩:=q.ox
 walk_at "c n"
 obtain⟨t,ti,hd,hti⟩:=q.od
 walk_at "c t ti"
 have hf:=q.few
 refine wpAny_mono (Rm w (i:=i) G R hx hd q.x3 q.d3 (by simp;exact Nat.le_trans (by assumption) (by decide)) (by simpa using hi)) ?_ λ _ _ e=>e
 walk_at " r s' z"
 obtain⟨st,b,n',rfl,hlt,hx',hb⟩:=z
 walk_at "c b n'"
 have hps:=q.pieces st.w1 q.tup
 rw[← List.map_take] at hx'
 rw[← List.map_drop] at hb
 exact⟨st.w1,b,rfl,hlt,hb,⟨⟨n',hx'⟩,⟨t,ti,st.get q.d3 (Gf q.dx) hd,hti⟩,λ y hy=>hps y (List.mem_of_mem_take hy),q.x3,q.d3,Nat.le_trans (by rw[List.length_take];simp_all +arith) hf⟩,hps⟩
theorem Qq:∀ (w:World) {A:Around} {s:Shared} {x d:Addr} {init:Int} {ps:List A0} (G:A5 w s) (R:A3 A 6) (q:A2 w.params s.heap x d init ps),
  wpAny (MD w) A (call (.ref 166) [.ref x]) (λ r s'=>A4 [x,d] s s'∧∃ b,r=.ref b∧@LE.le Nat _ s.heap.objs.size b∧s'.heap.get? b=some {cls:=.type "list", data:=.seq (ps.map λ y=>Value.ref y.a).toArray}∧A2 w.params s'.heap x d init []∧∀ y∈ps,Ar s'.heap y) no s:=by
 walk_at " w A s x d init ps G R q"
 obtain⟨n,hx⟩:=q.ox
 walk_at "c n"
 obtain⟨t,ti,hd,hti⟩:=q.od
 walk_at "c t ti"
 have hf:=q.few
 refine wpAny_mono (Rl w G R hx hd q.x3 q.d3 (by simp;exact Nat.le_trans (by assumption) (by decide))) ?_ λ _ _ e=>e
 walk_at " r s' z"
 obtain⟨st,b,n',rfl,hlt,hx',hb⟩:=z
 walk_at "c b n'"
 have hps:=q.pieces st.w1 q.tup
 exact⟨st.w1,b,rfl,hlt,hb,⟨⟨n',hx'⟩,⟨t,ti,st.get q.d3 (Gf q.dx) hd,hti⟩,λ y hy=>(nomatch hy),q.x3,q.d3,Nat.zero_le _⟩,hps⟩
theorem s_popA0:∀ (w:World) {A:Around} {s:Shared} {x d:Addr} {init:Int} (G:A5 w s) (R:A3 A 7) (q:A2 w.params s.heap x d init []),
  wpAny (MD w) A (call (.ref 174) [.ref x]) (λ r s'=>∃ y:A0,r=.ref y.a∧y.b = "" ∧ y.p = "" ∧ A4 [x,d] s s'∧A2 w.params s'.heap x d init []∧Ar s'.heap y) no s:=by
 walk_at " w A s x d init G R q"
 obtain⟨n,hx⟩:=q.ox
 walk_at "c n"
 obtain⟨t,ti,hd,hti⟩:=q.od
 walk_at "c t ti"
 have hx1:=Bz (S:=[]) G hx q.x3 (by simp)
 have hd1:=Bz (S:=[]) G hd q.d3 (by simp)
 refine Jm (binds:=[("self", .ref x)]) (Kl w) G R (by kernel_rfl) (by kernel_rfl) [] List.nodup_nil (λ _ h=>nomatch h) ?_
 walk_at " L s₁ D"
 conv in (execs Id _)=>arg 1;unfold Id;whnf
 refine ks_wpAt_execs_cons (ks_wpAt_If (_root_.PySem.wpAt_of_wpAny ?_))
 walk_at "s1"
 refine Ak ?_
 walk_at "s1"
 walk_at " pl"
 refine Kg (.ref 211) (.type "function") D.k (D.old hx1) (D.old hd1) (by kernel_rfl) (by kernel_rfl) (by decide +kernel) (by kernel_rfl) ?_
 refine Ha ⟨Cr D.k (by kernel_rfl),?_⟩
 refine wpAny_mono (Ik w D.good (R.deeper _) (D.old hx1) (D.old hd1) q.x3 q.d3 (by simp)) ?_ λ _ _ e=>e.elim
 walk_at " r s₂ h₂"
 obtain⟨⟨t',ht',rfl⟩,st2⟩:=h₂
 walk_at "c t'"
 have D2:=D.step st2
 walk_at "s1"
 refine Bk (by simp) ?_
 refine _root_.PySem.wpAt_of_wpAny ?_
 walk_at "s1"
 rename_i s5 a D5 ha3
 have st:=D5.ret
 exact⟨⟨a,_,_,_,_⟩,rfl,rfl,rfl,st.weaken (λ _ h=>nomatch h),q.keeps λ b o h3 e=>st.get h3 (λ h=>nomatch h) e,D5.at 0 rfl,ha3,by show (Str.ofString "").length≤1000;decide +kernel,by show (Str.ofString "").length≤1000;decide +kernel⟩
section
variable {w:World} {A:Around} {E:VP} {s:Shared} {x d:Addr} {its:List Value} {n:Nat} {t:Tok} {iv:Value}
theorem a_getm {e:Bool} {Q:VP} (X:(K w.params).In s.heap) (hx:s.heap.get? x=some (A8 d its n)) (hd:s.heap.get? d=some (A9 w.params t iv))
  (h:Q (.ref s.heap.objs.size) {s with heap:=s.heap.push (methodObj (.ref 158) (.ref x)),toks:=s.toks+1}):wpAny (MD w) A (getAttr (.ref x) "push" e) Q E s:=by
 walk_at "c w A E s x d its n t iv e Q X hx hd h"
 have I:=Gi hx hd
 have L1:=looks_find (M:=MD w) (name := "push") (r:=.bind (.builtin "function.__get__") (.ref 158)) X I (by kernel_rfl)
 refine wpAny_bind (wpAny_mkText (wpAny_holding (wpAny_bind (I.type.at (wpAny_bind ((looks_findIn X (O9 _)).at ?_))))))
 dsimp only
 rw[show (onTheHeap (.ref 214) && Value.builtin "list.__getattribute__" == Value.builtin "object.__getattribute__")=false from by decide +kernel,if_neg (by decide)]
 refine wpAny_bind ((looks_hook X (mc:=.ref 214) (r:=none) (by kernel_rfl)).at (wpAny_bind (wpAny_attempt (wpAny_holding ?_))))
 unfold callGetattribute
 rw[show (e && onTheHeap (Value.builtin "list.__getattribute__"))=false from Bool.and_false _,if_neg (by decide)]
 unfold boundAndCalled
 rw[F.slot_list_getattribute.bind]
 refine wpAny_bind (wpAny_pure ?_)
 show wpAny _ _ (call (.builtin "list.__getattribute__") [.ref x,.str "push" s.toks]) _ _ _
 refine wpAny_call (codeAny_call_builtin F.slot_list_getattribute.plain F.entry_list_ga (@check_slot (MD w) _ _ {s with toks:=s.toks+1} "list.__getattribute__" "list" "__getattribute__" (.ref x) [.str "push" s.toks] [] _ (by decide +kernel) (by decide +kernel) (J8 X I) (F.args_list_getattribute_2 _ _) ?_))
 refine wpAny_bind (wpAny_pure (wpAny_bind (wpAny_pure (wpAny_bind (I.type.at (wpAny_bind (L1.at ?_)))))))
 have hf158:({s with toks:=s.toks+1}:Shared).TypeIs (.ref 158) "function" := ⟨_,X 158 _ (Hw w).at_,rfl⟩
 show wpAny _ _ (holding [.ref 158] (call (.builtin "function.__get__") [.ref 158,.ref x,.ref 214]) >>= ret) _ _ _
 refine wpAny_bind (wpAny_holding (wpAny_call_entry F.ks_slot_function_get hf158 F.ks_entry_function_get ?_ (F.ks_getArgs_function _ _ _)))
 show wpAny _ _ (do ret (← newFields "method" [.ref 158,.ref x])) _ _ _
 refine wpAny_bind (wpAny_newObj_type (wpAny_pure ⟨_,rfl,wpAny_pure ?_⟩))
 show wpAny _ _ (handedOut (.ref s.heap.objs.size)) _ _ _
 rw[handedOut_of (by rfl)]
 exact wpAny_pure h
end
theorem codeFn {w:World} {A:Around} {s:Shared} {f:Addr} {pos:List Value} {kw:List (Str×Value)} {Q:VP} {E:VP} {n:Nat} {fd:FuncData} {body:List Stmt} {binds:List (Str×Value)}
  (d:Ef w f fd body) (G:A5 w s) (R:A3 A (n+1)) (hb:peek (K w.params) ⟨PySem.Challenge.pw_wv0051_01,w.params⟩ (bindArgs fd ⟨pos,kw⟩)=some binds)
  (hloc:(binds.all λ x=>decide (fd.scope.names.lookup x.1=some .local))=true)
  (news:AO) (hnd:(news.map (·.1)).Nodup) (hnw:∀ p∈news,s.heap.get? p.1=some p.2∧@LE.le Nat _ 317 p.1)
  (h:∀ L s₁,Cq w (hide s.heap (news.map (·.1)++[176,183])) s L (λ x=>binds.reverse.lookup x) news s₁ →
   wpAny (MD w) (A.deeper (fenv fd f L)) (execs body (fenv fd f L)) (λ fl s'=>Q (Ej fl) s') (λ _ _=>False) s₁) :
  codeAny (MD w) A (.call (.ref f) ⟨pos,kw⟩) (λ r s'=>match r with|.ok (.ret v)=>Q v s'|.ok _=>False|.error e=>E e s') s:=by
 refine codeAny_call_function R.depth (G.st.k _ _ d.at_) rfl d.co d.gen d.body (codeRec_of G.st.k d.code) ?_
 refine Looks.of_peek (M:=MD w) G.st.k hb A.in1 _ _ s (λ _ _ e=>e) ?_
 refine wpAny_newFunctionEnv d.cell (locs hloc) (λ h₁ hns hsb=>⟨G.st.nolimit.fresh _ hsb,?_⟩) d.kind
 refine codeAny_func (wpAny_mono (h s.heap.objs.size _ ?_) (λ fl s' z=>?_) λ _ _ z=>z.elim)
 ·have up:∀ b o,s.heap.get? b=some o→h₁.get? b=some o:=λ b o e=>hsb.extBut b o (Nat.ne_of_lt (Heap.lt_size e)) (Heap.get?_push_of_some _ e)
  refine⟨⟨hns,λ b o e=>up b o (Kq e).1,by rw[Fz];exact Nat.le_refl _⟩,λ p hp=>⟨up _ _ (hnw p hp).1,Nat.ne_of_lt (Heap.lt_size (hnw p hp).1),Fk (List.mem_append_left _ (List.mem_map_of_mem hp))⟩,
   hnd,G.vol.keeps (by rw[hsb.1,Heap.size_push];exact Nat.le_succ _) up,Cx.heap (Nat.le_add_right ..),Nat.lt_of_lt_of_le G.tk (Nat.le_add_right ..),
   G.st.hide λ a ha=>?_,Fk (List.mem_append_right _ (.head _)),Fk (List.mem_append_right _ (.tail _ (.head _))),G.vol.c,λ p hp=>(hnw p hp).2⟩
  rcases List.mem_append.mp ha with q|q
  ·obtain⟨p,hp,rfl⟩:=List.mem_map.mp q;exact .inl (hnw p hp).2
  ·simp at q;rcases q with q|q
   ·exact .inr (.inl q)
   ·exact .inr (.inr (.inl q))
 ·cases fl<;>exact z
theorem s_pushC:∀ (w:World) {A:Around} {s:Shared} {x d:Addr} {its:List Value} {n:Nat} {t:Tok} {iv v1 v2:Value} (G:A5 w s) (R:A3 A 6) (hx:s.heap.get? x=some (A8 d its n)) (hd:s.heap.get? d=some (A9 (w.params) t iv)) (hx3:@LE.le Nat _ 317 x) (hd3:@LE.le Nat _ 317 d) (hsz:its.length≤1000),
  codeAny (MD w) A (.call (.ref 158) ⟨[.ref x,v1,v2],[]⟩) (λ r s'=>match r with|.ok (.ret r)=>(r=.none∧A4 [x] s s'∧∃ a,s'.heap.get? x=some (A8 d (its++[.ref a]) (n+1))∧s'.heap.get? a=some {cls:=.type "tuple", data:=.seq #[v1,v2]}∧@LE.le Nat _ 317 a)|.ok _=>False|.error e=>no e s') s:=by
 walk_at " w A s x d its n t iv v1 v2 G R hx hd hx3 hd3 hsz"
 have hd1:=Bz (S:=[x]) G hd hd3 (by rw[List.mem_singleton];exact By hd hx (by intro h;cases h))
 refine codeFn (Q:=λ r s'=>r=.none∧A4 [x] s s'∧∃ a,s'.heap.get? x=some (A8 d (its++[.ref a]) (n+1))∧s'.heap.get? a=some {cls:=.type "tuple", data:=.seq #[v1,v2]}∧@LE.le Nat _ 317 a) (binds:=[("self", .ref x),("fws", v1),("string", v2)]) (Hw w) G R (by kernel_rfl) (by kernel_rfl) [(x,A8 d its n)] (by simp) (λ p h=>by rw[List.mem_singleton.mp h];exact⟨hx,hx3⟩) ?_
 walk_at " L s₁ D"
 refine wpAny_execs_cons ?_
 walk_at "s1"
 refine Ak ?_
 walk_at "s1"
 walk_at " pl"
 refine Kg (.builtin "list.append") (.type "method_descriptor") D.k (D.at 0 rfl) (D.old hd1) (by kernel_rfl) (by kernel_rfl) (by decide +kernel) (by kernel_rfl) ?_
 refine Co ?_
 walk_at "s1"
 refine⟨Bh,Ms (Cq.k (by assumption)) (Cq.at (by assumption) 1 rfl) (Cq.old (by assumption) hd1) ?_ hsz⟩
 walk_at " h' hs hg"
 rename_i s₂ a D2 ha
 have D3:=D2.setAt 1 (t:=s₂.toks) (Nat.le_refl _) rfl hs hg
 walk_at "s1"
 exact⟨rfl,D3.ret,a,D3.at 1 rfl,D3.at 0 rfl,ha⟩
theorem S7 {w:World} {A:Around} {E:VP} {s:Shared} {env:Env} {o e:PySem.Expr} {name:Str} {apos pos p:Pos} {Q:VP}
  (h:wpAny (MD w) A (eval o env) (λ ov s₁=>wpAny (MD w) A (getAttr ov name true) (λ fv s₂=>wpAny (MD w) A (callWith pos fv [] (backTo pos (starEach [.Starred e p] env)) (backToKw pos (keywordEach [] env))) Q E s₂) E s₁) E s)
  (hb:attributeBase o name env (eval o env)=eval o env:=by kernel_rfl):wpAny (MD w) A (eval (.Call (.Attribute o name apos) [.Starred e p] [] pos) env) Q E s:=by
 rw[arm_eval_Call,hb]
 refine wpAny_bind (wpAny_mono h (λ ov s₁ h₁=>wpAny_bind (wpAny_standAt ?_)) λ _ _ e=>e)
 unfold methodCall
 rw[show methodCallForm (([.Starred e p]:List PySem.Expr).length+([]:List PySem.Keyword).length) (backTo pos (starEach [.Starred e p] env)) (backToKw pos (keywordEach [] env))=false from rfl]
 refine wpAny_bind (wpAny_holding ?_)
 show wpAny (MD w) A (do pure (← getAttr ov name true,[])) _ _ _
 refine wpAny_bind (wpAny_mono h₁ (λ fv s₂ h₂=>wpAny_pure ?_) λ _ _ e=>e)
 dsimp only
 exact wpAny_bind (wpAny_pure h₂)
theorem cwstar {w:World} {A:Around} {E:VP} {s:Shared} {env:Env} {f:Value} {first:List Value} {e:PySem.Expr} {pos p:Pos} {Q:VP}
  (h:wpAny (MD w) A (eval e env) (λ v s₁=>StarOf (MD w) A E v (λ vs s₂=>Hb w f s₂.heap∧wpAny (MD w) A (call f (first++vs)) Q E s₂) s₁) E s) :
  wpAny (MD w) A (callWith pos f first (backTo pos (starEach [.Starred e p] env)) (backToKw pos (keywordEach [] env))) Q E s:=by
 show wpAny (MD w) A (callWith pos f first (backTo pos (starEach [.Starred e p] env)) []) Q E s
 rw[show starEach [.Starred e p] env=[(true,eval e env)] from rfl]
 exact ks_call (P:=Hb w f) rfl (λ _ hk=>hk) (ks_lone h)
theorem kp_method {w:World} {q:Addr} {h:Heap} (X:(K w.params).In h) (e:h.get? q=some (methodObj (.ref 158) (.ref 0))∨∃ x,h.get? q=some (methodObj (.ref 158) x)):Hb w (.ref q) h:=by
 obtain⟨x,e⟩:∃ x,h.get? q=some (methodObj (.ref 158) x):=e.elim (λ h=>⟨_,h⟩) id
 refine⟨.boundFrame,.inr (.inr rfl),?_⟩
 unfold keeperOf
 refine (Looks.ld (part:=none) e).andThen ?_
 refine (Looks.ld (part:=none) (X 158 _ (Hw w).at_)).andThen ?_
 exact Looks.of_pure (by kernel_rfl)
section
variable {P:Params} {s s':Shared} {x d la ax ad:Addr} {mx:Int} {cws sp:Str} {lines:List Str} {init:Int} {ps:List A0}
theorem vfD_ne {t1 t2 t3 t4 t5 t6:Tok} {tm tc tl ts t:Tok} {v:Value} {la ax:Addr}:vfD P t1 t2 t3 t4 t5 t6 mx tm cws tc tl sp ts la ax≠A9 P t v:=by
 intro h
 have h2:=congrArg (λ o:Obj=>match o.data with|.dict es _=>es.size|_=>0) h
 simp[vfD,dO,A9] at h2
theorem ne_obj {h:Heap} {a b:Addr} {oa ob:Obj} (ha:h.get? a=some oa) (hb:h.get? b=some ob) (n:oa≠ob):a≠b:=by
 rintro rfl;rw[ha] at hb;cases hb;exact n rfl
theorem Aa.nx (V:Aa P s.heap x d la ax ad mx cws sp lines init ps):x∉[ax,ad]∧d∉[ax,ad]∧la∉[ax,ad]:=by
 obtain⟨n,hx⟩:=V.acc.ox
 obtain⟨t,ti,hd,_⟩:=V.acc.od
 obtain⟨t1,t2,t3,t4,t5,t6,tm,tc,tl,ts,e⟩:=V.od
 obtain⟨ls,n',_,l⟩:=V.ol
 refine⟨Hg (By V.ox hx ?_) (By V.ox hd ?_),Hg (By e hx ?_) (ne_obj e hd vfD_ne),Hg (By l hx ?_) (By l hd ?_)⟩
 ·show Value.ref 130≠.ref 214;decide +kernel
 ·show Value.ref 130≠.type "dict"; intro h;cases h
 ·show Value.type "dict" ≠ .ref 214;intro h;cases h
 ·show Value.type "list" ≠ .ref 214;intro h;cases h
 ·show Value.type "list" ≠ .type "dict"; simp
theorem Aa.onAcc (V:Aa P s.heap x d la ax ad mx cws sp lines init ps) (st:A4 [ax,ad] s s') {init':Int} {ps':List A0} (q:A2 P s'.heap ax ad init' ps'):Aa P s'.heap x d la ax ad mx cws sp lines init' ps':=by
 have nx:=V.nx
 obtain⟨t1,t2,t3,t4,t5,t6,tm,tc,tl,ts,e⟩:=V.od
 obtain⟨ls,n',el,l⟩:=V.ol
 exact⟨st.get V.x3 nx.1 V.ox,⟨t1,t2,t3,t4,t5,t6,tm,tc,tl,ts,st.get V.d3 nx.2.1 e⟩,⟨ls,n',el,st.get V.l3 nx.2.2 l⟩,q,V.x3,V.d3,V.l3,V.few⟩
theorem Aa.keeps (V:Aa P s.heap x d la ax ad mx cws sp lines init ps) {h':Heap} (hk:∀ b o,@LE.le Nat _ 317 b→s.heap.get? b=some o→h'.get? b=some o):Aa P h' x d la ax ad mx cws sp lines init ps:=by
 obtain⟨t1,t2,t3,t4,t5,t6,tm,tc,tl,ts,e⟩:=V.od
 obtain⟨ls,n',el,l⟩:=V.ol
 exact⟨hk _ _ V.x3 V.ox,⟨t1,t2,t3,t4,t5,t6,tm,tc,tl,ts,hk _ _ V.d3 e⟩,⟨ls,n',el,hk _ _ V.l3 l⟩,V.acc.keeps hk,V.x3,V.d3,V.l3,V.few⟩
theorem Aa.step (V:Aa P s.heap x d la ax ad mx cws sp lines init ps) (st:A4 [] s s'):Aa P s'.heap x d la ax ad mx cws sp lines init ps:=V.keeps λ _ _ h3 e=>st.get h3 (λ h=>nomatch h) e
theorem Aa.onLines (V:Aa P s.heap x d la ax ad mx cws sp lines init ps) {h':Heap} (hk:∀ b o,b≠la→s.heap.get? b=some o→h'.get? b=some o) {lines':List Str} (hl:∃ (ls:List (Str×Tok)) (n:Nat),ls.map (·.1)=lines'∧h'.get? la=some {cls:=.type "list", data:=.seq (strValues ls).toArray n}) (hf:lines'.length≤200) :
  Aa P h' x d la ax ad mx cws sp lines' init ps:=by
 have nx:=V.nx
 obtain⟨n,hx⟩:=V.acc.ox
 obtain⟨t,ti,hd,hti⟩:=V.acc.od
 obtain⟨t1,t2,t3,t4,t5,t6,tm,tc,tl,ts,e⟩:=V.od
 obtain⟨ls,n',el,l⟩:=V.ol
 have na:ax≠la:=λ h=>nx.2.2 (by rw[← h];exact .head _)
 have nd:ad≠la:=λ h=>nx.2.2 (by rw[← h];exact .tail _ (.head _))
 refine⟨hk _ _ (By V.ox l ?_) V.ox,⟨t1,t2,t3,t4,t5,t6,tm,tc,tl,ts,hk _ _ (By e l ?_) e⟩,hl,⟨⟨n,hk _ _ na hx⟩,⟨t,ti,hk _ _ nd hd,hti⟩,λ y hy=>?_,V.acc.x3,V.acc.d3,V.acc.few⟩,V.x3,V.d3,V.l3,hf⟩
 ·show Value.ref 130≠.type "list"; intro h;cases h
 ·show Value.type "dict" ≠ .type "list"; simp
 ·obtain⟨a,b⟩:=V.acc.tup y hy
  exact⟨hk _ _ (By a l (by show Value.type "tuple" ≠ .type "list"; simp)) a,b⟩
end
section
variable {w:World} {A:Around} {E:VP} {s:Shared} {x d la ax ad:Addr} {mx:Int} {cws sp:Str} {lines:List Str} {init:Int} {ps:List A0} {Q:VP}
theorem Ea (X:(K w.params).In s.heap) (V:Aa w.params s.heap x d la ax ad mx cws sp lines init ps) (h:Q (.ref ax) {s with toks:=s.toks+1}):wpAny (MD w) A (getAttr (.ref x) "_current_line" true) Q E s:=by
 obtain⟨t1,t2,t3,t4,t5,t6,tm,tc,tl,ts,e⟩:=V.od
 exact No X V.ox e (by kernel_rfl) rfl h
theorem Iq (X:(K w.params).In s.heap) (V:Aa w.params s.heap x d la ax ad mx cws sp lines init ps) (h:Q (.ref la) {s with toks:=s.toks+1}):wpAny (MD w) A (getAttr (.ref x) "_lines" true) Q E s:=by
 obtain⟨t1,t2,t3,t4,t5,t6,tm,tc,tl,ts,e⟩:=V.od
 exact No X V.ox e (by kernel_rfl) rfl h
theorem Qx (X:(K w.params).In s.heap) (V:Aa w.params s.heap x d la ax ad mx cws sp lines init ps) (h:∀ t,Q (.int mx t) {s with toks:=s.toks+1}):wpAny (MD w) A (getAttr (.ref x) "_maxlen" true) Q E s:=by
 obtain⟨t1,t2,t3,t4,t5,t6,tm,tc,tl,ts,e⟩:=V.od
 exact No (v:=.int mx tm) X V.ox e (by kernel_rfl) rfl (h _)
theorem vg_cwl (X:(K w.params).In s.heap) (V:Aa w.params s.heap x d la ax ad mx cws sp lines init ps) (h:∀ t,Q (.int cws.length t) {s with toks:=s.toks+1}):wpAny (MD w) A (getAttr (.ref x) "_continuation_ws_len" true) Q E s:=by
 obtain⟨t1,t2,t3,t4,t5,t6,tm,tc,tl,ts,e⟩:=V.od
 exact No (v:=.int cws.length tl) X V.ox e (by kernel_rfl) rfl (h _)
theorem vg_split (X:(K w.params).In s.heap) (V:Aa w.params s.heap x d la ax ad mx cws sp lines init ps) (h:∀ t,Q (.str sp t) {s with toks:=s.toks+1}):wpAny (MD w) A (getAttr (.ref x) "_splitchars" true) Q E s:=by
 obtain⟨t1,t2,t3,t4,t5,t6,tm,tc,tl,ts,e⟩:=V.od
 exact No (v:=.str sp ts) X V.ox e (by kernel_rfl) rfl (h _)
theorem vm {name:Str} {pl:Sem Bool} {Q:Value×List Value→Shared→Prop} (fv:Value) (X:(K w.params).In s.heap) (V:Aa w.params s.heap x d la ax ad mx cws sp lines init ps)
  (hf:findIn (K w.params) (.ref 130) name=some (some fv)) (ht:typeIn (K w.params) fv=some (.type "function")) (hs:∀ {t1 t2 t3 t4 t5 t6:Tok} {tm tc tl ts:Tok},shadowIn (some (vfD w.params t1 t2 t3 t4 t5 t6 mx tm cws tc tl sp ts la ax)) name=some false) (h:Q (fv,[.ref x]) s) :
  wpAny (MD w) A (getMethod (.ref x) name pl) Q E s:=by
 obtain⟨t1,t2,t3,t4,t5,t6,tm,tc,tl,ts,e⟩:=V.od
 exact v_meth fv _ X V.ox e hf ht (by decide +kernel) hs h
theorem am {name:Str} {pl:Sem Bool} {Q:Value×List Value→Shared→Prop} (fv:Value) (X:(K w.params).In s.heap) (q:A2 w.params s.heap ax ad init ps)
  (hf:findIn (K w.params) (.ref 214) name=some (some fv)) (ht:typeIn (K w.params) fv=some (.type "function")) (hs:∀ {t:Tok} {v:Value},shadowIn (some (A9 w.params t v)) name=some false) (h:Q (fv,[.ref ax]) s) :
  wpAny (MD w) A (getMethod (.ref ax) name pl) Q E s:=by
 obtain⟨n,hx⟩:=q.ox
 obtain⟨t,ti,hd,_⟩:=q.od
 exact Kg fv _ X hx hd hf ht (by decide +kernel) hs h
end
theorem Pk:∀ (w:World) {A:Around} {s:Shared} {x d:Addr} {init:Int} {ps:List A0} (G:A5 w s) (R:A3 A 6) (q:A2 w.params s.heap x d init ps) (h0:0≤Au init ps) (h1:Au init ps<100000),
  wpAny (MD w) A (Builtin.«len» ⟨[.ref x],[]⟩) (λ fin s'=>∃ t',fin=.done (.ret (.int (Au init ps) t'))∧(s.toks≤t'∧t'<s'.toks)∧A4 [] s s') no s:=by
 walk_at " w A s x d init ps G R q h0 h1"
 obtain⟨n,hx⟩:=q.ox
 walk_at "c n"
 obtain⟨t,ti,hd,_⟩:=q.od
 walk_at "c t ti"
 unfold Builtin.«len»
 refine wpAny_bind (m:=oneArg "len" _) (wpAny_pure ?_)
 refine wpAny_bind (Jh (f:=181) G.st.k hx hd (by kernel_rfl) (by kernel_rfl) ?_)
 refine wpAny_mono (s_len w G R q) ?_ λ _ _ e=>e.elim
 walk_at " r s' z"
 obtain⟨⟨t',rfl⟩,st⟩:=z
 walk_at "c t'"
 refine wpAny_bind (wpAny_holding (wpAny_pure ?_))
 refine wpAny_bind (wpAny_letGo ?_)
 rw[if_neg (by lia),if_neg (by lia)]
 have tk:0<s'.toks:=Nat.lt_of_lt_of_le G.tk st.calm.toks
 exact wpAny_bind (wpAny_mkInt (wpAny_pure ⟨_,rfl,⟨st.calm.toks,Nat.lt_succ_self _⟩,st.keep,st.size,st.vol,st.calm.trans (Cx.heap (Nat.le_succ _))⟩))
theorem acc_lenT (w:World) {A:Around} {s:Shared} {x d:Addr} {init:Int} {ps:List A0} (G:A5 w s) (R:A3 A 7) (q:A2 w.params s.heap x d init ps) (h0:0≤Au init ps) (h1:Au init ps<100000) :
  wpAny (MD w) A (call (.builtin "len") [.ref x]) (λ r s'=>(∃ t',(s.toks≤t'∧t'<s'.toks)∧r=.int (Au init ps) t')∧A4 [] s s') no s:=by
 refine Calls.call_function_entry kind_len plain_len entry_len (args_len1 _) ?_
 refine wpAny_mono (Pk w G R.in1 q h0 h1) (λ fin s' z=>?_) λ _ _ e=>e
 obtain⟨t',rfl,z⟩:=z
 exact⟨_,rfl,⟨t',z.1,rfl⟩,z.2⟩
theorem Af:∀ (w:World) {A:Around} {s:Shared} {x d:Addr} {init:Int} {ps:List A0} (G:A5 w s) (R:A3 A 8) (q:A2 w.params s.heap x d init ps) (h0:0≤Au init ps) (h1:Au init ps<100000),
  wpAny (MD w) A (call (.ref 268) [.ref x]) (λ r s'=>(∃ t',(s.toks≤t'∧t'<s'.toks)∧r=.int (Au init ps) t')∧A4 [] s s') no s:=by
 walk_at " w A s x d init ps G R q h0 h1"
 have qb:=q.base G
 refine Ez (binds:=[("obj", .ref x),("default", .int 0 513)]) (Iu w) G R (by kernel_rfl) (by kernel_rfl) [] List.nodup_nil (λ _ h=>nomatch h) ?_
 walk_at " L s₁ D"
 refine wpAny_execs_cons ?_
 walk_at "s1"
 refine Am ?_
 (refine' F0 (.builtin "isinstance") ?hD (by kernel_rfl) (by kernel_rfl) ?_;(case hD=>assumption))
 refine Co ?_
 walk_at "s1"
 (refine' F0 (.type "int") ?hD (by kernel_rfl) (by kernel_rfl) ?_;(case hD=>assumption))
 walk_at "s1"
 refine⟨Bh,call_isinstance (isinstance_true (Tx := "int") (T := "int") (by kernel_rfl) (by rw[isSubtype_type];kernel_rfl)) ⟨rfl,?_⟩⟩
 walk_at "s1"
 refine Be Bool.false_ne_true ?_
 walk_at "s1"
 refine wpAny_Try_except ?_
 walk_at "s1"
 refine Am ?_
 (refine' F0 (.builtin "len") ?hD (by kernel_rfl) (by kernel_rfl) ?_;(case hD=>assumption))
 refine Co ?_
 walk_at "s1"
 refine⟨Bh,wpAny_mono (acc_lenT w D.good (R.deeper _) (qb.old D) h0 h1) ?_ λ _ _ e=>e.elim⟩
 walk_at " r s' z"
 obtain⟨⟨t',ht',rfl⟩,st⟩:=z
 walk_at "c t'"
 exact⟨⟨t',⟨Nat.le_trans D.calm.toks ht'.1,ht'.2⟩,rfl⟩,(D.step st).ret⟩
structure Cl (w:World) (S:List Addr) (s₀:Shared) (L:Addr) (ref:Heap) (m:SV) (news:AO) (s:Shared):Prop where
 ns:s.heap.Ns L m
 keep:∀ b o,b≠L→b≠176→b≠183→ref.get? b=some o→s.heap.get? b=some o
 nw:∀ p∈news,s.heap.get? p.1=some p.2∧p.1≠L∧@LE.le Nat _ 317 p.1
 st:A4 S s₀ s
 g1:@LE.le Nat _ s₀.heap.objs.size L
 hL:@LE.le Nat _ 317 L
 good:A5 w s
 rns:ref.get? L=none∨∃ m',ref.Ns L m'
section
variable {w:World} {S:List Addr} {s₀:Shared} {L:Addr} {ref:Heap} {m:SV} {news:AO} {s s':Shared}
theorem Cl.g0 (D:Cl w S s₀ L ref m news s):s₀.heap.get? L=none:=Bc D.g1
theorem Cl.old (D:Cl w S s₀ L ref m news s) {a:Addr} {o:Obj} (e:ref.get? a=some o) (h3:@LE.le Nat _ 317 a) (hL:a≠L):s.heap.get? a=some o:=D.keep a o hL (Av h3 176 (by decide)) (Av h3 183 (by decide)) e
theorem Cl.at (D:Cl w S s₀ L ref m news s) (i:Nat) {a:Addr} {o:Obj} (e:news[i]?=some (a,o)):s.heap.get? a=some o:=(D.nw _ (List.mem_of_getElem? e)).1
theorem Cl.k (D:Cl w S s₀ L ref m news s):(K w.params).In s.heap:=D.good.st.k
theorem A5.toks {w:World} {s:Shared} (G:A5 w s) (k:Nat):A5 w {s with toks:=s.toks+k}:=⟨G.st,G.vol,Nat.lt_of_lt_of_le G.tk (Nat.le_add_right ..)⟩
theorem Cl.toks (D:Cl w S s₀ L ref m news s) (k:Nat):Cl w S s₀ L ref m news {s with toks:=s.toks+k} :=
 ⟨D.ns,D.keep,D.nw,⟨D.st.keep,D.st.size,D.st.vol,D.st.calm.trans ⟨rfl,Nat.le_refl _,λ _ _=>rfl,id,Nat.le_add_right ..⟩⟩,D.g1,D.hL,D.good.toks k,D.rns⟩
theorem A5.grow {w:World} {s:Shared} (G:A5 w s) {h':Heap} {t:Tok} (hz:@LE.le Nat _ 317 h'.objs.size) (hk:∀ b o,s.heap.get? b=some o→h'.get? b=some o) (ht:s.toks≤t):A5 w {s with heap:=h',toks:=t} :=
 ⟨G.st.keeps hk,⟨G.vol.a.elim λ ps e=>⟨ps,e.keeps hk⟩,G.vol.b.elim λ ps e=>⟨ps,e.keeps hk⟩,hz⟩,Nat.lt_of_lt_of_le G.tk ht⟩
theorem Cl.grow (D:Cl w S s₀ L ref m news s) {h':Heap} {t:Tok} (hk:∀ b o,s.heap.get? b=some o→h'.get? b=some o) (ht:s.toks≤t):Cl w S s₀ L ref m news {s with heap:=h',toks:=t}:=by
 obtain⟨oL,es,ep,hL,r⟩:=D.ns
 have hlt:@LT.lt Nat _ L h'.objs.size:=Heap.lt_size (hk _ _ hL)
 have G:=D.good.grow (h':=h') (t:=t) (Nat.le_of_lt (Nat.lt_of_le_of_lt D.hL hlt)) hk ht
 exact⟨⟨oL,es,ep,hk _ _ hL,r⟩,λ b o h1 h2 h3 e=>hk _ _ (D.keep b o h1 h2 h3 e),λ p hp=>⟨hk _ _ (D.nw p hp).1,(D.nw p hp).2⟩,
  ⟨λ b o h1 h2 h3 e=>hk _ _ (D.st.keep b o h1 h2 h3 e),Nat.le_of_lt (Nat.lt_of_le_of_lt D.g1 hlt),G.vol,D.st.calm.trans (Cx.heap ht)⟩,D.g1,D.hL,G,D.rns⟩
theorem Cl.push (D:Cl w S s₀ L ref m news s) (o:Obj) (hf:o.isFreed=false):Cl w S s₀ L ref m ((s.heap.objs.size,o)::news) {s with heap:=s.heap.push o}:=by
 have E:=D.grow (h':=s.heap.push o) (t:=s.toks) (λ b ob e=>Heap.get?_push_of_some _ e) (Nat.le_refl _)
 refine⟨E.ns,E.keep,λ p hp=>?_,E.st,E.g1,E.hL,E.good,E.rns⟩
 rcases List.mem_cons.mp hp with rfl|hp
 ·exact⟨Heap.get?_push_size _ hf,Nat.ne_of_gt D.ns.lt,D.good.vol.c⟩
 ·exact E.nw p hp
theorem Cl.loc (D:Cl w S s₀ L ref m news s) {m':SV} {h':Heap} {t:Tok} (ht:s.toks≤t) (hn:h'.Ns L m') (hs:Heap.SameBut L s.heap h'):Cl w S s₀ L ref m' news {s with heap:=h',toks:=t}:=by
 have V:=D.good.vol.sameBut hs D.hL
 refine⟨hn,λ b o h1 h2 h3 e=>(hs.2 b h1).trans (D.keep b o h1 h2 h3 e),λ p hp=>⟨(hs.2 _ (D.nw p hp).2.1).trans (D.nw p hp).1,(D.nw p hp).2⟩,⟨λ b o h1 h2 h3 e=>?_,by rw[hs.1];exact D.st.size,V,D.st.calm.trans (Cx.heap ht)⟩,D.g1,D.hL,⟨D.good.st.low λ b o hb _ _ e=>(hs.2 b (Nat.ne_of_lt (Nat.lt_of_lt_of_le hb D.hL))).trans e,V,Nat.lt_of_lt_of_le D.good.tk ht⟩,D.rns⟩
 exact (hs.2 b (λ q=>by rw[q,D.g0] at e;cases e)).trans (D.st.keep b o h1 h2 h3 e)
theorem A4.join {T:List Addr} {a b c:Shared} (x:A4 S a b) (y:A4 T b c) (hT:∀ q∈T,q∈S∨a.heap.get? q=none):A4 S a c :=
 ⟨λ q o h1 h2 h3 e=>y.keep q o (λ m=>(hT q m).elim h1 λ n=>by rw[n] at e;cases e) h2 h3 (x.keep q o h1 h2 h3 e),Nat.le_trans x.size y.size,y.vol,x.calm.trans y.calm⟩
theorem A5.step {w:World} {T:List Addr} {s s':Shared} (G:A5 w s) (st:A4 T s s') (h3:∀ q∈T,@LE.le Nat _ 317 q):A5 w s' :=
 ⟨G.st.low λ b o hb h1 h2 e=>st.keep b o (λ m=>absurd (h3 b m) (Nat.not_le.mpr hb)) h1 h2 e,st.vol,Nat.lt_of_lt_of_le G.tk st.calm.toks⟩
theorem Cl.step {T:List Addr} (D:Cl w S s₀ L ref m news s) (st:A4 T s s') (hT:∀ q∈T,(q∈S∨s₀.heap.get? q=none)∧q≠L∧@LE.le Nat _ 317 q):Cl w S s₀ L s'.heap m [] s':=by
 obtain⟨oL,es,ep,hL,r⟩:=D.ns
 have hns:s'.heap.Ns L m:=⟨oL,es,ep,st.get D.hL (λ m=>(hT _ m).2.1 rfl) hL,r⟩
 exact⟨hns,λ _ _ _ _ _ e=>e,λ _ h=>(nomatch h),D.st.join st λ q hq=>(hT q hq).1,D.g1,D.hL,D.good.step st λ q hq=>(hT q hq).2.2,.inr ⟨m,hns⟩⟩
theorem Cl.step0 (D:Cl w S s₀ L ref m news s) (st:A4 [] s s'):Cl w S s₀ L ref m news s':=by
 obtain⟨oL,es,ep,hL,r⟩:=D.ns
 have hk:∀ b o,b≠176→b≠183→s.heap.get? b=some o→s'.heap.get? b=some o:=λ b o h1 h2 e=>st.keep b o (λ h=>nomatch h) h1 h2 e
 exact⟨⟨oL,es,ep,st.get D.hL (λ h=>nomatch h) hL,r⟩,λ b o h0 h1 h2 e=>hk b o h1 h2 (D.keep b o h0 h1 h2 e),λ p hp=>⟨st.get (D.nw p hp).2.2 (λ h=>nomatch h) (D.nw p hp).1,(D.nw p hp).2⟩,D.st.join st λ _ h=>(nomatch h),D.g1,D.hL,D.good.step st λ _ h=>(nomatch h),D.rns⟩
theorem Cl.rebase (D:Cl w S s₀ L ref m news s):Cl w S s₀ L s.heap m [] s:=⟨D.ns,λ _ _ _ _ _ e=>e,λ _ h=>(nomatch h),D.st,D.g1,D.hL,D.good,.inr ⟨m,D.ns⟩⟩
end
theorem Cl.neSeq {w:World} {S:List Addr} {s₀ s:Shared} {L:Addr} {ref:Heap} {m:SV} {news:AO} (D:Cl w S s₀ L ref m news s) {b:Addr} {o:Obj} (e:ref.get? b=some o) (hd:∀ es n,o.data≠.dict es n):b≠L:=by
 rintro rfl
 rcases D.rns with h|⟨m',o',es,ep,h,hd',_⟩
 ·rw[h] at e;cases e
 ·rw[h] at e;cases e;exact hd _ _ hd'
theorem Cl.piece {w:World} {S:List Addr} {s₀ s:Shared} {L:Addr} {ref:Heap} {m:SV} {news:AO} (D:Cl w S s₀ L ref m news s) {y:A0} (e:Ar ref y):Ar s.heap y :=
 ⟨D.old e.1 e.2.1 (D.neSeq e.1 λ _ _ h=>by cases h),e.2⟩
theorem Cl.acc {w:World} {S:List Addr} {s₀ s:Shared} {L:Addr} {ref:Heap} {m:SV} {news:AO} (D:Cl w S s₀ L ref m news s) {x d:Addr} {init:Int} {ps:List A0} (q:A2 w.params ref x d init ps) (hdL:d≠L):A2 w.params s.heap x d init ps:=by
 obtain⟨n,hx⟩:=q.ox
 obtain⟨t,ti,hd,hti⟩:=q.od
 exact⟨⟨n,D.old hx q.x3 (D.neSeq hx λ _ _ h=>by cases h)⟩,⟨t,ti,D.old hd q.d3 hdL,hti⟩,λ y hy=>D.piece (q.tup y hy),q.x3,q.d3,q.few⟩
theorem Cl.vf {w:World} {S:List Addr} {s₀ s:Shared} {L:Addr} {ref:Heap} {m:SV} {news:AO} (D:Cl w S s₀ L ref m news s) {x d la ax ad:Addr} {mx:Int} {cws sp:Str} {lines:List Str} {init:Int} {ps:List A0}
  (V:Aa w.params ref x d la ax ad mx cws sp lines init ps) (hdL:d≠L) (hadL:ad≠L):Aa w.params s.heap x d la ax ad mx cws sp lines init ps:=by
 obtain⟨t1,t2,t3,t4,t5,t6,tm,tc,tl,ts,e⟩:=V.od
 obtain⟨ls,n',el,l⟩:=V.ol
 exact⟨D.old V.ox V.x3 (D.neSeq V.ox λ _ _ h=>by cases h),⟨t1,t2,t3,t4,t5,t6,tm,tc,tl,ts,D.old e V.d3 hdL⟩,⟨ls,n',el,D.old l V.l3 (D.neSeq l λ _ _ h=>by cases h)⟩,D.acc V.acc hadL,V.x3,V.d3,V.l3,V.few⟩
theorem Cl.ne0 {w:World} {S:List Addr} {s₀ s:Shared} {L:Addr} {ref:Heap} {m:SV} {news:AO} (D:Cl w S s₀ L ref m news s) {b:Addr} {o:Obj} (e:s₀.heap.get? b=some o):b≠L:=λ q=>by rw[q,D.g0] at e;cases e
theorem Ag {w:World} {A:Around} {s:Shared} {f:Addr} {pos:List Value} {kw:List (Str×Value)} {Q:VP} {E:VP} {n:Nat} {fd:FuncData} {body:List Stmt} {binds:List (Str×Value)}
  (S:List Addr) (d:Ef w f fd body) (G:A5 w s) (R:A3 A (n+1)) (hb:peek (K w.params) ⟨PySem.Challenge.pw_wv0051_01,w.params⟩ (bindArgs fd ⟨pos,kw⟩)=some binds)
  (hloc:(binds.all λ x=>decide (fd.scope.names.lookup x.1=some .local))=true)
  (h:∀ L s₁,Cl w S s L s.heap (λ x=>binds.reverse.lookup x) [] s₁ →
   wpAny (MD w) (A.deeper (fenv fd f L)) (execs body (fenv fd f L)) (λ fl s'=>Q (Ej fl) s') (λ _ _=>False) s₁) :
  codeAny (MD w) A (.call (.ref f) ⟨pos,kw⟩) (λ r s'=>match r with|.ok (.ret v)=>Q v s'|.ok _=>False|.error e=>E e s') s:=by
 refine codeAny_call_function R.depth (G.st.k _ _ d.at_) rfl d.co d.gen d.body (codeRec_of G.st.k d.code) ?_
 refine Looks.of_peek (M:=MD w) G.st.k hb A.in1 _ _ s (λ _ _ e=>e) ?_
 refine wpAny_newFunctionEnv d.cell (locs hloc) (λ h₁ hns hsb=>⟨G.st.nolimit.fresh _ hsb,?_⟩) d.kind
 refine codeAny_func (wpAny_mono (h s.heap.objs.size _ ?_) (λ fl s' z=>?_) λ _ _ z=>z.elim)
 ·have up:∀ b o,s.heap.get? b=some o→h₁.get? b=some o:=λ b o e=>hsb.extBut b o (Nat.ne_of_lt (Heap.lt_size e)) (Heap.get?_push_of_some _ e)
  have hz:@LE.le Nat _ s.heap.objs.size h₁.objs.size:=by rw[hsb.1,Heap.size_push];exact Nat.le_succ _
  exact⟨hns,λ b o _ _ _ e=>up b o e,λ _ h=>(nomatch h),⟨λ b o _ _ _ e=>up b o e,hz,G.vol.keeps hz up,Cx.heap (Nat.le_add_right ..)⟩,Nat.le_refl _,G.vol.c,G.grow (Nat.le_trans G.vol.c hz) up (Nat.le_add_right ..),.inl (Bc (Nat.le_refl _))⟩
 ·cases fl<;>exact z
theorem Bw {w:World} {A:Around} {s:Shared} {f:Addr} {pos:List Value} {kw:List (Str×Value)} {Q:VP} {E:VP} {n:Nat} {fd:FuncData} {body:List Stmt} {binds:List (Str×Value)}
  (S:List Addr) (d:Ef w f fd body) (G:A5 w s) (R:A3 A (n+1)) (hb:peek (K w.params) ⟨PySem.Challenge.pw_wv0051_01,w.params⟩ (bindArgs fd ⟨pos,kw⟩)=some binds)
  (hloc:(binds.all λ x=>decide (fd.scope.names.lookup x.1=some .local))=true)
  (h:∀ L s₁,Cl w S s L s.heap (λ x=>binds.reverse.lookup x) [] s₁ →
   wpAny (MD w) (A.deeper (fenv fd f L)) (execs body (fenv fd f L)) (λ fl s'=>Q (Ej fl) s') (λ _ _=>False) s₁) :
  wpAny (MD w) A (call (.ref f) pos kw) Q E s:=wpAny_call (Ag S d G R hb hloc h)
section
variable {w:World} {S:List Addr} {s₀:Shared} {L:Addr} {ref:Heap} {m:SV} {news:AO} {s:Shared} {A:Around} {E:VP} {env:Env}
theorem Ai {x:Str} {pos:Pos} {v:Value} {Q:VP} (D:Cl w S s₀ env.locals ref m news s) (hv:m x=some v) (h:Q v s)
  (hk:env.scope.kind=.function:=by kernel_rfl) (hl:env.kindOf x=some .local:=by kernel_rfl) (hd:(x == ("__debug__" : Str))=false:=by decide +kernel) :
  wpAny (MD w) A (eval (.Name x pos) env) Q E s:=wpAny_Name (wpAny_loadName_local hk hl D.ns hv h) hd
theorem n_localN {x:Str} {v:Value} {Q:VP} (D:Cl w S s₀ env.locals ref m news s) (hv:m x=some v) (h:Q v s)
  (hk:env.scope.kind=.function:=by kernel_rfl) (hl:env.kindOf x=some .local:=by kernel_rfl) :
  wpAny (MD w) A (loadName env x) Q E s:=wpAny_loadName_local hk hl D.ns hv h
theorem Gx {i:Int} {k:Nat} {pos:Pos} {Q:VP} (D:Cl w S s₀ L ref m news s) (h:∀ s' t,Cl w S s₀ L ref m news s'→t≠0→Q (.int i t) s'):wpAny (MD w) A (eval (.Constant (.int i) k pos) env) Q E s :=
 wpAny_Constant_int (h _ _ (D.toks 1) (Nat.ne_of_gt D.good.tk))
theorem Gl {x:Str} {k:Nat} {pos:Pos} {Q:VP} (D:Cl w S s₀ L ref m news s) (h:∀ s' t,Cl w S s₀ L ref m news s'→t≠0→Q (.str x t) s'):wpAny (MD w) A (eval (.Constant (.str x) k pos) env) Q E s :=
 wpAny_Constant_str (h _ _ (D.toks 1) (Nat.ne_of_gt D.good.tk))
theorem An {x:Str} {v:Value} {Q:Unit→Shared→Prop} (D:Cl w S s₀ env.locals ref m news s) (h:∀ s',Cl w S s₀ env.locals ref (λ y=>if y=x then some v else m y) news s'→Q () s')
  (hk:env.scope.kind=.function:=by kernel_rfl) (hl:env.kindOf x=some .local:=by kernel_rfl):wpAny (MD w) A (storeName env x v) Q E s :=
 wpAny_storeName_local hl D.ns (λ h' hn hs=>h _ (D.loc (Nat.le_succ _) hn hs)) (by rw[hk];rfl)
theorem Ca {vs:List Value} {Q:VP} (D:Cl w S s₀ L ref m news s) (h:∀ s' a,Cl w S s₀ L ref m ((a,{cls:=.type "tuple", data:=.seq vs.toArray})::news) s'→@LE.le Nat _ 317 a→Q (.ref a) s')
  (hsz:vs.length≤1000):wpAny (MD w) A (newTuple vs) Q E s :=
 wpAny_newObj_type (h _ _ (D.push _ rfl) D.good.vol.c) (by show vs.toArray.size≤sizeLine;rw[List.size_toArray];exact Nat.le_trans hsz (by decide +kernel))
theorem Cb {vs:List Value} {Q:VP} (D:Cl w S s₀ L ref m news s) (h:∀ s' a,Cl w S s₀ L ref m ((a,{cls:=.type "list", data:=.seq vs.toArray})::news) s'→@LE.le Nat _ 317 a→s₀.heap.get? a=none→Q (.ref a) s')
  (hsz:vs.length≤1000):wpAny (MD w) A (newList vs) Q E s :=
 wpAny_newObj_type (h _ _ (D.push _ rfl) D.good.vol.c (Bc D.st.size)) (by show vs.toArray.size≤sizeLine;rw[List.size_toArray];exact Nat.le_trans hsz (by decide +kernel))
theorem n_slice {lower upper:Option PySem.Expr} {p:Pos} {Q:VP}
  (h:wpAny (MD w) A (evalPart lower env) (λ l s₁=>wpAny (MD w) A (evalPart upper env) (λ u s₂ =>
   ∃ S s₀ L ref m news,Cl w S s₀ L ref m news s₂∧∀ s' a,Cl w S s₀ L ref m ((a,{cls:=.type "slice", data:=.fields #[l,u,.none]})::news) s'→Q (.ref a) s') E s₁) E s) :
  wpAny (MD w) A (eval (.Slice lower upper none p) env) Q E s:=by
 refine wpAny_Slice (wpAny_mono h (λ l s₁ h₁=>wpAny_mono h₁ (λ u s₂ h₂=>?_) λ _ _ x=>x) λ _ _ x=>x)
 obtain⟨_,_,_,_,m,news,D,h₂⟩:=h₂
 rw[evalPart_none]
 exact wpAny_pure (h₂ _ _ (D.push _ rfl))
variable {a b:Int} {t u:Tok} {Q:VP}
theorem Ce (D:Cl w S s₀ L ref m news s) (h:∀ s' t,Cl w S s₀ L ref m news s'→t≠0→Q (.int (a+b) t) s'):wpAny (MD w) A (binaryOp .Add (.int a t) (.int b u)) Q E s:=P.add_int (h _ _ (D.toks 1) (Nat.ne_of_gt D.good.tk))
theorem Cd (D:Cl w S s₀ L ref m news s) (h:∀ s' t,Cl w S s₀ L ref m news s'→t≠0→Q (.int (a-b) t) s'):wpAny (MD w) A (binaryOp .Sub (.int a t) (.int b u)) Q E s:=P.sub_int (h _ _ (D.toks 1) (Nat.ne_of_gt D.good.tk))
theorem Jz (D:Cl w S s₀ L ref m news s) (hm:IntMulOk a b) (h:∀ s' t,Cl w S s₀ L ref m news s'→t≠0→Q (.int (a*b) t) s'):wpAny (MD w) A (binaryOp .Mult (.int a t) (.int b u)) Q E s:=P.mul_int (h _ _ (D.toks 1) (Nat.ne_of_gt D.good.tk)) hm
theorem n_iadd (D:Cl w S s₀ L ref m news s) (h:∀ s' t,Cl w S s₀ L ref m news s'→t≠0→Q (.int (a+b) t) s'):wpAny (MD w) A (inplaceOp .Add (.int a t) (.int b u)) Q E s:=P.iadd_int (h _ _ (D.toks 1) (Nat.ne_of_gt D.good.tk))
theorem n_neg (D:Cl w S s₀ L ref m news s) (h:∀ s' t,Cl w S s₀ L ref m news s'→t≠0→Q (.int (-a) t) s'):wpAny (MD w) A (unaryOp .USub (.int a t)) Q E s:=P.neg_int (h _ _ (D.toks 1) (Nat.ne_of_gt D.good.tk))
theorem Cf (D:Cl w S s₀ L ref m news s) (hb:b≠0) (h:∀ s' t,Cl w S s₀ L ref m news s'→t≠0→Q (.int (a.fmod b) t) s'):wpAny (MD w) A (binaryOp .Mod (.int a t) (.int b u)) Q E s:=mod_int' hb (h _ _ (D.toks 1) (Nat.ne_of_gt D.good.tk))
theorem Cg (D:Cl w S s₀ L ref m news s) (hb:b≠0) (hp:Builtin.divisionGoesByPylong a b=false) (h:∀ s' t,Cl w S s₀ L ref m news s'→t≠0→Q (.int (a.fdiv b) t) s'):wpAny (MD w) A (binaryOp .FloorDiv (.int a t) (.int b u)) Q E s:=floordiv_int hb (h _ _ (D.toks 1) (Nat.ne_of_gt D.good.tk)) (.inl hp)
theorem Ax {x:Str} {pos:Pos} (v:Value) {Q:VP} (D:Cl w S s₀ L ref m news s) (e:nsIn (K w.params) 3 x=some (some v)) (h:Q v s)
  (hg:env.globals=3:=by rfl)
  (hk:env.scope.kind=.function:=by kernel_rfl) (hl:env.kindOf x=some .globalImplicit:=by kernel_rfl) (hd:(x == ("__debug__" : Str))=false:=by decide +kernel) :
  wpAny (MD w) A (eval (.Name x pos) env) Q E s:=Q5 v D.good.st e h hg hk hl hd
theorem Ap {x:Str} {pos:Pos} (v:Value) {Q:VP} (D:Cl w S s₀ L ref m news s) (e:nsIn (K w.params) 3 x=some none) (hv:bootBuiltins x=some v) (h:Q v s)
  (hn:x ≠ "__name__" := by decide +kernel) (hg:env.globals=3:=by rfl) (hb:env.builtins=0:=by rfl)
  (hk:env.scope.kind=.function:=by kernel_rfl) (hl:env.kindOf x=some .globalImplicit:=by kernel_rfl) (hd:(x == ("__debug__" : Str))=false:=by decide +kernel) :
  wpAny (MD w) A (eval (.Name x pos) env) Q E s:=Iv v D.good.st e hv h hn hg hb hk hl hd
end
theorem n_star {w:World} {S:List Addr} {s₀ s:Shared} {L:Addr} {ref:Heap} {m:SV} {news:AO} {A:Around} {E:VP} {a:Addr} {v1 v2:Value} {Q:List Value→Shared→Prop} (D:Cl w S s₀ L ref m news s)
  (ha:s.heap.get? a=some (Je v1 v2)) (h:∀ s',Cl w S s₀ L ref m news s'→Q [v1,v2] s'):StarOf (MD w) A E (.ref a) Q s:=by
 have hT':s.TypeIs (.ref a) "tuple" := ⟨_,ha,rfl⟩
 unfold StarOf notIterableAtAll
 refine wpAny_bind (wpAny_specialOf hT' PySem.F.slot_tuple_iter.lookup (wpAny_pure ⟨rfl,?_⟩))
 exact wpAny_collect_seq a (.inr rfl) ha rfl (items:=#[v1,v2]) (n:=0) rfl (λ h' hk=>h _ (D.grow (t:=s.toks) hk (Nat.le_refl _))) (by show (2:Nat)≤sizeLine;decide +kernel)
theorem in2 {S:List Addr} {s₀:Shared} {a b L:Addr} (h1:a∈S∨s₀.heap.get? a=none) (h2:b∈S∨s₀.heap.get? b=none) (ha:a≠L) (hb:b≠L) (ha3:@LE.le Nat _ 317 a) (hb3:@LE.le Nat _ 317 b):∀ q∈[a,b],(q∈S∨s₀.heap.get? q=none)∧q≠L∧@LE.le Nat _ 317 q:=by
 intro q hq
 rcases List.mem_cons.mp hq with rfl|hq
 ·exact⟨h1,ha,ha3⟩
 ·rw[List.mem_singleton.mp hq];exact⟨h2,hb,hb3⟩
theorem Mk:∀ (w:World) {A:Around} {s:Shared} {x d la ax ad:Addr} {mx:Int} {cws sp:Str} {lines:List Str} {init:Int} {ps:List A0} (G:A5 w s) (R:A3 A 9) (V:Aa w.params s.heap x d la ax ad mx cws sp lines init ps) (hf:ps.length≤199),
  wpAny (MD w) A (call (.ref 99) [.ref x]) (λ r s'=>r=.none∧A4 [ax,ad] s s'∧∃ y:A0,y.b = " " ∧ y.p = "" ∧ Aa w.params s'.heap x d la ax ad mx cws sp lines init (ps++[y])) no s:=by
 walk_at " w A s x d la ax ad mx cws sp lines init ps G R V hf"
 obtain⟨n,hx⟩:=V.acc.ox
 walk_at "c n"
 obtain⟨t,ti,hd,hti⟩:=V.acc.od
 walk_at "c t ti"
 obtain⟨t1,t2,t3,t4,t5,t6,tm,tc,tl,ts,hvd⟩:=V.od
 walk_at "c t1 t2 t3 t4 t5 t6 tm tc tl ts"
 refine Bw (binds:=[("self", .ref x)]) [ax,ad] (J6 w) G R (by kernel_rfl) (by kernel_rfl) ?_
 walk_at " L s₁ D"
 have ndL:=D.ne0 hvd
 have nadL:=D.ne0 hd
 have naxL:=D.ne0 hx
 refine wpAny_execs_cons ?_
 walk_at "s3"
 refine Ak ?_
 refine Bl ?_
 walk_at "s3"
 have V1:=D.vf V ndL nadL
 refine Ea D.k V1 ?_
 have D2:=D.toks 1
 walk_at " pl"
 refine am (.ref 158) D2.k (D2.acc V.acc nadL) (by kernel_rfl) (by kernel_rfl) (by intros;kernel_rfl) ?_
 refine Co ?_
 walk_at "s3"
 rename_i s3 t3 D3 ht3 s4 t4 D4 ht4
 refine⟨Cr D4.k (by kernel_rfl),wpAny_mono (Lj w D4.good (R.deeper _ |>.mono (by decide)) (D4.acc V.acc nadL) (by show (Str.ofString " ").length≤1000;decide +kernel) (by show (Str.ofString "").length≤1000;decide +kernel) hf) ?_ λ _ _ e=>e.elim⟩
 walk_at " r s5 z"
 obtain⟨rfl,st,a,q⟩:=z
 walk_at "c a"
 have D5:=D4.step st (in2 (.inl (.head _)) (.inl (.tail _ (.head _))) naxL nadL V.acc.x3 V.acc.d3)
 walk_at "s3"
 exact⟨rfl,D5.st,_,rfl,rfl,(D4.vf V ndL nadL).onAcc st q⟩
noncomputable abbrev A6 (vs:List Value) (n:Nat):Obj:={cls:=.type "list", data:=.seq vs.toArray n}
section
variable {w:World} {A:Around} {E:VP} {s:Shared} {l:Addr} {vs:List Value} {n:Nat}
theorem Al {h:Heap} (e:h.get? l=some (A6 vs n)):h.IsList l vs.toArray:=⟨_,e,rfl,n,rfl⟩
theorem Jx (f:Array Value→Array Value) (vs:List Value) (n:Nat):∃ n',Obj.mapSeq f (A6 vs n)=A6 (f vs.toArray).toList n':=⟨_,by simp only[Obj.mapSeq,A6,Array.toArray_toList];rfl⟩
theorem Fe {v:Value} {Q:VP} (hl:s.heap.get? l=some (A6 vs n)) (hsz:vs.length≤1000)
  (h:∀ h',Heap.SameBut l s.heap h'→h'.get? l=some (A6 (vs++[v]) (n+1))→Q .none {s with heap:=h'}):wpAny (MD w) A (call (.builtin "list.append") [.ref l,v]) Q E s :=
 append_at hl (λ h' hs hg=>h h' hs (by simpa using hg)) (by rw[List.size_toArray];exact Nat.le_trans hsz (by decide +kernel))
theorem l_setLast {v:Value} {t:Tok} {u:Value} {Q:Unit→Shared→Prop} (hl:s.heap.get? l=some (A6 (vs++[u]) n)) (hsz:vs.length≤1000)
  (h:∀ h' n',Heap.SameBut l s.heap h'→h'.get? l=some (A6 (vs++[v]) n')→Q () {s with heap:=h'}):wpAny (MD w) A (setItem (.ref l) (.int (-1) t) v) Q E s:=by
 walk_at "c w A E s l vs n v t u Q hl hsz h"
 have hL:=Al hl
 unfold setItem
 refine wpAny_holding ?_
 refine wpAny_bind (wpAny_sequenceKey hL.typeIs (by decide) ?_)
 refine wpAny_bind (wpAny_callSpecial?_slot (name:=Str.ofString "__setitem__") hL.typeIs slot_list_setitem
  (wpAny_call_entry slot_list_setitem hL.typeIs entry_list_setitem ?_ (args_list_setitem _ _ _)))
 show wpAny _ _ (Builtin.List.listSubscript? (.int (-1) t) >>= _) _ _ s
 refine wpAny_bind (wpAny_listSubscript_int (by decide) ?_)
 have hz:(vs++[u]).toArray.size=vs.length+1:=by simp
 have hidx:seqIndex? (-1) (vs++[u]).toArray.size=some vs.length:=by
  rw[hz]
  unfold seqIndex?
  have h1:((-1:Int)<0):=by decide
  simp only[h1,if_true]
  have h2:(-1:Int)+((vs.length+1:Nat):Int)=(vs.length:Int):=by simp +arith
  rw[h2]
  have h3:(decide (0≤(vs.length:Int)) && decide ((vs.length:Int)<((vs.length+1:Nat):Int)))=true:=by
   simp only[Bool.and_eq_true,decide_eq_true_eq];simp +arith
  rw[if_pos h3];simp
 show wpAny _ _ ((Builtin.List.listItems (.ref l) >>= λ xs=>pure ((seqIndex? (-1) xs.size).bind λ j=>xs[j]?.map (j,·))) >>= _) _ _ s
 refine wpAny_bind (wpAny_bind ?_)
 unfold Builtin.List.listItems
 refine wpAny_bind (wpAny_seqItems hl rfl (wpAny_pure (wpAny_pure ?_)))
 rw[hidx]
 simp only[Option.bind_some]
 rw[show (vs++[u]).toArray[vs.length]?=some u by simp]
 show wpAny _ _ (setSeqItemAt l vs.length v >>= _) _ _ s
 obtain⟨n',em⟩:=Jx (·.setIfInBounds vs.length v) (vs++[u]) n
 walk_at "c n'"
 have ee:((vs++[u]).toArray.setIfInBounds vs.length v).toList=vs++[v]:=by simp
 rw[ee] at em
 have hfin:(s.heap.update l (Obj.mapSeq (·.setIfInBounds vs.length v))).get? l=some (A6 (vs++[v]) n'):=by
  rw[Heap.get?_update_self _ hl (by rw[em];rfl),em]
 refine wpAny_bind (wpAny_setSeqItemAt hl rfl ?_)
 first
  | exact wpAny_bind (wpAny_pure (wpAny_pure ⟨.none,rfl,wpAny_pure (h _ _ (Heap.SameBut.update ..) hfin)⟩))
  | exact wpAny_pure ⟨.none,rfl,wpAny_pure (h _ _ (Heap.SameBut.update ..) hfin)⟩
theorem Kt {t:Tok} {u:Value} {Q:VP} (hl:s.heap.get? l=some (A6 (vs++[u]) n)) (h:Q u s):wpAny (MD w) A (getItem (.ref l) (.int (-1) t)) Q E s:=by
 refine wpAny_getItem_list_neg (Al hl) (by decide) (by simp;simp +arith) (by decide) (x:=u) ?_ h
 have:((-1:Int)+((vs++[u]).toArray.size:Int)).toNat=vs.length:=by simp;simp +arith
 rw[this];simp
end
noncomputable def T (ps:List A0):List (Str×Str):=ps.map λ y=>(y.b,y.p)
noncomputable def Cs (init:Int) (l:LS):Int:=init+(l.map λ q=>(q.1.length:Int)+(q.2.length:Int)).sum
noncomputable def B4 (l:LS):List Nat:=(l.map λ q=>q.1.cps.toList++q.2.cps.toList).flatten
theorem Es (init:Int) (ps:List A0):Au init ps=Cs init (T ps):=by simp[Au,Cs,T,List.map_map,Function.comp_def];rfl
theorem Mr (ps:List A0):Bj ps=B4 (T ps):=by simp[Bj,B4,T,List.map_map,Function.comp_def];rfl
noncomputable def Eg (l:LS):List (Str×Str):=match l.getLast? with
 | none=>[(("" : Str),("" : Str))]
 | some e=>if e=((" " : Str),("" : Str)) then l.dropLast else l
noncomputable def Aw (lines:List Str) (init:Int) (l:LS):List Str :=
 if Cs init (Eg l) > 0 then
  (if init=0∧Txt.isspace (S (B4 (Eg l)))=true∧lines≠[] then lines.dropLast++[lines.getLastD "" ++ S (B4 (Eg l))] else lines++[S (B4 (Eg l))])
 else lines
theorem Ro (l:LS):0≤(l.map λ q=>(q.1.length:Int)+(q.2.length:Int)).sum:=by
 induction l with
 | nil=>simp
 | cons q r this =>
  simp only[List.map_cons,List.sum_cons]
  lia
theorem J0 {init:Int} (h:0≤init) (l:LS):0≤Cs init l:=by have:=Ro l;unfold Cs;lia
theorem Ph (init:Int) (l:LS):Cs init (Eg l)≤Cs init l:=by
 rcases List.eq_nil_or_concat l with rfl|⟨l',e,h⟩
 ·have:(Str.ofString "").length=0:=by kernel_rfl
  simp[Eg,Cs,this]
 ·rw[List.concat_eq_append] at h
  subst h
  have h1:Cs init (l'++[e])=Cs init l'+((e.1.length:Int)+(e.2.length:Int)):=by simp[Cs];simp +arith
  have h2:Eg (l'++[e])=if e=((" " : Str),("" : Str)) then l' else l'++[e]:=by simp[Eg]
  rw[h2]
  split
  ·lia
  ·exact Int.le_refl _
theorem A4.sameBut {s:Shared} {a:Addr} {h':Heap} {t:Tok} (V:Fh s.heap) (h3:@LE.le Nat _ 317 a) (hs:Heap.SameBut a s.heap h') (ht:s.toks≤t):A4 [a] s {s with heap:=h',toks:=t} :=
 ⟨λ b o hb _ _ e=>(hs.2 b (λ q=>hb (by rw[q];exact .head _))).trans e,Nat.le_of_eq hs.1.symm,V.sameBut hs h3,Cx.heap ht⟩
theorem text_len (ps:List A0):((S (Bj ps)).length:Int)=Au 0 ps:=by
 unfold Au Bj
 induction ps with
 | nil=>simp[S,Str.length]
 | cons y r ih =>
  simp only[List.map_cons,List.flatten_cons,List.sum_cons] at ih ⊢
  have h1:(S (y.chars++(List.map A0.chars r).flatten)).length=y.b.length+y.p.length+(S (List.map A0.chars r).flatten).length:=by simp[S,Str.length,A0.chars];simp +arith
  have h2:y.len=(y.b.length:Int)+(y.p.length:Int):=rfl
  rw[h1,h2]
  push_cast
  lia
theorem pair_ne {w:World} {A:Around} {E:VP} {s:Shared} {a b:Addr} {p q p2 q2:Str} {t u t2 u2:Tok} {Q:VP} (ha:s.heap.get? a=some (Je (.str p t) (.str q u))) (hb:s.heap.get? b=some (Je (.str p2 t2) (.str q2 u2))) (hu:A.units<cLine)
  (h:Q (.bool (!decide ((p,q)=(p2,q2)))) s):wpAny (MD w) A (compareOp .NotEq (.ref a) (.ref b)) Q E s:=by
 have key:=SeqAt.RcNeAt.tuples (A:=A) (s:=s) (l:=a) (b:=b) (items:=#[.str p t,.str q u]) (items2:=#[.str p2 t2,.str q2 u2]) (e:=λ j=>if j=0 then p == p2 else q == q2) ⟨_,ha,rfl,0,rfl⟩ ⟨_,hb,rfl,0,rfl⟩ hu (λ j h1 h2=>by
  have hj:j=0∨j=1:=by simp at h1;lia
  rcases hj with rfl|rfl
  ·exact SeqAt.EqAt.str_str p t p2 t2
  ·exact SeqAt.EqAt.str_str q u q2 u2)
 refine key _ _ _ _ ?_
 have e:((List.range (min (#[Value.str p t,.str q u]).size (#[Value.str p2 t2,.str q2 u2]).size)).all (λ j=>if j=0 then p == p2 else q == q2) && (#[Value.str p t,.str q u]).size == (#[Value.str p2 t2,.str q2 u2]).size)=decide ((p,q)=(p2,q2)):=by
  show ((List.range 2).all (λ j=>if j=0 then p == p2 else q == q2) && true)=_
  by_cases h1:p=p2<;>by_cases h2:q=q2<;>simp[List.range,List.range.loop,h1,h2]
 rw[e];exact h
theorem s_pushAC:∀ (w:World) {A:Around} {s:Shared} {x d:Addr} {init:Int} {ps:List A0} {b p:Str} {tb tp:Tok} (G:A5 w s) (R:A3 A 6) (q:A2 w.params s.heap x d init ps) (hb:b.length≤1000) (hp:p.length≤1000) (hf:ps.length≤199),
  codeAny (MD w) A (.call (.ref 158) ⟨[.ref x,.str b tb,.str p tp],[]⟩) (λ r s'=>match r with|.ok (.ret r)=>(r=.none∧A4 [x,d] s s'∧∃ a,A2 w.params s'.heap x d init (ps++[⟨a,b,tb,p,tp⟩]))|.ok _=>False|.error e=>no e s') s:=by
 walk_at " w A s x d init ps b p tb tp G R q hb hp hf"
 obtain⟨n,hx⟩:=q.ox
 walk_at "c n"
 obtain⟨t,ti,hd,hti⟩:=q.od
 walk_at "c t ti"
 refine codeAny_mono (s_pushC w G R hx hd q.x3 q.d3 (by simp;exact Nat.le_trans (by assumption) (by decide))) ?_
 walk_at " r s' z"
 rcases r with e|(v|_|_|_)<;>first|exact z|exact z.elim|skip
 obtain⟨rfl,st,a,hx',ha,ha3⟩:=z
 walk_at "c a"
 have hps:=q.pieces st.w1 q.tup
 refine⟨rfl,st.w1,a,⟨⟨n+1,by simpa using hx'⟩,⟨t,ti,st.get q.d3 (Gf q.dx) hd,hti⟩,?_,q.x3,q.d3,by simp;omega⟩⟩
 walk_at " y hy"
 rcases List.mem_append.mp hy with hy|hy
 ·exact hps y hy
 ·rw[List.mem_singleton.mp hy]
  exact⟨ha,ha3,hb,hp⟩
theorem Ov:∀ (w:World) {A:Around} {s:Shared} {x d la ax ad:Addr} {mx:Int} {cws sp:Str} {lines:List Str} {init:Int} {ps:List A0} (G:A5 w s) (R:A3 A 16) (V:Aa w.params s.heap x d la ax ad mx cws sp lines init ps) (hf:ps.length≤190) (hfl:lines.length≤190) (h0:0≤init) (h1:Au init ps<50000) (hll:∀ l∈lines,l.length≤100000),
  wpAny (MD w) A (call (.ref 92) [.ref x]) (λ r s'=>r=.none∧A4 [ax,ad,la] s s'∧Aa w.params s'.heap x d la ax ad mx cws sp (Aw lines init (T ps)) 0 []) no s:=by
 walk_at " w A s x d la ax ad mx cws sp lines init ps G R V hf hfl h0 h1 hll"
 obtain⟨n,hx⟩:=V.acc.ox
 walk_at "c n"
 obtain⟨t,ti,hd,hti⟩:=V.acc.od
 walk_at "c t ti"
 obtain⟨t1,t2,t3,t4,t5,t6,tm,tc,tl,ts,hvd⟩:=V.od
 walk_at "c t1 t2 t3 t4 t5 t6 tm tc tl ts"
 obtain⟨ls,nl,hls,hla⟩:=V.ol
 walk_at "c ls nl"
 refine Bw (binds:=[("self", .ref x)]) [ax,ad,la] (O1 w) G R (by kernel_rfl) (by kernel_rfl) ?_
 walk_at " L s₁ D"
 have ndL:=D.ne0 hvd
 have nadL:=D.ne0 hd
 have naxL:=D.ne0 hx
 have nlaL:=D.ne0 hla
 refine wpAny_execs_cons ?_
 walk_at "s3"
 refine Ak ?_
 refine Bl ?_
 walk_at "s3"
 have V1:=D.vf V ndL nadL
 refine Ea D.k V1 ?_
 have D2:=D.toks 1
 walk_at " pl"
 refine am (.ref 174) D2.k (D2.acc V.acc nadL) (by kernel_rfl) (by kernel_rfl) (by intros;kernel_rfl) ?_
 refine Ha ⟨Cr D2.k (by kernel_rfl),?_⟩
 have hpop:wpAny (MD w) (A.deeper (fenv Bi 92 L)) (call (.ref 174) [.ref ax]) (λ r s'=>∃ (y:A0) (ps':List A0),r=.ref y.a∧A4 [ax,ad] {s₁ with toks:=s₁.toks+1} s'∧A2 w.params s'.heap ax ad init ps'∧Ar s'.heap y∧ps'.length≤190∧Eg (T ps)=(if (y.b,y.p)=((" " : Str),("" : Str)) then T ps' else T ps'++[(y.b,y.p)])) no {s₁ with toks:=s₁.toks+1}:=by
  rcases List.eq_nil_or_concat ps with rfl|⟨ps',y,hps⟩
  ·refine wpAny_mono (s_popA0 w D2.good (R.deeper _ |>.mono (by decide)) (D2.acc V.acc nadL)) ?_ λ _ _ e=>e
   walk_at " r s' z"
   obtain⟨y,rfl,hb,hp,st,q,py⟩:=z
   walk_at "c y"
   refine⟨y,[],rfl,st,q,py,Nat.zero_le _,?_⟩
   rw[hb,hp,if_neg (by decide +kernel)];rfl
  ·walk_at "c ps' y"
   rw[List.concat_eq_append] at hps
   subst hps
   refine wpAny_mono (s_popA w D2.good (R.deeper _ |>.mono (by decide)) (D2.acc V.acc nadL)) ?_ λ _ _ e=>e
   walk_at " r s' z"
   obtain⟨rfl,st,q,py⟩:=z
   refine⟨y,ps',rfl,st,q,py,by simp at hf;exact Nat.le_trans (by assumption) (by decide),?_⟩
   simp[Eg,T]
 refine wpAny_mono hpop ?_ λ _ _ e=>e.elim
 walk_at " r s3 z"
 obtain⟨y,ps',rfl,st3,q3,py3,hf3,hend⟩:=z
 walk_at "c y ps'"
 have V2:=D2.vf V ndL nadL
 have D3:=D2.step st3 (in2 (.inl (.head _)) (.inl (.tail _ (.head _))) naxL nadL V.acc.x3 V.acc.d3)
 have V3:=V2.onAcc st3 q3
 walk_at "s3"
 rename_i s4 D4
 have hjoin:∀ {Q:FP} {E:VP} {t:Stmt},wpAny (MD w) (A.deeper (fenv Bi 92 L)) (exec t (fenv Bi 92 L)) (λ f s'=>f=.next∧∃ ps1 m1,T ps1=Eg (T ps)∧ps1.length≤191∧m1 "self" = some (.ref x)∧Cl w [ax,ad,la] s L s'.heap m1 [] s'∧Aa w.params s'.heap x d la ax ad mx cws sp lines init ps1) E s4 →
   (∀ s' ps1 m1,T ps1=Eg (T ps)→ps1.length≤191→m1 "self" = some (.ref x)→Cl w [ax,ad,la] s L s'.heap m1 [] s'→Aa w.params s'.heap x d la ax ad mx cws sp lines init ps1→Q .next s')→wpAny (MD w) (A.deeper (fenv Bi 92 L)) (exec t (fenv Bi 92 L)) Q E s4:=λ h1 h2=>wpAny_mono h1 (λ f s' z=>by
    obtain⟨rfl,ps1,m1,e1,e2,e3,e4,e5⟩:=z
    walk_at "c ps1 m1"
    exact h2 s' ps1 m1 e1 e2 e3 e4 e5) λ _ _ e=>e
 refine hjoin (wpAny_If ?_) ?_
 ·walk_at "s3"
  rename_i s5 t5' D5 ht5 s6 t6' D6 ht6 s7 tup D7 htup3
  refine pair_ne (D7.piece py3).1 (D7.at 0 rfl) (R.deeper _).units ?_
  walk_at "s3"
  by_cases hy:(y.b,y.p)=((" " : Str),("" : Str))
  ·refine Be (by simp[hy]) ?_
   walk_at "s3"
   refine⟨rfl,ps',_,by rw[hend,if_pos hy],by exact Nat.le_trans (by assumption) (by decide),?_,D7.rebase,D7.vf V3 ndL nadL⟩
   rfl
  ·refine Bk (by simp[hy]) ?_
   walk_at "s3"
   refine S7 ?_
   refine Bl ?_
   walk_at "s3"
   refine Ea D7.k (D7.vf V3 ndL nadL) ?_
   have D8:=D7.toks 1
   have q8:=D8.acc q3 nadL
   obtain⟨n8,hx8⟩:=q8.ox
   walk_at "c n8"
   obtain⟨t8,ti8,hd8,_⟩:=q8.od
   walk_at "c t8 ti8"
   refine a_getm D8.k hx8 hd8 ?_
   have D9:=(D8.push (methodObj (.ref 158) (.ref ax)) rfl).toks 1
   refine cwstar ?_
   walk_at "s3"
   refine n_star D9 (D9.piece py3).1 ?_
   walk_at " s10 D10"
   refine⟨kp_method D10.k (.inr ⟨_,D10.at 0 rfl⟩),?_⟩
   refine wpAny_call (ks_codeAny_call_bound (D10.at 0 rfl) (codeAny_mono (s_pushAC w D10.good (R.deeper _ |>.mono (by decide)) (D10.acc q3 nadL) py3.2.2.1 py3.2.2.2 (by exact Nat.le_trans (by assumption) (by decide))) ?_))
   walk_at " r s11 z"
   rcases r with e|(v|_|_|_)<;>first|exact z.elim|skip
   obtain⟨rfl,st11,a11,q11⟩:=z
   walk_at "c a11"
   have D11:=D10.step st11 (in2 (.inl (.head _)) (.inl (.tail _ (.head _))) naxL nadL V.acc.x3 V.acc.d3)
   walk_at "s3"
   refine⟨rfl,ps'++[⟨a11,y.b,y.tb,y.p,y.tp⟩],_,by rw[hend,if_neg hy];simp[T],by simp;omega,?_,D11,(D10.vf V3 ndL nadL).onAcc st11 q11⟩
   rfl
 ·walk_at " s8 ps8 m8 hT8 hf8 hm8 D8 V8"
  walk_at "s3"
  have hlen8:Au init ps8=Cs init (Eg (T ps)):=by rw[Es,hT8]
  have hchars8:Bj ps8=B4 (Eg (T ps)):=by rw[Mr,hT8]
  have hb8:0≤Au init ps8∧Au init ps8<100000:=by
   rw[hlen8]
   have h2:=Ph init (T ps)
   rw[← Es] at h2
   exact⟨J0 h0 _,by lia⟩
  have hjoin2:∀ {Q:FP} {E:VP} {t:Stmt},wpAny (MD w) (A.deeper (fenv Bi 92 L)) (exec t (fenv Bi 92 L)) (λ f s'=>f=.next∧∃ m1,m1 "self" = some (.ref x)∧Cl w [ax,ad,la] s L s'.heap m1 [] s'∧Aa w.params s'.heap x d la ax ad mx cws sp (Aw lines init (T ps)) init ps8) E s8 →
   (∀ s' m1,m1 "self" = some (.ref x)→Cl w [ax,ad,la] s L s'.heap m1 [] s'→Aa w.params s'.heap x d la ax ad mx cws sp (Aw lines init (T ps)) init ps8→Q .next s')→wpAny (MD w) (A.deeper (fenv Bi 92 L)) (exec t (fenv Bi 92 L)) Q E s8:=λ h1 h2=>wpAny_mono h1 (λ f s' z=>by
    obtain⟨rfl,m1,e3,e4,e5⟩:=z
    walk_at "c m1"
    exact h2 s' m1 e3 e4 e5) λ _ _ e=>e
  refine hjoin2 (wpAny_If ?_) ?_
  ·walk_at "s3"
   refine Am ?_
   walk_at "b len"
   refine Co ?_
   walk_at "s3"
   refine Bl ?_
   refine Ai D8 hm8 ?_
   refine Ea D8.k V8 ?_
   have D9:=D8.toks 1
   walk_at "s3"
   refine⟨Bh,wpAny_mono (Lb w D9.good (R.deeper _ |>.mono (by decide)) V8.acc hb8.1 hb8.2) ?_ λ _ _ e=>e.elim⟩
   walk_at " r s10 z"
   obtain⟨⟨t10,_,rfl⟩,st10⟩:=z
   walk_at "c t10"
   have V10:=V8.step (s':=s10) ⟨st10.keep,st10.size,st10.vol,(Cx.heap (Nat.le_succ _)).trans st10.calm⟩
   have D10:=(D9.step0 st10).rebase
   walk_at "s3"
   rename_i s11 t11 D11 _
   by_cases hpos:Au init ps8 > 0
   ·refine Bk (by simp[hpos]) ?_
    walk_at "s3"
    refine wpAny_If ?_
    refine wpAny_mono (Q:=λ b s'=>b=(decide (init=0) && (Txt.isspace (S (Bj ps8)) && decide (lines≠[])))∧Cl w [ax,ad,la] s L s'.heap m8 [] s'∧Aa w.params s'.heap x d la ax ad mx cws sp lines init ps8) ?_ ?_ λ _ _ e=>e
    ·walk_at "s3"
     refine Ak ?_
     refine Bl ?_
     refine Ai D11 hm8 ?_
     have V11:=D11.vf V10 ndL nadL
     refine Ea D11.k V11 ?_
     have D12:=D11.toks 1
     walk_at " pl"
     refine am (.ref 203) D12.k V11.acc (by kernel_rfl) (by kernel_rfl) (by intros;kernel_rfl) ?_
     refine Ha ⟨Cr D12.k (by kernel_rfl),?_⟩
     refine wpAny_mono (Rj w D12.good (R.deeper _ |>.mono (by decide)) V11.acc hb8.1 hb8.2) ?_ λ _ _ e=>e.elim
     walk_at " r s13 z"
     obtain⟨rfl,st13⟩:=z
     have V13:=V11.step (s':=s13) ⟨st13.keep,st13.size,st13.vol,(Cx.heap (Nat.le_succ _)).trans st13.calm⟩
     have D13:=(D12.step0 st13).rebase
     walk_at "s3"
     rw[show decide (Au init ps8=0)=false by simp;lia,Bool.false_or]
     by_cases hc:init=0∧Txt.isspace (S (Bj ps8))=true
     ·refine Bk (by simp[hc.1,hc.2]) ?_
      walk_at "s3"
      refine Bl ?_
      refine Ai D13 hm8 ?_
      refine Iq D13.k V13 ?_
      have D14:=D13.toks 1
      obtain⟨ls13,n13,hls13,hla13⟩:=V13.ol
      walk_at "c ls13 n13"
      refine wpAny_truthy_list (items:=(strValues ls13).toArray) (Al hla13) (by have:=congrArg List.length hls13;simp[strValues] at this ⊢;lia) ?_
      have D15:=D14.toks 2
      have hne:(!(strValues ls13).toArray.isEmpty)=decide (lines≠[]):=by
       rw[← hls13];cases ls13<;>simp[strValues]
      rw[hne]
      by_cases hl:lines=[]
      ·refine Be (by simp[hl]) ?_
       exact⟨by simp[hl],D15.rebase,V13⟩
      ·refine Bk (by simp[hl]) ?_
       walk_at "s3"
       exact⟨by simp[hl,hc.1,hc.2],D15.rebase,V13⟩
     ·refine Be (by simpa using hc) ?_
      exact⟨by
       cases h:decide (init=0) with
       | false=>simp
       | true=>simp at h;simp[h] at hc;simp[hc],D13,V13⟩
    walk_at " b s14 z"
    obtain⟨hbv,D14,V14⟩:=z
    obtain⟨ls14,n14,hls14,hla14⟩:=V14.ol
    walk_at "c ls14 n14"
    have hlen14:ls14.length≤190:=by rw[← List.length_map (f:=(·.1)),hls14];exact hfl
    have inla:∀ q∈[la],(q∈[ax,ad,la]∨s.heap.get? q=none)∧q≠L∧@LE.le Nat _ 317 q:=λ q hq=>by
     rw[List.mem_singleton.mp hq];exact⟨.inl (by simp),nlaL,V.l3⟩
    have hnl:Aw lines init (T ps)=if init=0∧Txt.isspace (S (Bj ps8))=true∧lines≠[] then lines.dropLast++[lines.getLastD "" ++ S (Bj ps8)] else lines++[S (Bj ps8)]:=by
     unfold Aw;rw[← hlen8,if_pos hpos,hchars8]
    by_cases hc:init=0∧Txt.isspace (S (Bj ps8))=true∧lines≠[]
    ·refine Bk (by rw[hbv];simp[hc.1,hc.2.1,hc.2.2]) ?_
     obtain⟨ls',last,hsplit⟩:∃ ls' last,ls14=ls'++[last]:=by
      rcases List.eq_nil_or_concat ls14 with h|⟨l',e,h⟩
      ·rw[h] at hls14;exact absurd hls14.symm hc.2.2
      ·walk_at "c l' e"
       exact⟨l',e,by rw[h,List.concat_eq_append]⟩
     walk_at "c ls' last"
     have hsv:strValues ls14=strValues ls'++[.str last.1 last.2]:=by rw[hsplit];simp[strValues]
     walk_at "s3"
     refine wpAny_AugAssign_SubscriptAny ?_ (by intros;rfl)
     refine Bl ?_
     refine Ai D14 hm8 ?_
     refine Iq D14.k V14 ?_
     have D15:=D14.toks 1
     walk_at "s3"
     rename_i s16 t16 D16 _ s17 t17 D17 _
     have V17:=D17.vf V14 ndL nadL
     have hla17:s17.heap.get? la=some (A6 (strValues ls'++[.str last.1 last.2]) n14):=by rw[← hsv];exact D17.old hla14 V.l3 nlaL
     refine Kt hla17 ?_
     refine Am ?_
     walk_at "t str"
     refine Co (spliced_more ?_)
     refine Bl ?_
     refine Ai D17 hm8 ?_
     refine Ea D17.k V17 ?_
     have D18:=D17.toks 1
     refine spliced_none ⟨Gk,wpAny_mono (Hm w D18.good (R.deeper _ |>.mono (by decide)) V17.acc) ?_ λ _ _ e=>e.elim⟩
     walk_at " r s19 z"
     obtain⟨⟨t19,rfl⟩,st19⟩:=z
     walk_at "c t19"
     have D19:=D18.step0 st19
     have htl:(S (Bj ps8)).length≤100000:=by
      have e1:=text_len ps8
      have e2:Au init ps8=init+Au 0 ps8:=by simp[Au]
      lia
     have hlast:last.1.length≤100000:=hll _ (by rw[← hls14,hsplit];simp)
     refine wpAny_with_toks (Nat.le_refl s19.toks) (iadd_str ?_ (Nat.le_trans (Nat.add_le_add hlast htl) (by decide +kernel)))
     walk_at " t20 k20 hk20"
     have D20:=D19.grow (t:=k20) (λ _ _ e=>e) hk20
     have hla20:s19.heap.get? la=some (A6 (strValues ls'++[.str last.1 last.2]) n14):=by rw[← hsv];exact D20.old hla14 V.l3 nlaL
     refine l_setLast hla20 (by simp[strValues];rw[hsplit] at hlen14;simp at hlen14;exact Nat.le_trans (by assumption) (by decide)) ?_
     walk_at " h21 n21 hs21 hg21"
     have st21:A4 [la] {s19 with heap:=s19.heap,toks:=k20} {s19 with heap:=h21,toks:=k20}:=A4.sameBut (s:={s19 with heap:=s19.heap,toks:=k20}) D20.good.vol V.l3 hs21 (Nat.le_refl _)
     have D21:=D20.step st21 inla
     have V20:=D20.vf V14 ndL nadL
     walk_at "s3"
     refine⟨rfl,m8,hm8,D21,?_⟩
     rw[hnl,if_pos hc]
     refine V20.onLines (s:={s19 with heap:=s19.heap,toks:=k20}) (λ b o hb e=>(hs21.2 b hb).trans e) ⟨ls'++[(last.1++S (Bj ps8),t20)],n21,?_,by simpa [strValues] using hg21⟩ ?_
     ·rw[← hls14,hsplit];simp
     ·rw[← hls14,hsplit];rw[hsplit] at hlen14;simp at hlen14 ⊢;exact Nat.le_trans (by assumption) (by decide)
    ·refine Be (by rw[hbv];simpa using hc) ?_
     walk_at "s3"
     refine Ak ?_
     refine Bl ?_
     refine Ai D14 hm8 ?_
     refine Iq D14.k V14 ?_
     have D15:=D14.toks 1
     walk_at " pl"
     refine Calls.getMethod_list_append (s:={s14 with toks:=s14.toks+1}) hla14 rfl rfl ?_
     refine Co (spliced_more ?_)
     refine Am ?_
     walk_at "t str"
     refine Co (spliced_more ?_)
     refine Bl ?_
     refine Ai D15 hm8 ?_
     have V15:=D15.vf V14 ndL nadL
     refine Ea D15.k V15 ?_
     have D18:=D15.toks 1
     refine spliced_none ⟨Gk,wpAny_mono (Hm w D18.good (R.deeper _ |>.mono (by decide)) V15.acc) ?_ λ _ _ e=>e.elim⟩
     walk_at " r s19 z"
     obtain⟨⟨t19,rfl⟩,st19⟩:=z
     walk_at "c t19"
     have D19:=D18.step0 st19
     have hla19:s19.heap.get? la=some (A6 (strValues ls14) n14):=D19.old hla14 V.l3 nlaL
     refine spliced_none ⟨Bh,Fe hla19 (by simp[strValues];exact Nat.le_trans (by assumption) (by decide)) ?_⟩
     walk_at " h20 hs20 hg20"
     have st20:A4 [la] s19 {s19 with heap:=h20}:=A4.sameBut (t:=s19.toks) D19.good.vol V.l3 hs20 (Nat.le_refl _)
     have D20:=D19.step st20 inla
     have V19:=D19.vf V14 ndL nadL
     walk_at "s3"
     refine⟨rfl,m8,hm8,D20,?_⟩
     rw[hnl,if_neg hc]
     refine V19.onLines (λ b o hb e=>(hs20.2 b hb).trans e) ⟨ls14++[(S (Bj ps8),t19)],n14+1,?_,by simpa [strValues] using hg20⟩ ?_
     ·simp[hls14]
     ·simp;exact Nat.le_trans (by assumption) (by decide)
   ·refine Be (by simp[hpos]) ?_
    walk_at "s3"
    refine⟨rfl,m8,hm8,D11.rebase,?_⟩
    have:Aw lines init (T ps)=lines:=by unfold Aw;rw[← hlen8,if_neg hpos]
    rw[this]
    exact D11.vf V10 ndL nadL
  ·walk_at " s12 m12 hm12 D12 V12"
   walk_at "s3"
   refine Ak ?_
   refine Bl ?_
   refine Ai D12 hm12 ?_
   refine Ea D12.k V12 ?_
   have D13:=D12.toks 1
   walk_at " pl"
   refine am (.ref 196) D13.k V12.acc (by kernel_rfl) (by kernel_rfl) (by intros;kernel_rfl) ?_
   refine Ha ⟨Cr D13.k (by kernel_rfl),?_⟩
   refine wpAny_mono (s_resetA0 w D13.good (R.deeper _ |>.mono (by decide)) V12.acc) ?_ λ _ _ e=>e.elim
   walk_at " r s14 z"
   obtain⟨rfl,st14,q14⟩:=z
   have D14:=D13.step st14 (in2 (.inl (.head _)) (.inl (.tail _ (.head _))) naxL nadL V.acc.x3 V.acc.d3)
   walk_at "s3"
   exact⟨rfl,D14.st,Aa.onAcc (s:={s12 with toks:=s12.toks+1}) V12 st14 q14⟩
theorem T2 (ls:List (Str×Tok)):StrsAre (strValues ls) (ls.map (·.1)):=by
 induction ls with
 | nil=>exact .nil
 | cons p r ih=>exact .cons p.1 p.2 ih
theorem in3 {s₀:Shared} {ax ad la L:Addr} (ha:ax≠L) (hb:ad≠L) (hc:la≠L) (ha3:@LE.le Nat _ 317 ax) (hb3:@LE.le Nat _ 317 ad) (hc3:@LE.le Nat _ 317 la):∀ q∈[ax,ad,la],(q∈[ax,ad,la]∨s₀.heap.get? q=none)∧q≠L∧@LE.le Nat _ 317 q:=by
 intro q hq
 refine⟨.inl hq,?_⟩
 simp at hq
 rcases hq with rfl|rfl|rfl
 ·exact⟨ha,ha3⟩
 ·exact⟨hb,hb3⟩
 ·exact⟨hc,hc3⟩
theorem s_VFstr:∀ (w:World) {A:Around} {s:Shared} {x d la ax ad:Addr} {mx:Int} {cws sp sep:Str} {lines:List Str} {init:Int} {ps:List A0} {tsep:Tok} (G:A5 w s) (R:A3 A 18) (V:Aa w.params s.heap x d la ax ad mx cws sp lines init ps) (hf:ps.length≤190) (hfl:lines.length≤190) (h0:0≤init) (h1:Au init ps<50000) (hll:∀ l∈lines,l.length≤100000) (hsum:((Aw lines init (T ps)).map (·.length)).sum+(Aw lines init (T ps)).length*sep.length≤16777216),
  wpAny (MD w) A (call (.ref 78) [.ref x,.str sep tsep]) (λ r s'=>(∃ t,r=.str (Str.join sep (Aw lines init (T ps))) t)∧A4 [ax,ad,la] s s'∧Aa w.params s'.heap x d la ax ad mx cws sp (Aw lines init (T ps)) 0 []) no s:=by
 walk_at " w A s x d la ax ad mx cws sp sep lines init ps tsep G R V hf hfl h0 h1 hll hsum"
 obtain⟨n,hx⟩:=V.acc.ox
 walk_at "c n"
 obtain⟨t,ti,hd,hti⟩:=V.acc.od
 walk_at "c t ti"
 obtain⟨t1,t2,t3,t4,t5,t6,tm,tc,tl,ts,hvd⟩:=V.od
 walk_at "c t1 t2 t3 t4 t5 t6 tm tc tl ts"
 obtain⟨ls,nl,hls,hla⟩:=V.ol
 walk_at "c ls nl"
 refine Bw (binds:=[("self", .ref x),("linesep", .str sep tsep)]) [ax,ad,la] (S6 w) G R (by kernel_rfl) (by kernel_rfl) ?_
 walk_at " L s₁ D"
 have ndL:=D.ne0 hvd
 have nadL:=D.ne0 hd
 have naxL:=D.ne0 hx
 have nlaL:=D.ne0 hla
 refine wpAny_execs_cons ?_
 walk_at "s3"
 refine Ak ?_
 walk_at "s3"
 walk_at " pl"
 have V1:=D.vf V ndL nadL
 refine vm (.ref 92) D.k V1 (by kernel_rfl) (by kernel_rfl) (by intros;kernel_rfl) ?_
 refine Ha ⟨Cr D.k (by kernel_rfl),?_⟩
 refine wpAny_mono (Ov w D.good (R.deeper _ |>.mono (by decide)) V1 hf hfl h0 h1 hll) ?_ λ _ _ e=>e.elim
 walk_at " r s2 z"
 obtain⟨rfl,st2,V2⟩:=z
 have D2:=D.step st2 (in3 naxL nadL nlaL V.acc.x3 V.acc.d3 V.l3)
 walk_at "s3"
 refine Ak ?_
 walk_at "s3"
 walk_at " pl"
 refine GM.join (Co (spliced_more ?_))
 refine Bl ?_
 walk_at "s3"
 refine Iq D2.k V2 ?_
 have D3:=D2.toks 1
 obtain⟨ls2,n2,hls2,hla2⟩:=V2.ol
 walk_at "c ls2 n2"
 refine spliced_none ⟨Bh,wpAny_with_toks (Nat.le_refl (s2.toks+1)) (join_list (x:=sep) (items:=(strValues ls2).toArray) (ys:=Aw lines init (T ps)) (Al hla2) (hls2 ▸ T2 ls2) hsum ?_)⟩
 walk_at " t' k hk"
 refine⟨⟨t',?_⟩,(D2.grow (t:=k) (λ _ _ e=>e) (Nat.le_trans (Nat.le_succ _) hk)).st,V2⟩
 show Value.str (Builtin.Str.glued sep _) t'=_
 rw[StrLaws.glued_eq_join]
section
variable {w:World} {A:Around} {E:VP} {s:Shared} {env:Env}
theorem Aj {value slice:PySem.Expr} {pos:Pos} {Q:VP}
  (h:wpAny (MD w) A (eval value env) (λ o s₁=>wpAny (MD w) A (eval slice env) (λ i s₂=>wpAny (MD w) A (getitemInPython o) (λ b s₃=>b=false∧wpAny (MD w) A (getItem o i) Q E s₃) E s₂) E s₁) E s):wpAny (MD w) A (eval (.Subscript value slice pos) env) Q E s:=by
 walk_at "c w A E s env value slice pos Q h"
 rw[eval_Subscript]
 refine wpAny_bind (wpAny_mono h ?_ λ _ _ x=>x)
 walk_at " o s₁ h₁"
 refine wpAny_bind (wpAny_holding (wpAny_mono h₁ ?_ λ _ _ x=>x))
 walk_at " i s₂ h₂"
 refine wpAny_bind (wpAny_standAt (wpAny_bind (wpAny_mono h₂ ?_ λ _ _ x=>x)))
 walk_at " b s₃ h₃"
 obtain⟨rfl,h₃⟩:=h₃
 have fin:∀ vs,wpAny (MD w) A (operate vs (getItem o i)) (λ r s₃=>wpAny (MD w) A (letTemporaryGo value o r >>= λ _=>pure r) Q E s₃) E s₃:=λ vs =>
  wpAny_operating (wpAny_mono h₃ (λ r s₃ h₃=>wpAny_bind (wpAny_letTemporaryGo (wpAny_pure h₃))) λ _ _ x=>x)
 refine wpAny_bind ?_
 unfold subscripted
 split
 ·exact fin _
 ·rename_i q;cases q
 ·exact fin _
theorem Fa {o:Value} {T id:String} {Q:Bool→Shared→Prop} (hT:s.TypeIs o T) (hl:typeLookup (.type T) "__getitem__" = pure (some (.builtin id))) (h:Q false s):wpAny (MD w) A (getitemInPython o) Q E s:=by
 unfold getitemInPython
 exact wpAny_bind (wpAny_specialOf hT hl (wpAny_pure h))
variable {x d:Addr} {its:List Value} {n:Nat} {t:Tok} {iv:Value}
theorem Rs {i:Int} {u:Tok} {v:Value} {Q:VP} (X:(K w.params).In s.heap) (hx:s.heap.get? x=some (A8 d its n)) (hd:s.heap.get? d=some (A9 w.params t iv)) (h0:0≤i) (hfit:Builtin.List.listFitsIndex i=true) (hk:its[i.toNat]?=some v) (h:Q v s) :
  wpAny (MD w) A (getItem (.ref x) (.int i u)) Q E s:=by
 walk_at "c w A E s x d its n t iv i u v Q X hx hd h0 hfit hk h"
 unfold getItem
 refine wpAny_holding (wpAny_bind (Nt X hx hd (wpAny_bind (Ji X hx hd (by kernel_rfl) F.slot_list_getitem.bind ?_))))
 refine Ib (nm := "__getitem__") X hx hd (.inr (by decide +kernel)) (by decide +kernel) F.slot_list_getitem.plain F.entry_list_getitem (F.args_list_getitem_2 _ _) ?_
 show wpAny _ _ (Builtin.List.listSubscript? (.int i u) >>= _) _ _ s
 refine wpAny_bind (wpAny_listSubscript_int hfit ?_)
 clear hfit
 obtain⟨j,rfl⟩:=Int.eq_ofNat_of_zero_le h0
 walk_at "c j"
 show wpAny _ _ ((seqItemAt x j >>= λ r=>pure (r.map (j,·))) >>= _) _ _ s
 refine wpAny_bind (wpAny_bind (wpAny_seqItemAt hx rfl (wpAny_pure ?_)))
 rw[show its.toArray[j]?=some v by simpa using hk]
 first
  | exact wpAny_pure ⟨_,rfl,wpAny_pure h⟩
  | exact wpAny_bind (wpAny_pure (wpAny_pure ⟨_,rfl,wpAny_pure h⟩))
end
section
variable {w:World} {S:List Addr} {s₀:Shared} {L:Addr} {ref:Heap} {m:SV} {news:AO} {s:Shared}
theorem Cl.setHead {I:Addr} {o o':Obj} (D:Cl w S s₀ L ref m ((I,o)::news) s) (hI:ref.get? I=none) (h0:s₀.heap.get? I=none) (hn:∀ p∈news,p.1≠I) {h':Heap} {t:Tok} (hk:∀ b ob,b≠I→s.heap.get? b=some ob→h'.get? b=some ob) (hg:h'.get? I=some o') (ht:s.toks≤t) :
  Cl w S s₀ L ref m ((I,o')::news) {s with heap:=h',toks:=t}:=by
 have z:=D.nw _ (List.mem_cons_self ..)
 obtain⟨oL,es,ep,hL,r⟩:=D.ns
 have hL':=hk _ _ (Ne.symm z.2.1) hL
 have hz:@LE.le Nat _ 317 h'.objs.size:=Nat.le_of_lt (Nat.lt_of_le_of_lt D.hL (Heap.lt_size hL'))
 have low:∀ b ob,@LT.lt Nat _ b 317→s.heap.get? b=some ob→h'.get? b=some ob:=λ b ob hb e=>hk b ob (Nat.ne_of_lt (Nat.lt_of_lt_of_le hb z.2.2)) e
 have V:Fh h':=by
  refine⟨?_,?_,hz⟩
  ·obtain⟨ps,e⟩:=D.good.vol.a
   exact⟨ps,e.at2 (λ _ e1=>low _ _ (by decide) e1) (λ _ e2=>low _ _ (by decide) e2)⟩
  ·obtain⟨ps,e⟩:=D.good.vol.b
   exact⟨ps,e.at2 (λ _ e1=>low _ _ (by decide) e1) (λ _ e2=>low _ _ (by decide) e2)⟩
 refine⟨⟨oL,es,ep,hL',r⟩,λ b ob h1 h2 h3 e=>hk _ _ (λ q=>by rw[q,hI] at e;cases e) (D.keep b ob h1 h2 h3 e),λ p hp=>?_,
  ⟨λ b ob h1 h2 h3 e=>hk _ _ (λ q=>by rw[q,h0] at e;cases e) (D.st.keep b ob h1 h2 h3 e),Nat.le_of_lt (Nat.lt_of_le_of_lt D.g1 (Heap.lt_size hL')),V,D.st.calm.trans (Cx.heap ht)⟩,D.g1,D.hL,
  ⟨D.good.st.low λ b ob hb _ _ e=>low b ob hb e,V,Nat.lt_of_lt_of_le D.good.tk ht⟩,D.rns⟩
 rcases List.mem_cons.mp hp with rfl|hp
 ·exact⟨hg,z.2⟩
 ·have y:=D.nw p (List.mem_cons_of_mem _ hp)
  exact⟨hk _ _ (hn p hp) y.1,y.2⟩
theorem Cl.gone {I:Addr} {o:Obj} (D:Cl w S s₀ L ref m ((I,o)::news) s) (hI:ref.get? I=none) (h0:s₀.heap.get? I=none) (hn:∀ p∈news,p.1≠I) {h':Heap} {t:Tok} (hk:∀ b ob,b≠I→s.heap.get? b=some ob→h'.get? b=some ob) (ht:s.toks≤t) :
  Cl w S s₀ L ref m news {s with heap:=h',toks:=t}:=by
 have z:=D.nw _ (List.mem_cons_self ..)
 obtain⟨oL,es,ep,hL,r⟩:=D.ns
 have hL':=hk _ _ (Ne.symm z.2.1) hL
 have hz:@LE.le Nat _ 317 h'.objs.size:=Nat.le_of_lt (Nat.lt_of_le_of_lt D.hL (Heap.lt_size hL'))
 have low:∀ b ob,@LT.lt Nat _ b 317→s.heap.get? b=some ob→h'.get? b=some ob:=λ b ob hb e=>hk b ob (Nat.ne_of_lt (Nat.lt_of_lt_of_le hb z.2.2)) e
 have V:Fh h':=by
  refine⟨?_,?_,hz⟩
  ·obtain⟨ps,e⟩:=D.good.vol.a
   exact⟨ps,e.at2 (λ _ e1=>low _ _ (by decide) e1) (λ _ e2=>low _ _ (by decide) e2)⟩
  ·obtain⟨ps,e⟩:=D.good.vol.b
   exact⟨ps,e.at2 (λ _ e1=>low _ _ (by decide) e1) (λ _ e2=>low _ _ (by decide) e2)⟩
 exact⟨⟨oL,es,ep,hL',r⟩,λ b ob h1 h2 h3 e=>hk _ _ (λ q=>by rw[q,hI] at e;cases e) (D.keep b ob h1 h2 h3 e),λ p hp=>⟨hk _ _ (hn p hp) (D.nw p (List.mem_cons_of_mem _ hp)).1,(D.nw p (List.mem_cons_of_mem _ hp)).2⟩,
  ⟨λ b ob h1 h2 h3 e=>hk _ _ (λ q=>by rw[q,h0] at e;cases e) (D.st.keep b ob h1 h2 h3 e),Nat.le_of_lt (Nat.lt_of_le_of_lt D.g1 (Heap.lt_size hL')),V,D.st.calm.trans (Cx.heap ht)⟩,D.g1,D.hL,
  ⟨D.good.st.low λ b ob hb _ _ e=>low b ob hb e,V,Nat.lt_of_lt_of_le D.good.tk ht⟩,D.rns⟩
theorem Cl.drop (D:Cl w S s₀ L ref m news s) {news':AO} (h:∀ p∈news',p∈news):Cl w S s₀ L ref m news' s:=⟨D.ns,D.keep,λ p hp=>D.nw p (h p hp),D.st,D.g1,D.hL,D.good,D.rns⟩
end
noncomputable def Fv (q:Str×Str):Prop:=q.1.cps.toList.head?=some 32∧q.2.cps.toList.getLast?=some 59
noncomputable def Ij (c:Nat):Bool:=c == 32 || c == 59
noncomputable def He (sp:Str):Bool:=sp.cps.toList.any Ij
noncomputable def Fi (mx:Int) (sp:Str) (lines:List Str) (init:Int) (l:LS) (q:Str×Str):List Str×Int×List (Str×Str) :=
 if Cs init (l++[q])≤mx then (lines,init,l++[q])
 else if He sp=true∧l≠[] then (lines++[S (B4 l)],0,[q])
 else if init > 0 then (Aw lines init l,0,[q])
 else (lines,init,l++[q])
section
variable {w:World} {S:List Addr} {s₀:Shared} {L:Addr} {ref:Heap} {m m':SV} {news:AO} {s s':Shared}
theorem Cl.under (D1:Cl w S s₀ L ref m news s) (D2:Cl w S s₀ L s.heap m' [] s'):Cl w S s₀ L ref m' news s' :=
 ⟨D2.ns,λ b o h1 h2 h3 e=>D2.keep b o h1 h2 h3 (D1.keep b o h1 h2 h3 e),λ p hp=>let z:=D1.nw p hp;⟨D2.old z.1 z.2.2 z.2.1,z.2⟩,D2.st,D1.g1,D1.hL,D2.good,D1.rns⟩
end
noncomputable abbrev riO (x left step:Int):Obj:={cls:=.type "range_iterator", data:=.fields #[rawInt x,rawInt left,rawInt step]}
section
variable {w:World} {S:List Addr} {s₀:Shared} {L:Addr} {ref:Heap} {m m':SV} {news:AO} {s s':Shared} {A:Around} {E:VP}
theorem n_range3 {a b c:Int} {t u v:Tok} {Q:VP} (D:Cl w S s₀ L ref m news s) (hc:c≠0) (hp:Builtin.divisionGoesByPylong (b-a) c=false)
  (h:∀ s' r,Cl w S s₀ L ref m ((r,{cls:=.type "range", data:=.fields #[.int a t,.int b u,.int c v]})::news) s'→Q (.ref r) s'):wpAny (MD w) A (call (.type "range") [.int a t,.int b u,.int c v]) Q E s :=
 call_range_3 hc (h _ _ (D.push _ rfl)) (.inl hp)
theorem Rg {r:Addr} {a b c:Int} {t u v:Tok} {n:Nat} {Q:VP} (D:Cl w S s₀ L ref m ((r,{cls:=.type "range", data:=.fields #[.int a t,.int b u,.int c v]})::news) s)
  (hs:Builtin.Range.small a b c=true) (hn:Builtin.Range.rangeSize a b c=n)
  (h:∀ s' I,Cl w S s₀ L s.heap m [(I,riO a n c)] s'→s.heap.get? I=none→s₀.heap.get? I=none→Q (.ref I) s'):wpAny (MD w) A (pyIter (.ref r)) Q E s:=by
 refine wpAny_pyIter_range (D.at 0 rfl) hs ?_
 rw[hn]
 exact h _ _ (D.rebase.push _ rfl) (Bc (Nat.le_refl _)) (Bc D.st.size)
theorem n_forR {I:Addr} {a c:Int} {n:Nat} {env:Env} {target:PySem.Expr} {body orelse:List Stmt} {Q:FP} (hh:A.handled=none) (D:Cl w S s₀ L ref m [(I,riO a n c)] s) (hI:ref.get? I=none) (h0I:s₀.heap.get? I=none)
  (X B:Nat→(SV)→Prop) (hX:X 0 m)
  (turn:∀ i m' z o tk,i<n→X i m'→Cl w S s₀ L ref m' [(I,o)] z→wpAny (MD w) A (assign target env (.int (a+i*c) tk)) (λ _ s₂=>wpAny (MD w) A (execs body env) (λ f s₃=>∃ m'',Cl w S s₀ L z.heap m'' [] s₃∧(((f=.next∨f=.cont)∧X (i+1) m'')∨(f=.brk∧B i m''))) (λ _ _=>False) s₂) (λ _ _=>False) z)
  (done:∀ m' z,Cl w S s₀ L ref m' [] z→X n m'→wpAny (MD w) A (execs orelse env) Q (λ _ _=>False) z)
  (brk:∀ i m' z,i<n→Cl w S s₀ L ref m' [] z→B i m'→Q .next z)
  (ht:∀ v,letOwnedTupleGo target (.ref I) v=pure ():=by intro _;rfl) :
  codeAny (MD w) A (.forLoop target (.ref I) body orelse env) (λ r s'=>match r with|.ok f=>Q f s'|.error e=>E e s') s:=by
 refine On (Walks.range hh I a c n) (λ i z=>∃ m',X i m'∧Cl w S s₀ L ref m' [(I,riO (a+i*c) ((n:Int)-i) c)] z) ?_ ?_ ?_ ⟨m,hX,by simpa using D⟩ ht
 ·rintro i z ⟨m',hx,Dz⟩
  exact Dz.at 0 rfl
 ·rintro i z hi ⟨m',hx,Dz⟩ v h' tk ⟨t,rfl⟩ hst hk htk
  have Da:=Dz.setHead hI h0I (λ _ h=>nomatch h) (λ b ob hb e=>hk b ob (by simpa using hb) e) hst htk
  refine wpAny_mono (turn i m' _ _ t hi hx Da) (λ _ s₂ h₂=>wpAny_mono h₂ (λ f s₃ h₃=>?_) λ _ _ e=>e) λ _ _ e=>e
  obtain⟨m'',D3,h3⟩:=h₃
  rcases h3 with ⟨rfl|rfl,hx3⟩|⟨rfl,hb⟩
  ·exact⟨m'',hx3,Da.under D3⟩
  ·exact⟨m'',hx3,Da.under D3⟩
  ·exact brk i m'' _ hi ((Da.under D3).drop λ _ h=>nomatch h) hb
 ·rintro z ⟨m',hx,Dz⟩ h' tk hk htk
  exact done m' _ (Dz.gone hI h0I (λ _ h=>nomatch h) (λ b ob hb e=>hk b ob (by simpa using hb) e) htk) hx
end
theorem ch_space:Txt.isspace ⟨#[32]⟩=true:=by kernel_rfl
theorem ch_semi:Txt.isspace ⟨#[59]⟩=false:=by kernel_rfl
theorem ch_comma:Txt.isspace ⟨#[44]⟩=false:=by kernel_rfl
theorem Qt {b:Str} {c:Nat} (h:b.cps.toList.head?=some c):0<b.length∧(seqIndex? 0 b.length).bind (b.cps[·]?)=some c:=by
 have h0:0<b.length:=by
  cases hb:b.cps.toList with
  | nil=>rw[hb] at h;cases h
  | cons y r=>have:=congrArg List.length hb;simp at this;simp only[Str.length];lia
 refine⟨h0,?_⟩
 rw[seqIndex?_zero h0]
 simpa [List.head?_eq_getElem?] using h
theorem str_last {b:Str} {c:Nat} (h:b.cps.toList.getLast?=some c):0<b.length∧(seqIndex? (-1) b.length).bind (b.cps[·]?)=some c:=by
 have h0:0<b.length:=by
  cases hb:b.cps.toList with
  | nil=>rw[hb] at h;cases h
  | cons y r=>have:=congrArg List.length hb;simp at this;simp only[Str.length];lia
 refine⟨h0,?_⟩
 rw[seqIndex?_neg_one h0]
 simpa [List.getLast?_eq_getElem?,Str.length] using h
theorem hit_no {sp:Str} (h:∀ k<sp.cps.size,∀ c,sp.cps[k]?=some c→Ij c=false):He sp=false:=by
 unfold He
 rw[List.any_eq_false]
 intro c hc
 obtain⟨k,hk,e⟩:=List.mem_iff_getElem.mp hc
 have:=h k (by simpa using hk) c (by rw[Array.getElem?_eq_some_iff];exact⟨by simpa using hk,by simpa using e⟩)
 simp[this]
theorem hit_yes {sp:Str} {k c:Nat} (h:sp.cps[k]?=some c) (hc:Ij c=true):He sp=true:=by
 unfold He
 rw[List.any_eq_true]
 exact⟨c,by rw[Array.mem_toList_iff];exact Array.mem_of_getElem? h,hc⟩
theorem Nh (n:Nat):Builtin.Range.rangeSize ((n:Int)) 0 (-1)=n:=by
 unfold Builtin.Range.rangeSize
 rw[if_neg (by decide)]
 split
 ·simp
 ·lia
theorem T1 (n:Nat) (h:n≤1000):Builtin.Range.small (n:Int) 0 (-1)=true:=by
 unfold Builtin.Range.small
 rw[Nh]
 simp[Builtin.Range.rangeFitsLong]
 lia
section
variable {w:World} {A:Around} {E:VP} {s:Shared} {x d:Addr} {init:Int} {ps:List A0}
theorem n_item (X:(K w.params).In s.heap) (q:A2 w.params s.heap x d init ps) {i:Int} {u:Tok} {y:A0} {Q:VP} (h0:0≤i) (hk:ps[i.toNat]?=some y) (h:Q (.ref y.a) s) :
  wpAny (MD w) A (getitemInPython (.ref x)) (λ b s₃=>b=false∧wpAny (MD w) A (getItem (.ref x) (.int i u)) Q E s₃) E s:=by
 obtain⟨n,hx⟩:=q.ox
 obtain⟨t,ti,hd,_⟩:=q.od
 have hf:=q.few
 have hlt:i.toNat<ps.length:=(List.getElem?_eq_some_iff.mp hk).1
 have hfit:Builtin.List.listFitsIndex i=true:=by
  unfold Builtin.List.listFitsIndex
  simp;lia
 exact Kh X hx hd ⟨rfl,Rs X hx hd h0 hfit (by rw[List.getElem?_map,hk];rfl) h⟩
theorem Gq {y:A0} (e:s.heap.get? y.a=some y.obj) {i:Int} {u:Tok} {Q:VP} (hi:i=0∨i=1) (h:Q (if i=0 then .str y.b y.tb else .str y.p y.tp) s) :
  wpAny (MD w) A (getitemInPython (.ref y.a)) (λ b s₃=>b=false∧wpAny (MD w) A (getItem (.ref y.a) (.int i u)) Q E s₃) E s:=by
 refine Fa (T := "tuple") (id := "tuple.__getitem__") ⟨_,e,rfl⟩ slot_tuple_getitem.lookup ⟨rfl,?_⟩
 rcases hi with rfl|rfl
 ·exact getItem_tuple (j:=0) ⟨_,e,rfl,0,rfl⟩ (by decide) (by decide) (show seqIndex? 0 2=some 0 by decide) rfl h
 ·exact getItem_tuple (j:=1) ⟨_,e,rfl,0,rfl⟩ (by decide) (by decide) (show seqIndex? 1 2=some 1 by decide) rfl h
theorem Kx {x:Str} {t u:Tok} {i:Int} {c:Nat} {Q:VP} (hr:(decide (i < -(2 ^ 63:Int)) || decide (i ≥ 2 ^ 63))=false) (hc:(seqIndex? i x.length).bind (x.cps[·]?)=some c) (h:Q (.str ⟨#[c]⟩ s.toks) {s with toks:=s.toks+1}) :
  wpAny (MD w) A (getitemInPython (.str x t)) (λ b s₃=>b=false∧wpAny (MD w) A (getItem (.str x t) (.int i u)) Q E s₃) E s :=
 Fa (T := "str") (id := "str.__getitem__") (typeIs_str _ _ _) F.slot_str_getitem.lookup ⟨rfl,getItem_str hr hc h⟩
end
theorem Ch {w:World} {S:List Addr} {s₀ s:Shared} {L:Addr} {ref:Heap} {m:SV} {news:AO} {A:Around} {E:VP} {env:Env} {elts:List PySem.Expr} {x1} {pos:Pos} {t:Addr} {items:Array Value} {Q:Unit→Shared→Prop}
  (D:Cl w S s₀ L ref m news s) (hh:A.handled=none) (ht:s.heap.IsTuple t items) (hn:(assignEach elts env).length=items.size) (hstar:(assignEach elts env).findIdx? (·.1)=none)
  (h:∀ s',Cl w S s₀ L ref m news s'→wpAny (MD w) A (assignInOrder ((assignEach elts env).map (·.2)) items.toList) Q E s'):wpAny (MD w) A (assign (.Tuple elts x1 pos) env (.ref t)) Q E s :=
 wpAny_assign_Tuple hh ht hn hstar λ _ he=>h _ (D.grow (t:=s.toks) (λ b _ e=>he b _ (Nat.ne_of_lt (Heap.lt_size e)) e) (Nat.le_refl _))
theorem Ml:∀ (w:World) {A:Around} {s:Shared} {x d la ax ad:Addr} {mx:Int} {cws sp b p:Str} {tb tp:Tok} {lines:List Str} {init:Int} {ps:List A0} (G:A5 w s) (R:A3 A 20) (V:Aa w.params s.heap x d la ax ad mx cws sp lines init ps) (hf:ps.length≤180) (hfl:lines.length≤180) (h0:0≤init) (h1:Au init ps<20000) (hb:b.length≤1000) (hp:p.length≤1000) (hll:∀ l∈lines,l.length≤100000) (hsp:∀ c∈sp.cps.toList,c=32∨c=59∨c=44) (hgood:¬ Cs init (T ps++[(b,p)])≤mx→∀ q∈T ps++[(b,p)],Fv q),
  wpAny (MD w) A (call (.ref 127) [.ref x,.str b tb,.str p tp]) (λ r s'=>r=.none∧A4 [ax,ad,la] s s'∧∃ ps',T ps'=(Fi mx sp lines init (T ps) (b,p)).2.2∧Aa w.params s'.heap x d la ax ad mx cws sp (Fi mx sp lines init (T ps) (b,p)).1 (Fi mx sp lines init (T ps) (b,p)).2.1 ps') no s:=by
 walk_at " w A s x d la ax ad mx cws sp b p tb tp lines init ps G R V hf hfl h0 h1 hb hp hll hsp hgood"
 obtain⟨n,hx⟩:=V.acc.ox
 walk_at "c n"
 obtain⟨t,ti,hd,hti⟩:=V.acc.od
 walk_at "c t ti"
 obtain⟨t1,t2,t3,t4,t5,t6,tm,tc,tl,ts,hvd⟩:=V.od
 walk_at "c t1 t2 t3 t4 t5 t6 tm tc tl ts"
 obtain⟨ls,nl,hls,hla⟩:=V.ol
 walk_at "c ls nl"
 refine Bw (binds:=[("self", .ref x),("fws", .str b tb),("string", .str p tp)]) [ax,ad,la] (Pb w) G R (by kernel_rfl) (by kernel_rfl) ?_
 walk_at " L s₁ D"
 have ndL:=D.ne0 hvd
 have nadL:=D.ne0 hd
 have naxL:=D.ne0 hx
 have nlaL:=D.ne0 hla
 have inA:∀ q∈[ax,ad],(q∈[ax,ad,la]∨s.heap.get? q=none)∧q≠L∧@LE.le Nat _ 317 q:=in2 (.inl (.head _)) (.inl (.tail _ (.head _))) naxL nadL V.acc.x3 V.acc.d3
 refine wpAny_execs_cons ?_
 walk_at "s3"
 refine Ak ?_
 refine Bl ?_
 walk_at "s3"
 have V1:=D.vf V ndL nadL
 refine Ea D.k V1 ?_
 have D2:=D.toks 1
 walk_at " pl"
 refine am (.ref 158) D2.k V1.acc (by kernel_rfl) (by kernel_rfl) (by intros;kernel_rfl) ?_
 refine Co ?_
 walk_at "s3"
 refine⟨Cr D2.k (by kernel_rfl),wpAny_mono (Lj w D2.good (R.deeper _ |>.mono (by decide)) V1.acc hb hp (by exact Nat.le_trans (by assumption) (by decide))) ?_ λ _ _ e=>e.elim⟩
 walk_at " r s3 z"
 obtain⟨rfl,st3,a3,q3⟩:=z
 walk_at "c a3"
 have D3:=D2.step st3 inA
 have V3:Aa w.params s3.heap x d la ax ad mx cws sp lines init (ps++[⟨a3,b,tb,p,tp⟩]):=Aa.onAcc (s:={s₁ with toks:=s₁.toks+1}) V1 st3 q3
 have hT3:T (ps++[⟨a3,b,tb,p,tp⟩])=T ps++[(b,p)]:=by simp[T]
 have hlen3:Au init (ps++[⟨a3,b,tb,p,tp⟩])=Cs init (T ps++[(b,p)]):=by rw[Es,hT3]
 have hb3:0≤Au init (ps++[⟨a3,b,tb,p,tp⟩])∧Au init (ps++[⟨a3,b,tb,p,tp⟩])<25000:=by
  refine⟨by rw[hlen3];exact J0 h0 _,?_⟩
  have:Au init (ps++[⟨a3,b,tb,p,tp⟩])=Au init ps+((b.length:Int)+(p.length:Int)):=by simp[Au,A0.len];simp +arith
  lia
 generalize hps1:ps++[⟨a3,b,tb,p,tp⟩]=ps1 at *
 walk_at "s3"
 refine wpAny_If ?_
 walk_at "s3"
 refine Am ?_
 walk_at "b len"
 refine Co (spliced_more ?_)
 refine Bl ?_
 walk_at "s3"
 refine Ea D3.k V3 ?_
 have D4:=D3.toks 1
 refine spliced_none ⟨Bh,wpAny_mono (Lb w D4.good (R.deeper _ |>.mono (by decide)) V3.acc hb3.1 (by lia)) ?_ λ _ _ e=>e.elim⟩
 walk_at " r s5 z"
 obtain⟨⟨t5',_,rfl⟩,st5⟩:=z
 walk_at "c t5'"
 have D5:=D4.step0 st5
 refine Bl ?_
 walk_at "s3"
 have V5:=D5.vf V3 ndL nadL
 refine Qx D5.k V5 ?_
 walk_at " tmx"
 have D6:=D5.toks 1
 walk_at "s3"
 rw[hlen3]
 by_cases hfit:Cs init (T ps++[(b,p)])≤mx
 ·refine Be (by simp;omega) ?_
  walk_at "s3"
  refine⟨rfl,D6.st,ps1,?_,?_⟩
  ·unfold Fi;rw[if_pos hfit];exact hT3
  ·unfold Fi;rw[if_pos hfit];exact V5
 ·refine Bk (by simp;lia) ?_
  have hg:=hgood hfit
  have hgP:∀ y∈ps1,y.b.cps.toList.head?=some 32∧y.p.cps.toList.getLast?=some 59:=λ y hy=>hg (y.b,y.p) (by rw[← hT3];exact List.mem_map.mpr ⟨y,hy,rfl⟩)
  have hlen1:ps1.length=ps.length+1:=by rw[← hps1];simp
  walk_at "s3"
  refine wpAny_For ?_
  refine Bl ?_
  walk_at "s3"
  refine vg_split D6.k V5 ?_
  walk_at " tsp"
  have D7:=(D6.toks 1).rebase
  refine wpAny_pyIter_strU ?_
  have D8:=D7.push {cls:=.type (strIterType sp),data:=.fields #[.str sp tsp,.int 0 0]} rfl
  have hasc:strIterType sp = "str_ascii_iterator" := by
   unfold strIterType
   rw[if_pos]
   rw[Array.all_eq_true']
   walk_at " c hc"
   have:=hsp c (by rw[Array.mem_toList_iff];exact hc)
   simp;lia
  rw[hasc] at D8 ⊢
  have hI:s5.heap.get? s5.heap.objs.size=none:=Bc (Nat.le_refl _)
  have h0I:s.heap.get? s5.heap.objs.size=none:=Bc D7.st.size
  generalize hIe:s5.heap.objs.size=I at *
  refine On (Walks.strAscii (R.deeper _).hd I sp tsp) (λ i z=>∃ m' o,m' "self" = some (.ref x)∧o.cls=.type "str_ascii_iterator" ∧ o.data=.fields #[.str sp tsp,.int i 0]∧Cl w [ax,ad,la] s L s5.heap m' [(I,o)] z∧(2≤ps1.length→∀ k<i,∀ c,sp.cps[k]?=some c→Ij c=false)) ?_ ?_ ?_ ⟨_,_,rfl,rfl,rfl,D8,λ _ k hk=>absurd hk (Nat.not_lt_zero k)⟩
  ·rintro i z ⟨m',o,hm,hc,hd',Dz,_⟩
   walk_at "c i z m' o"
   exact⟨o,Dz.at 0 rfl,hc,hd'⟩
  ·rintro i z hi ⟨m',o,hm,hc,hd',Dz,hz⟩ v h' tk ⟨c,u,hc2,rfl⟩ ⟨o',ho',hco',hdo'⟩ hk htk
   walk_at "c i z hi m' o hm hc hd' Dz hz h' tk c u hc2 o'"
   have Da:=Dz.setHead hI h0I (λ _ h=>nomatch h) (λ b ob hb e=>hk b ob (by simpa using hb) e) ho' htk
   refine wpAny_assign_Name ?_
   refine An Da ?_ (by kernel_rfl) (by kernel_rfl)
   walk_at " s9 D9"
   have hm9:(λ y=>if y=Str.ofString "ch" then some (Value.str {cps:=#[c]} u) else m' y) "self" = some (.ref x):=hm
   have hch9:(λ y=>if y=Str.ofString "ch" then some (Value.str {cps:=#[c]} u) else m' y) "ch" = some (.str ⟨#[c]⟩ u):=if_pos rfl
   generalize (λ y=>if y=Str.ofString "ch" then some (Value.str {cps:=#[c]} u) else m' y)=m9 at *
   have V9:=D9.vf V5 ndL nadL
   have hcc:c=32∨c=59∨c=44:=hsp c (by rw[Array.mem_toList_iff];exact Array.mem_of_getElem? hc2)
   refine wpAny_mono (Q:=λ f z'=>∃ m'',m'' "self" = some (.ref x)∧Cl w [ax,ad,la] s L s9.heap m'' [] z'∧((f=.cont∧(2≤ps1.length→Ij c=false))∨(f=.brk∧2≤ps1.length∧Ij c=true∧∃ ti,m'' "i" = some (.int (ps.length:Int) ti)))) ?_ ?_ (λ _ _ e=>e)
   ·refine wpAny_execs_cons ?_
    refine wpAny_For ?_
    have E9:=D9.rebase
    refine Am ?_
    walk_at "t range"
    refine Co (spliced_more ?_)
    walk_at "s3"
    refine Ak ?_
    refine Bl ?_
    refine Ai E9 hm9 ?_
    refine Ea E9.k V9 ?_
    have E10:=E9.toks 1
    walk_at " pl"
    refine am (.ref 211) E10.k V9.acc (by kernel_rfl) (by kernel_rfl) (by intros;kernel_rfl) ?_
    obtain⟨n9,hx9⟩:=V9.acc.ox
    walk_at "c n9"
    obtain⟨t9,ti9,hd9,hti9⟩:=V9.acc.od
    walk_at "c t9 ti9"
    refine Ha ⟨Cr E10.k (by kernel_rfl),wpAny_mono (Ik w E10.good (R.deeper _ |>.mono (by decide)) hx9 hd9 V9.acc.x3 V9.acc.d3 (by simp;lia)) ?_ λ _ _ e=>e.elim⟩
    walk_at " r s11 z"
    obtain⟨⟨t11,_,rfl⟩,st11⟩:=z
    walk_at "c t11"
    have E11:=E10.step0 st11
    walk_at "s3"
    rename_i s12 t12 E12 _
    have hnn:((List.map (λ q:A0=>Value.ref q.a) ps1).length:Int)-1=(ps.length:Int):=by simp[hlen1]
    rw[hnn]
    refine⟨Gk,n_range3 E12 (by decide) (PyProof.noPylong_small (by decide)) ?_⟩
    walk_at " s13 r13 E13"
    refine Rg E13 (T1 _ (by exact Nat.le_trans (by assumption) (by decide))) (Nh _) ?_
    walk_at " s14 I2 E14 hI2 h0I2"
    have V13:=E13.vf V9 ndL nadL
    refine n_forR (R.deeper _).hd E14 hI2 h0I2 (λ i mm=>mm "self" = some (.ref x)∧mm "ch" = some (.str ⟨#[c]⟩ u)∧(Ij c=true→i=0)) (λ i mm=>mm "self" = some (.ref x)∧Ij c=true∧2≤ps1.length∧∃ ti,mm "i" = some (.int (ps.length:Int) ti)) ⟨hm9,hch9,λ _=>rfl⟩ ?_ ?_ ?_
    ·rintro k mm z2 o2 tk2 hk2 ⟨hmm,hmc,hmh⟩ F1
     walk_at "c k mm z2 o2 tk2"
     have W1:=F1.vf V13 ndL nadL
     obtain⟨j,hj,hj1,hj2⟩:∃ j:Nat,(ps.length:Int)+(k:Int)*-1=(j:Int)∧1≤j∧j+k=ps.length:=⟨ps.length-k,by lia,by lia,by lia⟩
     walk_at "c j"
     rw[hj]
     have G1:=F1.rebase
     refine wpAny_assign_Name ?_
     refine An G1 ?_ (by kernel_rfl) (by kernel_rfl)
     walk_at " z3 G3"
     have hm3:(λ y=>if y=Str.ofString "i" then some (Value.int (j:Int) tk2) else mm y) "self" = some (.ref x):=hmm
     have hc3:(λ y=>if y=Str.ofString "i" then some (Value.int (j:Int) tk2) else mm y) "ch" = some (.str ⟨#[c]⟩ u):=hmc
     have hi3:(λ y=>if y=Str.ofString "i" then some (Value.int (j:Int) tk2) else mm y) "i" = some (.int (j:Int) tk2):=if_pos rfl
     generalize (λ y=>if y=Str.ofString "i" then some (Value.int (j:Int) tk2) else mm y)=m3 at *
     have W3:=G3.vf W1 ndL nadL
     have hjl:j<ps1.length:=by lia
     refine wpAny_execs_cons ?_
     refine wpAny_If ?_
     walk_at "s3"
     refine Ak ?_
     refine Ai G3 hc3 ?_
     walk_at " pl2"
     refine GM.isspace (Ha ⟨Bh,SC.isspace ?_⟩)
     walk_at "s3"
     by_cases hc32:c=32
     ·refine Bk (by rw[hc32];exact ch_space) ?_
      have hit32:Ij c=true:=by rw[hc32];rfl
      have hk0:k=0:=hmh hit32
      walk_at "s3"
      refine Aj ?_
      refine Aj ?_
      refine Bl ?_
      refine Ai G3 hm3 ?_
      refine Ea G3.k W3 ?_
      have G4:=G3.toks 1
      refine Ai G4 hi3 ?_
      refine n_item G4.k W3.acc (y:=ps1[j]) (by simp) (by simp[hjl]) ?_
      have hy:=W1.acc.tup _ (List.getElem_mem hjl)
      walk_at "s3"
      rename_i z5 t5 G5 _
      have hy5:=G5.piece hy
      refine Gq hy5.1 (.inl rfl) ?_
      rw[if_pos rfl]
      refine An G5 ?_ (by kernel_rfl) (by kernel_rfl)
      walk_at " z6 G6"
      have hm6:(λ y=>if y=Str.ofString "fws" then some (Value.str ps1[j].b ps1[j].tb) else m3 y) "self" = some (.ref x):=hm3
      have hc6:(λ y=>if y=Str.ofString "fws" then some (Value.str ps1[j].b ps1[j].tb) else m3 y) "ch" = some (.str ⟨#[c]⟩ u):=hc3
      have hi6:(λ y=>if y=Str.ofString "fws" then some (Value.str ps1[j].b ps1[j].tb) else m3 y) "i" = some (.int (j:Int) tk2):=hi3
      have hf6:(λ y=>if y=Str.ofString "fws" then some (Value.str ps1[j].b ps1[j].tb) else m3 y) "fws" = some (.str ps1[j].b ps1[j].tb):=if_pos rfl
      generalize (λ y=>if y=Str.ofString "fws" then some (Value.str ps1[j].b ps1[j].tb) else m3 y)=m6 at *
      have hgy:=hgP _ (List.getElem_mem hjl)
      obtain⟨hb0,hb1⟩:=Qt hgy.1
      walk_at "s3"
      refine wpAny_If ?_
      walk_at "s3"
      refine Ai G6 hf6 ?_
      refine P.truthy_str (by have:=hy.2.2.1;lia) ?_
      have G7:=G6.toks 2
      refine Bk (by simp;exact Nat.ne_of_gt (by assumption)) ?_
      walk_at "s3"
      refine Aj ?_
      refine Ai G7 hf6 ?_
      walk_at "s3"
      rename_i z8 t8 G8 _
      refine Kx (by decide) hb1 ?_
      have G9:=G8.toks 1
      refine Ai G9 hc6 ?_
      refine eq_str ?_
      walk_at "s3"
      refine Bk (by rw[hc32];decide) ?_
      walk_at "s3"
      refine wpAny_Break (env:=fenv Fy 127 L) ?_
      exact⟨m6,G9,.inr ⟨rfl,hm6,hit32,by lia,tk2,by rw[hi6];congr;lia⟩⟩
     ·refine Be (by rcases hcc with rfl|rfl|rfl;exact absurd rfl hc32;rw[ch_semi];decide;rw[ch_comma];decide) ?_
      walk_at "s3"
      refine Aj ?_
      refine Aj ?_
      refine Bl ?_
      refine Ai G3 hm3 ?_
      refine Ea G3.k W3 ?_
      have G4:=G3.toks 1
      walk_at "s3"
      refine Ai G4 hi3 ?_
      walk_at "s3"
      rename_i z5 t5 G5 _ z6 t6 G6 _
      have W6:=G6.vf W1 ndL nadL
      have hjl':j-1<ps1.length:=by lia
      refine n_item G6.k W6.acc (y:=ps1[j-1]) (by lia) (by rw[show ((j:Int)-1).toNat=j-1 by simp];simp[hjl']) ?_
      have hy:=W1.acc.tup _ (List.getElem_mem hjl')
      walk_at "s3"
      rename_i z7 t7 G7 _
      have hy7:=G7.piece hy
      refine Gq hy7.1 (.inr rfl) ?_
      rw[if_neg (by decide)]
      refine An G7 ?_ (by kernel_rfl) (by kernel_rfl)
      walk_at " z8 G8"
      have hm8:(λ y=>if y=Str.ofString "prevpart" then some (Value.str ps1[j-1].p ps1[j-1].tp) else m3 y) "self" = some (.ref x):=hm3
      have hc8:(λ y=>if y=Str.ofString "prevpart" then some (Value.str ps1[j-1].p ps1[j-1].tp) else m3 y) "ch" = some (.str ⟨#[c]⟩ u):=hc3
      have hi8:(λ y=>if y=Str.ofString "prevpart" then some (Value.str ps1[j-1].p ps1[j-1].tp) else m3 y) "i" = some (.int (j:Int) tk2):=hi3
      have hf8:(λ y=>if y=Str.ofString "prevpart" then some (Value.str ps1[j-1].p ps1[j-1].tp) else m3 y) "prevpart" = some (.str ps1[j-1].p ps1[j-1].tp):=if_pos rfl
      generalize (λ y=>if y=Str.ofString "prevpart" then some (Value.str ps1[j-1].p ps1[j-1].tp) else m3 y)=m8 at *
      have hgy:=hgP _ (List.getElem_mem hjl')
      obtain⟨hb0,hb1⟩:=str_last hgy.2
      walk_at "s3"
      refine wpAny_If ?_
      walk_at "s3"
      refine Ai G8 hf8 ?_
      refine P.truthy_str (by have:=hy.2.2.2;lia) ?_
      have G9:=G8.toks 2
      refine Bk (by simp;exact Nat.ne_of_gt (by assumption)) ?_
      walk_at "s3"
      refine Aj ?_
      refine Ai G9 hf8 ?_
      walk_at "s3"
      rename_i z10 t10 G10 _ z11 t11 G11 _
      refine Kx (by decide) hb1 ?_
      have G12:=G11.toks 1
      refine Ai G12 hc8 ?_
      refine eq_str ?_
      walk_at "s3"
      by_cases hc59:c=59
      ·refine Bk (by rw[hc59];decide) ?_
       have hit:Ij c=true:=by rw[hc59];rfl
       have hk0:k=0:=hmh hit
       walk_at "s3"
       refine wpAny_Break (env:=fenv Fy 127 L) ?_
       exact⟨m8,G12,.inr ⟨rfl,hm8,hit,by lia,tk2,by rw[hi8];congr;lia⟩⟩
      ·have hc44:c=44:=by lia
       refine Be (by rw[hc44];decide) ?_
       walk_at "s3"
       refine wpAny_execs_nil ?_
       refine wpAny_execs_nil ?_
       exact⟨m8,G12,.inl ⟨.inl rfl,hm8,hc8,λ h=>by rw[hc44] at h;cases h⟩⟩
    ·rintro mm z2 F1 ⟨hmm,hmc,hmh⟩
     walk_at "c mm z2"
     walk_at "s3"
     refine wpAny_Continue ?_
     exact⟨mm,hmm,(E13.under F1).drop (λ _ h=>nomatch h),.inl ⟨rfl,λ h2=>by
      cases hh:Ij c with
      | false=>rfl
      | true=>have:=hmh hh;lia⟩⟩
    ·rintro k mm z2 hk2 F1 ⟨hmm,hhc,h2,ti2,hmi⟩
     walk_at "c k mm z2 hk2 F1 hmm hhc h2 ti2"
     walk_at "s3"
     refine wpAny_Break (env:=fenv Fy 127 L) ?_
     exact⟨mm,hmm,(E13.under F1).drop (λ _ h=>nomatch h),.inr ⟨rfl,h2,hhc,ti2,hmi⟩⟩
   ·rintro f z' ⟨m'',hm'',Dz',hcase⟩
    walk_at "c f z' m''"
    rcases hcase with ⟨rfl,hno⟩|⟨rfl,h2,hyes,ti',hi'⟩
    ·exact⟨m'',o',hm'',hco',hdo',D9.under Dz',λ h2 k hk c' hc'=>by
      rcases Nat.lt_succ_iff_lt_or_eq.mp hk with h|rfl
      ·exact hz h2 k h c' hc'
      ·rw[hc2] at hc';cases hc';exact hno h2⟩
    ·walk_at "c ti'"
     have H1:=(D9.under Dz').drop (news':=[]) λ _ h=>nomatch h
     have VH:=H1.vf V5 ndL nadL
     have hl0:T ps≠[]:=λ h=>by
      have:=congrArg List.length h
      simp[T] at this;rw[this] at hlen1;simp at hlen1;lia
     have hres:Fi mx sp lines init (T ps) (b,p)=(lines++[S (B4 (T ps))],0,[(b,p)]):=by
      unfold Fi;rw[if_neg hfit,if_pos ⟨hit_yes hc2 hyes,hl0⟩]
     rw[hres]
     walk_at "s3"
     refine Ak ?_
     refine Bl ?_
     refine Ai H1 hm'' ?_
     refine Ea H1.k VH ?_
     have H2:=H1.toks 1
     walk_at " pl3"
     refine am (.ref 166) H2.k VH.acc (by kernel_rfl) (by kernel_rfl) (by intros;kernel_rfl) ?_
     refine Co (spliced_more ?_)
     refine Ai H2 hi' ?_
     refine spliced_none ⟨Cr H2.k (by kernel_rfl),wpAny_mono (Rn w (i:=ps.length) H2.good (R.deeper _ |>.mono (by decide)) VH.acc (by lia)) ?_ λ _ _ e=>e.elim⟩
     walk_at " r s20 z"
     obtain⟨st20,rb,rfl,hrb,hrg,q20,hp20⟩:=z
     walk_at "c rb"
     have H3:=H2.step st20 inA
     have V20:=Aa.onAcc (s:={z' with toks:=z'.toks+1}) VH st20 q20
     have htk':ps1.take ps.length=ps:=by rw[← hps1];simp
     have hdr':ps1.drop ps.length=[⟨a3,b,tb,p,tp⟩]:=by rw[← hps1];simp
     rw[htk'] at V20
     rw[hdr'] at hrg
     have hnb:rb≠(fenv Fy 127 L).locals:=H3.neSeq hrg λ _ _ h=>by cases h
     have hrb3:@LE.le Nat _ 317 rb:=Nat.le_trans H2.good.vol.c hrb
     have hbla:rb≠la:=by
      obtain⟨lsz,nz,_,elz⟩:=VH.ol
      walk_at "c lsz nz"
      exact Nat.ne_of_gt (Nat.lt_of_lt_of_le (Heap.lt_size elz) hrb)
     have hpc:Ar s20.heap ⟨a3,b,tb,p,tp⟩:=hp20 _ (by rw[← hps1];simp)
     refine An H3 ?_ (by kernel_rfl) (by kernel_rfl)
     walk_at " s21 H4"
     have hm4:(λ y=>if y=Str.ofString "remainder" then some (Value.ref rb) else m'' y) "self" = some (.ref x):=hm''
     have hr4:(λ y=>if y=Str.ofString "remainder" then some (Value.ref rb) else m'' y) "remainder" = some (.ref rb):=if_pos rfl
     generalize (λ y=>if y=Str.ofString "remainder" then some (Value.ref rb) else m'' y)=m4 at *
     have V21:=H4.vf V20 ndL nadL
     obtain⟨ls21,n21,hls21,hla21⟩:=V21.ol
     walk_at "c ls21 n21"
     have hlen21:ls21.length≤180:=by rw[← List.length_map (f:=(·.1)),hls21];exact hfl
     have inla:∀ q∈[la],(q∈[ax,ad,la]∨s.heap.get? q=none)∧q≠L∧@LE.le Nat _ 317 q:=λ q hq=>by
      rw[List.mem_singleton.mp hq];exact⟨.inl (by simp),nlaL,V.l3⟩
     walk_at "s3"
     refine Ak ?_
     refine Bl ?_
     refine Ai H4 hm4 ?_
     refine Iq H4.k V21 ?_
     have H5:=H4.toks 1
     walk_at " pl4"
     refine Calls.getMethod_list_append (s:={s21 with toks:=s21.toks+1}) hla21 rfl rfl ?_
     refine Co (spliced_more ?_)
     refine Am ?_
     walk_at "t str"
     refine Co (spliced_more ?_)
     refine Bl ?_
     refine Ai H5 hm4 ?_
     have V22:=H5.vf V20 ndL nadL
     refine Ea H5.k V22 ?_
     have H6:=H5.toks 1
     refine spliced_none ⟨Gk,wpAny_mono (Hm w H6.good (R.deeper _ |>.mono (by decide)) V22.acc) ?_ λ _ _ e=>e.elim⟩
     walk_at " r s23 z"
     obtain⟨⟨t23,rfl⟩,st23⟩:=z
     walk_at "c t23"
     have H7:=H6.step0 st23
     have V23:=H7.vf V20 ndL nadL
     have hla23:s23.heap.get? la=some (A6 (strValues ls21) n21):=st23.get V.l3 (λ h=>nomatch h) hla21
     refine spliced_none ⟨Bh,Fe hla23 (by simp[strValues];exact Nat.le_trans (by assumption) (by decide)) ?_⟩
     walk_at " h24 hs24 hg24"
     have st24:A4 [la] s23 {s23 with heap:=h24}:=A4.sameBut (t:=s23.toks) H7.good.vol V.l3 hs24 (Nat.le_refl _)
     have hrg24:h24.get? rb=some {cls:=.type "list", data:=.seq ([(⟨a3,b,tb,p,tp⟩:A0)].map λ y=>Value.ref y.a).toArray}:=(hs24.2 rb hbla).trans (H7.old hrg hrb3 hnb)
     have hpc23:=H7.piece hpc
     have hpc24:Ar h24 ⟨a3,b,tb,p,tp⟩:=⟨(hs24.2 _ (By hpc23.1 hla23 (by show (Value.type "tuple")≠.type "list"; simp))).trans hpc23.1,hpc23.2⟩
     have H8:=H7.step st24 inla
     have V24:Aa w.params h24 x d la ax ad mx cws sp (lines++[S (Bj ps)]) init ps:=by
      refine V23.onLines (λ b o hb e=>(hs24.2 b hb).trans e) ⟨ls21++[(S (Bj ps),t23)],n21+1,?_,by simpa [strValues] using hg24⟩ ?_
      ·simp[hls21]
      ·simp;exact Nat.le_trans (by assumption) (by decide)
     walk_at "s3"
     refine Ak ?_
     refine Bl ?_
     refine Ai H8 hm4 ?_
     refine Ea H8.k V24 ?_
     have H9:=H8.toks 1
     walk_at " pl5"
     refine am (.ref 196) H9.k V24.acc (by kernel_rfl) (by kernel_rfl) (by intros;kernel_rfl) ?_
     refine Co (spliced_more ?_)
     refine Ai H9 hr4 ?_
     refine spliced_none ⟨Cr H9.k (by kernel_rfl),wpAny_mono (s_resetA1 w (rs:=[⟨a3,b,tb,p,tp⟩]) H9.good (R.deeper _ |>.mono (by decide)) V24.acc hrg24 hrb3 (λ y hy=>by rw[List.mem_singleton.mp hy];exact hpc24) (by simp)) ?_ λ _ _ e=>e.elim⟩
     walk_at " r s25 z"
     obtain⟨rfl,st25,q25⟩:=z
     have H10:=H9.step st25 inA
     walk_at "s3"
     have hch:B4 (T ps)=Bj ps:=(Mr ps).symm
     rw[hch]
     exact⟨rfl,H10.st,[⟨a3,b,tb,p,tp⟩],rfl,Aa.onAcc (s:={s23 with heap:=h24,toks:=s23.toks+1}) V24 st25 q25⟩
  ·rintro z ⟨m',o,hm,hc,hd',Dz,hz⟩ h' tk hk htk
   walk_at "c z m' o hm hc hd' Dz hz h' tk"
   have Da:=Dz.gone hI h0I (λ _ h=>nomatch h) (λ b ob hb e=>hk b ob (by simpa using hb) e) htk
   have V9:=Da.vf V5 ndL nadL
   have hno:¬ (He sp=true∧T ps≠[]):=by
    rintro ⟨h1',h2'⟩
    have:2≤ps1.length:=by
     rw[hlen1]
     cases ps with
     | nil=>exact absurd rfl h2'
     | cons=>simp
    rw[hit_no λ k hk c e=>hz this k hk c e] at h1';cases h1'
   have hres:Fi mx sp lines init (T ps) (b,p)=if init > 0 then (Aw lines init (T ps),0,[(b,p)]) else (lines,init,T ps++[(b,p)]):=by
    unfold Fi;rw[if_neg hfit,if_neg hno]
   rw[hres]
   walk_at "s3"
   refine Assign_Tuple ?_
   refine Ak ?_
   refine Bl ?_
   refine Ai Da hm ?_
   refine Ea Da.k V9 ?_
   have H2:=Da.toks 1
   walk_at " pl3"
   have V9':=V9
   rw[← hps1] at V9'
   refine am (.ref 174) H2.k V9.acc (by kernel_rfl) (by kernel_rfl) (by intros;kernel_rfl) ?_
   refine Ha ⟨Cr H2.k (by kernel_rfl),wpAny_mono (s_popA w H2.good (R.deeper _ |>.mono (by decide)) V9'.acc) ?_ λ _ _ e=>e.elim⟩
   walk_at " r s20 z"
   obtain⟨rfl,st20,q20,hy20⟩:=z
   have H3:=H2.step st20 inA
   have V20:=Aa.onAcc (s:={heap:=h',gens:=z.gens,drawn:=z.drawn,toks:=tk+1,os:=z.os}) V9 st20 q20
   refine Ch H3 (R.deeper _).hd ⟨_,hy20.1,rfl,0,rfl⟩ rfl rfl ?_
   walk_at " s21 H4"
   refine assignInOrder_cons (assign_Name ?_)
   refine An H4 ?_ (by kernel_rfl) (by kernel_rfl)
   walk_at " s22 H5"
   refine assignInOrder_cons (assign_Name ?_)
   refine An H5 ?_ (by kernel_rfl) (by kernel_rfl)
   walk_at " s23 H6"
   refine assignInOrder_nil ?_
   have hm6:(λ y=>if y=Str.ofString "part" then some (Value.str p tp) else (λ y=>if y=Str.ofString "fws" then some (Value.str b tb) else m' y) y) "self" = some (.ref x):=hm
   have hf6:(λ y=>if y=Str.ofString "part" then some (Value.str p tp) else (λ y=>if y=Str.ofString "fws" then some (Value.str b tb) else m' y) y) "fws" = some (.str b tb):=(if_neg (by decide)).trans (if_pos rfl)
   have hp6:(λ y=>if y=Str.ofString "part" then some (Value.str p tp) else (λ y=>if y=Str.ofString "fws" then some (Value.str b tb) else m' y) y) "part" = some (.str p tp):=if_pos rfl
   generalize hm6e:(λ y=>if y=Str.ofString "part" then some (Value.str p tp) else (λ y=>if y=Str.ofString "fws" then some (Value.str b tb) else m' y) y)=m6 at *
   have V6:=H6.vf V20 ndL nadL
   obtain⟨n6,hx6⟩:=V6.acc.ox
   walk_at "c n6"
   obtain⟨t6',ti6,hd6,hti6⟩:=V6.acc.od
   walk_at "c t6' ti6"
   walk_at "s3"
   refine wpAny_mono (Q:=λ fl z9=>fl=Flow.next∧Cl w [ax,ad,la] s L z9.heap m6 [] z9∧∃ ps9,T ps9=(if init > 0 then [] else T ps)∧ps9.length≤199∧Aa w.params z9.heap x d la ax ad mx cws sp (if init > 0 then Aw lines init (T ps) else lines) (if init > 0 then 0 else init) ps9) ?_ ?_ (λ _ _ e=>e)
   ·refine wpAny_If ?_
    walk_at "s3"
    refine Bl ?_
    refine Bl ?_
    refine Ai H6 hm6 ?_
    refine Ea H6.k V6 ?_
    have H7:=H6.toks 1
    refine a_get H7.k hx6 hd6 rfl ?_
    have H8:=H7.toks 1
    walk_at "s3"
    rename_i s24 t24 H9 _
    have V9b:=H9.vf V20 ndL nadL
    by_cases hi0:init > 0
    ·refine Bk (by simpa using hi0) ?_
     walk_at "s3"
     refine Ak ?_
     refine Ai H9 hm6 ?_
     walk_at " pl6"
     refine vm (.ref 92) H9.k V9b (by kernel_rfl) (by kernel_rfl) (by intros;kernel_rfl) ?_
     refine Ha ⟨Cr H9.k (by kernel_rfl),wpAny_mono (Ov w H9.good (R.deeper _ |>.mono (by decide)) V9b (by exact Nat.le_trans (by assumption) (by decide)) (by exact Nat.le_trans (by assumption) (by decide)) h0 (by lia) hll) ?_ λ _ _ e=>e.elim⟩
     walk_at " r s25 z"
     obtain⟨rfl,st25,V25⟩:=z
     have H10:=H9.step st25 (by
      walk_at " q hq"
      rcases List.mem_cons.mp hq with rfl|hq
      ·exact⟨.inl (by simp),naxL,V.acc.x3⟩
      rcases List.mem_cons.mp hq with rfl|hq
      ·exact⟨.inl (by simp),nadL,V.acc.d3⟩
      rw[List.mem_singleton.mp hq]
      exact⟨.inl (by simp),nlaL,V.l3⟩)
     walk_at "s3"
     refine wpAny_If ?_
     walk_at "s3"
     refine Ai H10 hf6 ?_
     refine P.truthy_str (by lia) ?_
     have H11:=H10.toks 2
     have hb0:0<b.length:=(Qt (hg (b,p) (by simp)).1).1
     refine Be (by simp;exact Nat.ne_of_gt (by assumption)) ?_
     walk_at "s3"
     refine⟨rfl,H11.rebase,[],?_,by simp,?_⟩
     ·rw[if_pos hi0];rfl
     ·rw[if_pos hi0,if_pos hi0];exact V25
    ·refine Be (by simpa using hi0) ?_
     walk_at "s3"
     refine⟨rfl,H9.rebase,ps,?_,by exact Nat.le_trans (by assumption) (by decide),?_⟩
     ·rw[if_neg hi0]
     ·rw[if_neg hi0,if_neg hi0];exact V9b
   ·rintro fl z9 ⟨rfl,H10,ps9,hps9,hlen9,V10⟩
    walk_at "c z9 H10 ps9"
    walk_at "s3"
    refine Ak ?_
    refine Bl ?_
    refine Ai H10 hm6 ?_
    refine Ea H10.k V10 ?_
    have H11:=H10.toks 1
    walk_at " pl6"
    refine am (.ref 158) H11.k V10.acc (by kernel_rfl) (by kernel_rfl) (by intros;kernel_rfl) ?_
    refine Co (spliced_more ?_)
    refine Ai H11 hf6 ?_
    refine spliced_more ?_
    refine Ai H11 hp6 ?_
    refine spliced_none ⟨Cr H11.k (by kernel_rfl),wpAny_mono (Lj w H11.good (R.deeper _ |>.mono (by decide)) V10.acc hb hp (by omega)) ?_ λ _ _ e=>e.elim⟩
    walk_at " r s26 z"
    obtain⟨rfl,st26,a26,q26⟩:=z
    walk_at "c a26"
    have H12:=H11.step st26 inA
    walk_at "s3"
    refine⟨rfl,H12.st,ps9++[⟨a26,b,tb,p,tp⟩],?_,?_⟩
    ·have:T (ps9++[⟨a26,b,tb,p,tp⟩])=T ps9++[(b,p)]:=by simp[T]
     rw[this,hps9]
     by_cases hi0:init > 0
     ·rw[if_pos hi0,if_pos hi0];rfl
     ·rw[if_neg hi0,if_neg hi0]
    ·have V12:=Aa.onAcc (s:={z9 with toks:=z9.toks+1}) V10 st26 q26
     by_cases hi0:init > 0
     ·rw[if_pos hi0] at V12 ⊢;rw[if_pos hi0] at V12;exact V12
     ·rw[if_neg hi0] at V12 ⊢;rw[if_neg hi0] at V12;exact V12
section
variable {w:World} {A:Around} {s:Shared}
theorem s_is_same:∀ (w:World) {A:Around} {s:Shared} {a:Addr} (G:A5 w s) (R:A3 A 5),
  wpAny (MD w) A (call (.ref 225) [.ref a,.ref a]) (λ r s'=>r=.bool true∧A4 [] s s') no s:=by
 walk_at " w A s a G R"
 refine Bw (binds:=[("a", .ref a),("b", .ref a)]) [] (def_is w) G R (by kernel_rfl) (by kernel_rfl) ?_
 walk_at " L s₁ D"
 refine wpAny_execs_cons ?_
 walk_at "s3"
 refine wpAny_is_ref_self ?_
 exact⟨rfl,D.st⟩
theorem Ou:∀ (w:World) {A:Around} {s:Shared} {l:Addr} {vs:List Value} {n:Nat} {i:Int} {t:Tok} {v:Value} (G:A5 w s) (R:A3 A 5) (hl:s.heap.get? l=some (A6 vs n)) (hl3:@LE.le Nat _ 317 l) (h0:0≤i) (hk:vs[i.toNat]?=some v) (hsz:vs.length≤1000),
  wpAny (MD w) A (call (.ref 253) [.ref l,.int i t]) (λ r s'=>r=v∧A4 [] s s') no s:=by
 walk_at " w A s l vs n i t v G R hl hl3 h0 hk hsz"
 refine Bw (binds:=[("a", .ref l),("b", .int i t)]) [] (Rb w) G R (by kernel_rfl) (by kernel_rfl) ?_
 walk_at " L s₁ D"
 have hnl:l≠L:=D.ne0 hl
 have hlt:i.toNat<vs.length:=(List.getElem?_eq_some_iff.mp hk).1
 refine wpAny_execs_cons ?_
 walk_at "s3"
 refine Aj ?_
 walk_at "s3"
 have hl1:=D.old hl hl3 hnl
 refine Fa (T := "list") (id := "list.__getitem__") ⟨_,hl1,rfl⟩ F.slot_list_getitem.lookup ⟨rfl,?_⟩
 refine wpAny_getItem_list (Al hl1) h0 (by grind) (by simpa using hk) ?_
 exact⟨rfl,D.st⟩
theorem s_delitem:∀ (w:World) {A:Around} {s:Shared} {l:Addr} {vs:List Value} {n:Nat} {i:Int} {t:Tok} (G:A5 w s) (R:A3 A 5) (hl:s.heap.get? l=some (A6 vs n)) (hl3:@LE.le Nat _ 317 l) (h0:0≤i) (hlt:i.toNat<vs.length) (hsz:vs.length≤1000),
  wpAny (MD w) A (call (.ref 246) [.ref l,.int i t]) (λ r s'=>r=.none∧A4 [l] s s'∧∃ n',s'.heap.get? l=some (A6 (vs.eraseIdx i.toNat) n')) no s:=by
 walk_at " w A s l vs n i t G R hl hl3 h0 hlt hsz"
 refine Bw (binds:=[("a", .ref l),("b", .int i t)]) [l] (Ra w) G R (by kernel_rfl) (by kernel_rfl) ?_
 walk_at " L s₁ D"
 have hnl:l≠L:=D.ne0 hl
 refine wpAny_execs_cons ?_
 walk_at "s3"
 refine wpAny_Delete ?_
 refine wpAny_deleteEach_cons (wpAny_delete_Subscript ?_)
 walk_at "s3"
 have hl1:=D.old hl hl3 hnl
 refine wpAny_delItem_plain ⟨n,hl1⟩ (by unfold Builtin.List.listFitsIndex;simp;lia) (k:=i.toNat) (seqIndex_of h0 (by simp;simp_all)) ?_ (by rw[List.size_toArray];exact Nat.le_trans hsz (by decide +kernel))
 walk_at " h2 hp2 hs2"
 have st2:A4 [l] s₁ {s₁ with heap:=h2}:=A4.sameBut (t:=s₁.toks) D.good.vol hl3 hs2 (Nat.le_refl _)
 have D2:=D.step st2 (λ q hq=>by rw[List.mem_singleton.mp hq];exact⟨.inl (.head _),hnl,hl3⟩)
 refine wpAny_deleteEach_nil ?_
 walk_at "s3"
 obtain⟨n',e⟩:=hp2
 walk_at "c n'"
 exact⟨rfl,D2.st,n',by rw[e];simp[A6,List.eraseIdxIfInBounds_toArray]⟩
end
section
variable {w:World} {S:List Addr} {s₀:Shared} {L:Addr} {ref:Heap} {m m':SV} {s s':Shared} {A:Around} {E:VP}
theorem n_while {env:Env} {test:PySem.Expr} {body orelse:List Stmt} {pos:Pos} {Q:FP} (Inv:Nat→(SV)→Prop) (D:Cl w S s₀ L ref m [] s) (n:Nat) (h0:Inv n m)
  (turn:∀ n m' z,Inv n m'→Cl w S s₀ L ref m' [] z→wpAny (MD w) A (isTrue test env (eval test env)) (λ b s₂ =>
   if b then wpAny (MD w) A (execs body env) (λ f s₃=>f=.next∧∃ k m'',k<n∧Inv k m''∧Cl w S s₀ L ref m'' [] s₃) (λ _ _=>False) s₂ else wpAny (MD w) A (execs orelse env) Q (λ _ _=>False) s₂) (λ _ _=>False) z) :
  wpAny (MD w) A (exec (.While test body orelse pos) env) Q E s:=by
 refine wpAny_While (codeAny_whileLoop (λ k z=>∃ m',Inv k m'∧Cl w S s₀ L ref m' [] z) ?_ n ⟨m,h0,D⟩)
 rintro k z ⟨m',hI,Dz⟩
 refine wpAny_mono (turn k m' z hI Dz) (λ b s₂ h₂=>?_) λ _ _ e=>e.elim
 cases b with
 | true =>
  refine wpAny_mono h₂ (λ f s₃ h₃=>?_) λ _ _ e=>e.elim
  obtain⟨rfl,k',m'',hk,hI',D'⟩:=h₃
  exact⟨k',hk,m'',hI',D'⟩
 | false=>exact wpAny_mono h₂ (λ f s₃ h₃=>h₃) λ _ _ e=>e.elim
end
noncomputable def Eu (w:World) (f:Addr) (h:Heap) (v:Value) (k:Int):Prop :=
 ∀ (A:Around) (s:Shared),A3 A 8→A5 w s→(∀ b o,@LE.le Nat _ 317 b→h.get? b=some o→s.heap.get? b=some o)→wpAny (MD w) A (call (.ref f) [v]) (λ r s'=>(∃ t,t≠0∧r=.int k t)∧A4 [] s s') no s
noncomputable abbrev M8 (l:Addr) (x:Int) (t t0:Tok) (f:Addr):List (Str×Value):=[("a", .ref l),("x", .int x t),("lo", .int 0 t0),("hi", .none),("key", .ref f)]
structure BisL (m:SV) (l:Addr) (x:Int) (t:Tok) (f:Addr) (lo hi:Nat):Prop where
 a:m "a" = some (.ref l)
 x:m "x" = some (.int x t)
 k:m "key" = some (.ref f)
 lo:∃ t,t≠0∧m "lo" = some (.int (lo:Int) t)
 hi:∃ t,m "hi" = some (.int (hi:Int) t)
theorem J1:∀ (w:World) {A:Around} {s s₁:Shared} {l f L:Addr} {vs:List Value} {n:Nat} {x:Int} {t t0:Tok} {ks:Nat→Int} {p:Nat} (R:A3 (A.deeper (fenv Fu 39 L)) 9) (hl:s.heap.get? l=some (A6 vs n)) (hl3:@LE.le Nat _ 317 l) (hsz:vs.length≤1000) (ht0:t0≠0) (hf:keepIn (K w.params) (.ref f)=true) (hkey:∀ i v,vs[i]?=some v→Eu w f s.heap v (ks i)) (hp:p≤vs.length) (h1:∀ i<p,ks i≤x) (h2:∀ i,p≤i→i<vs.length→x<ks i) (D:Cl w [] s L s.heap (λ y=>(M8 l x t t0 f).reverse.lookup y) [] s₁),
  wpAny (MD w) (A.deeper (fenv Fu 39 L)) (execs It (fenv Fu 39 L)) (λ fl s'=>(∃ t',t'≠0∧Ej fl=.int (p:Int) t')∧A4 [] s s') (λ _ _=>False) s₁:=by
 walk_at " w A s s₁ l f L vs n x t t0 ks p R hl hl3 hsz ht0 hf hkey hp h1 h2 D"
 have hnl:l≠L:=D.ne0 hl
 unfold M8 at D
 refine wpAny_execs_cons ?_
 walk_at "s3"
 refine wpAny_If ?_
 walk_at "s3"
 refine Be (by simp) ?_
 walk_at "s3"
 refine wpAny_If ?_
 walk_at "s3"
 refine Bk (by rfl) ?_
 walk_at "s3"
 refine Am ?_
 walk_at "b len"
 refine Co (spliced_more ?_)
 walk_at "s3"
 rename_i s2 t2 D2 _
 have hl2:=D2.old hl hl3 hnl
 refine⟨Bh,call_len_list (Al hl2) (by simp;lia) ?_⟩
 have D3:=D2.toks 2
 refine An D3 ?_ (by kernel_rfl) (by kernel_rfl)
 walk_at " s4 D4"
 walk_at "s3"
 refine wpAny_If ?_
 walk_at "s3"
 refine Be (by simp) ?_
 walk_at "s3"
 refine n_while (λ k m'=>∃ lo hi:Nat,BisL m' l x t f lo hi∧lo≤p∧p≤hi∧hi≤vs.length∧k=hi-lo) D4 vs.length ⟨0,vs.length,⟨rfl,rfl,rfl,⟨t0,ht0,rfl⟩,⟨_,rfl⟩⟩,by simp,hp,by simp,by rfl⟩ ?_
 rintro k m' z ⟨lo,hi,B,hlo,hhi,hn,rfl⟩ F1
 walk_at "c m' z lo hi"
 obtain⟨tl,htl,elo⟩:=B.lo
 walk_at "c tl"
 obtain⟨th,ehi⟩:=B.hi
 walk_at "c th"
 walk_at "s3"
 refine Ai F1 elo ?_
 refine Ai F1 ehi ?_
 walk_at "s3"
 by_cases hlt:lo<hi
 ·refine Bk (by simpa using hlt) ?_
  walk_at "s3"
  refine Ai F1 elo ?_
  refine Ai F1 ehi ?_
  walk_at "s3"
  rename_i s5 t5 F5 _ s6 t6 F6 _
  refine Cg F6 (by decide) (PyProof.noPylong_small (by simp)) ?_
  walk_at " s7 t7 F7 ht7"
  have hmid:((lo:Int)+(hi:Int)).fdiv 2=(((lo+hi) / 2:Nat):Int):=by
   rw[Int.fdiv_eq_ediv_of_nonneg _ (by decide)];rfl
  rw[hmid]
  generalize hmd:(lo+hi) / 2=mid at *
  have hm1:lo≤mid∧mid<hi:=by lia
  refine An F7 ?_ (by kernel_rfl) (by kernel_rfl)
  walk_at " s8 F8"
  have ea:(λ y=>if y=Str.ofString "mid" then some (Value.int (mid:Int) t7) else m' y) "a" = some (.ref l):=B.a
  have ex:(λ y=>if y=Str.ofString "mid" then some (Value.int (mid:Int) t7) else m' y) "x" = some (.int x t):=B.x
  have ek:(λ y=>if y=Str.ofString "mid" then some (Value.int (mid:Int) t7) else m' y) "key" = some (.ref f):=B.k
  have el:(λ y=>if y=Str.ofString "mid" then some (Value.int (mid:Int) t7) else m' y) "lo" = some (.int (lo:Int) tl):=elo
  have eh:(λ y=>if y=Str.ofString "mid" then some (Value.int (mid:Int) t7) else m' y) "hi" = some (.int (hi:Int) th):=ehi
  have em:(λ y=>if y=Str.ofString "mid" then some (Value.int (mid:Int) t7) else m' y) "mid" = some (.int (mid:Int) t7):=if_pos rfl
  generalize (λ y=>if y=Str.ofString "mid" then some (Value.int (mid:Int) t7) else m' y)=m8 at *
  have hml:mid<vs.length:=by lia
  walk_at "s3"
  refine wpAny_If ?_
  walk_at "s3"
  refine Ai F8 ex ?_
  refine Am ?_
  refine Ai F8 ek ?_
  refine Co (spliced_more ?_)
  refine Aj ?_
  refine Ai F8 ea ?_
  refine Ai F8 em ?_
  have hl8:=F8.old hl hl3 hnl
  refine Fa (T := "list") (id := "list.__getitem__") ⟨_,hl8,rfl⟩ F.slot_list_getitem.lookup ⟨rfl,?_⟩
  refine wpAny_getItem_list (Al hl8) (by simp) (by lia) (x:=vs[mid]) (by simp[hml]) ?_
  refine spliced_none ⟨Cr F8.k hf,wpAny_mono (hkey mid vs[mid] (by simp[hml]) _ _ (R.mono (by decide)) F8.good (λ b o hb e=>F8.old e hb (F8.ne0 e))) ?_ λ _ _ e=>e.elim⟩
  walk_at " r s9 z"
  obtain⟨⟨t9,ht9,rfl⟩,st9⟩:=z
  walk_at "c t9"
  have F9:=F8.step0 st9
  walk_at "s3"
  by_cases hx:x<ks mid
  ·refine Bk (by simpa using hx) ?_
   walk_at "s3"
   refine Ai F9 em ?_
   refine An F9 ?_ (by kernel_rfl) (by kernel_rfl)
   walk_at " s10 F10"
   walk_at "s3"
   refine⟨rfl,mid-lo,_,by lia,?_,F10⟩
   refine⟨lo,mid,⟨ea,ex,ek,⟨tl,htl,el⟩,⟨t7,if_pos rfl⟩⟩,hlo,?_,by exact Nat.le_of_lt (by assumption),rfl⟩
   refine Nat.le_of_not_lt ?_
   walk_at " hc"
   have:=h1 mid hc
   lia
  ·refine Be (by simpa using hx) ?_
   walk_at "s3"
   refine Ai F9 em ?_
   walk_at "s3"
   rename_i s11 t11 F11 _ s12 t12 F12 ht12 s10 F10
   refine⟨rfl,hi-(mid+1),_,by lia,?_,F10⟩
   refine⟨mid+1,hi,⟨ea,ex,ek,⟨t12,ht12,if_pos rfl⟩,⟨th,eh⟩⟩,?_,hhi,hn,rfl⟩
   refine Nat.lt_of_not_le ?_
   walk_at " hc"
   have:=h2 mid hc hml
   contradiction
 ·refine Be (by simpa using hlt) ?_
  walk_at "s3"
  refine Ai F1 elo ?_
  have hpl:p=lo:=by lia
  subst hpl
  exact⟨⟨tl,htl,rfl⟩,F1.st⟩
theorem P8:∀ (w:World) {A:Around} {s s₁:Shared} {l f L:Addr} {vs:List Value} {n:Nat} {x:Int} {t t0:Tok} {ks:Nat→Int} {p:Nat} (R:A3 (A.deeper (fenv Ga 57 L)) 9) (hl:s.heap.get? l=some (A6 vs n)) (hl3:@LE.le Nat _ 317 l) (hsz:vs.length≤1000) (ht0:t0≠0) (hf:keepIn (K w.params) (.ref f)=true) (hkey:∀ i v,vs[i]?=some v→Eu w f s.heap v (ks i)) (hp:p≤vs.length) (h1:∀ i<p,ks i<x) (h2:∀ i,p≤i→i<vs.length→x≤ks i) (D:Cl w [] s L s.heap (λ y=>(M8 l x t t0 f).reverse.lookup y) [] s₁),
  wpAny (MD w) (A.deeper (fenv Ga 57 L)) (execs J2 (fenv Ga 57 L)) (λ fl s'=>(∃ t',t'≠0∧Ej fl=.int (p:Int) t')∧A4 [] s s') (λ _ _=>False) s₁:=by
 walk_at " w A s s₁ l f L vs n x t t0 ks p R hl hl3 hsz ht0 hf hkey hp h1 h2 D"
 have hnl:l≠L:=D.ne0 hl
 unfold M8 at D
 refine wpAny_execs_cons ?_
 walk_at "s3"
 refine wpAny_If ?_
 walk_at "s3"
 refine Be (by simp) ?_
 walk_at "s3"
 refine wpAny_If ?_
 walk_at "s3"
 refine Bk (by rfl) ?_
 walk_at "s3"
 refine Am ?_
 walk_at "b len"
 refine Co (spliced_more ?_)
 walk_at "s3"
 rename_i s2 t2 D2 _
 have hl2:=D2.old hl hl3 hnl
 refine⟨Bh,call_len_list (Al hl2) (by simp;lia) ?_⟩
 have D3:=D2.toks 2
 refine An D3 ?_ (by kernel_rfl) (by kernel_rfl)
 walk_at " s4 D4"
 walk_at "s3"
 refine wpAny_If ?_
 walk_at "s3"
 refine Be (by simp) ?_
 walk_at "s3"
 refine n_while (λ k m'=>∃ lo hi:Nat,BisL m' l x t f lo hi∧lo≤p∧p≤hi∧hi≤vs.length∧k=hi-lo) D4 vs.length ⟨0,vs.length,⟨rfl,rfl,rfl,⟨t0,ht0,rfl⟩,⟨_,rfl⟩⟩,by simp,hp,by simp,by rfl⟩ ?_
 rintro k m' z ⟨lo,hi,B,hlo,hhi,hn,rfl⟩ F1
 walk_at "c m' z lo hi"
 obtain⟨tl,htl,elo⟩:=B.lo
 walk_at "c tl"
 obtain⟨th,ehi⟩:=B.hi
 walk_at "c th"
 walk_at "s3"
 refine Ai F1 elo ?_
 refine Ai F1 ehi ?_
 walk_at "s3"
 by_cases hlt:lo<hi
 ·refine Bk (by simpa using hlt) ?_
  walk_at "s3"
  refine Ai F1 elo ?_
  refine Ai F1 ehi ?_
  walk_at "s3"
  rename_i s5 t5 F5 _ s6 t6 F6 _
  refine Cg F6 (by decide) (PyProof.noPylong_small (by simp)) ?_
  walk_at " s7 t7 F7 ht7"
  have hmid:((lo:Int)+(hi:Int)).fdiv 2=(((lo+hi) / 2:Nat):Int):=by
   rw[Int.fdiv_eq_ediv_of_nonneg _ (by decide)];rfl
  rw[hmid]
  generalize hmd:(lo+hi) / 2=mid at *
  have hm1:lo≤mid∧mid<hi:=by lia
  refine An F7 ?_ (by kernel_rfl) (by kernel_rfl)
  walk_at " s8 F8"
  have ea:(λ y=>if y=Str.ofString "mid" then some (Value.int (mid:Int) t7) else m' y) "a" = some (.ref l):=B.a
  have ex:(λ y=>if y=Str.ofString "mid" then some (Value.int (mid:Int) t7) else m' y) "x" = some (.int x t):=B.x
  have ek:(λ y=>if y=Str.ofString "mid" then some (Value.int (mid:Int) t7) else m' y) "key" = some (.ref f):=B.k
  have el:(λ y=>if y=Str.ofString "mid" then some (Value.int (mid:Int) t7) else m' y) "lo" = some (.int (lo:Int) tl):=elo
  have eh:(λ y=>if y=Str.ofString "mid" then some (Value.int (mid:Int) t7) else m' y) "hi" = some (.int (hi:Int) th):=ehi
  have em:(λ y=>if y=Str.ofString "mid" then some (Value.int (mid:Int) t7) else m' y) "mid" = some (.int (mid:Int) t7):=if_pos rfl
  generalize (λ y=>if y=Str.ofString "mid" then some (Value.int (mid:Int) t7) else m' y)=m8 at *
  have hml:mid<vs.length:=by lia
  walk_at "s3"
  refine wpAny_If ?_
  walk_at "s3"
  refine Am ?_
  refine Ai F8 ek ?_
  refine Co (spliced_more ?_)
  refine Aj ?_
  refine Ai F8 ea ?_
  refine Ai F8 em ?_
  have hl8:=F8.old hl hl3 hnl
  refine Fa (T := "list") (id := "list.__getitem__") ⟨_,hl8,rfl⟩ F.slot_list_getitem.lookup ⟨rfl,?_⟩
  refine wpAny_getItem_list (Al hl8) (by simp) (by lia) (x:=vs[mid]) (by simp[hml]) ?_
  refine spliced_none ⟨Cr F8.k hf,wpAny_mono (hkey mid vs[mid] (by simp[hml]) _ _ (R.mono (by decide)) F8.good (λ b o hb e=>F8.old e hb (F8.ne0 e))) ?_ λ _ _ e=>e.elim⟩
  walk_at " r s9 z"
  obtain⟨⟨t9,ht9,rfl⟩,st9⟩:=z
  walk_at "c t9"
  have F9:=F8.step0 st9
  walk_at "s3"
  refine Ai F9 ex ?_
  walk_at "s3"
  by_cases hx:ks mid<x
  ·refine Bk (by simpa using hx) ?_
   walk_at "s3"
   refine Ai F9 em ?_
   walk_at "s3"
   rename_i s11 t11 F11 _ s12 t12 F12 ht12 s10 F10
   refine⟨rfl,hi-(mid+1),_,by lia,?_,F10⟩
   refine⟨mid+1,hi,⟨ea,ex,ek,⟨t12,ht12,if_pos rfl⟩,⟨th,eh⟩⟩,?_,hhi,hn,rfl⟩
   refine Nat.lt_of_not_le ?_
   walk_at " hc"
   have:=h2 mid hc hml
   lia
  ·refine Be (by simpa using hx) ?_
   walk_at "s3"
   refine Ai F9 em ?_
   refine An F9 ?_ (by kernel_rfl) (by kernel_rfl)
   walk_at " s10 F10"
   walk_at "s3"
   refine⟨rfl,mid-lo,_,by lia,?_,F10⟩
   refine⟨lo,mid,⟨ea,ex,ek,⟨tl,htl,el⟩,⟨t7,if_pos rfl⟩⟩,hlo,?_,by exact Nat.le_of_lt (by assumption),rfl⟩
   refine Nat.le_of_not_lt ?_
   walk_at " hc"
   have:=h1 mid hc
   contradiction
 ·refine Be (by simpa using hlt) ?_
  walk_at "s3"
  refine Ai F1 elo ?_
  have hpl:p=lo:=by lia
  subst hpl
  exact⟨⟨tl,htl,rfl⟩,F1.st⟩
theorem Of (w:World) {A:Around} {s:Shared} {l f:Addr} {vs:List Value} {n:Nat} {x:Int} {t t0:Tok} {ks:Nat→Int} {p:Nat} (G:A5 w s) (R:A3 A 10) (hl:s.heap.get? l=some (A6 vs n)) (hl3:@LE.le Nat _ 317 l) (hsz:vs.length≤1000) (ht0:t0≠0)
  (hf:keepIn (K w.params) (.ref f)=true) (hkey:∀ i v,vs[i]?=some v→Eu w f s.heap v (ks i)) (hp:p≤vs.length) (h1:∀ i<p,ks i≤x) (h2:∀ i,p≤i→i<vs.length→x<ks i) :
  wpAny (MD w) A (call (.ref 39) [.ref l,.int x t,.int 0 t0,.none] [("key", .ref f)]) (λ r s'=>(∃ t',t'≠0∧r=.int (p:Int) t')∧A4 [] s s') no s:=by
 refine Bw (binds:=M8 l x t t0 f) [] (Ii w) G R (by kernel_rfl) (by kernel_rfl) ?_
 intro L s₁ D
 exact J1 w (R.deeper _) hl hl3 hsz ht0 hf hkey hp h1 h2 D
theorem Nj (w:World) {A:Around} {s:Shared} {l f:Addr} {vs:List Value} {n:Nat} {x:Int} {t:Tok} {ks:Nat→Int} {p:Nat} (G:A5 w s) (R:A3 A 10) (hl:s.heap.get? l=some (A6 vs n)) (hl3:@LE.le Nat _ 317 l) (hsz:vs.length≤1000)
  (hf:keepIn (K w.params) (.ref f)=true) (hkey:∀ i v,vs[i]?=some v→Eu w f s.heap v (ks i)) (hp:p≤vs.length) (h1:∀ i<p,ks i≤x) (h2:∀ i,p≤i→i<vs.length→x<ks i) :
  wpAny (MD w) A (call (.ref 39) [.ref l,.int x t] [("key", .ref f)]) (λ r s'=>(∃ t',t'≠0∧r=.int (p:Int) t')∧A4 [] s s') no s:=by
 refine Bw (binds:=M8 l x t 209 f) [] (Ii w) G R (by kernel_rfl) (by kernel_rfl) ?_
 intro L s₁ D
 exact J1 w (R.deeper _) hl hl3 hsz (by decide) hf hkey hp h1 h2 D
theorem Pe (w:World) {A:Around} {s:Shared} {l f:Addr} {vs:List Value} {n:Nat} {x:Int} {t t0:Tok} {ks:Nat→Int} {p:Nat} (G:A5 w s) (R:A3 A 10) (hl:s.heap.get? l=some (A6 vs n)) (hl3:@LE.le Nat _ 317 l) (hsz:vs.length≤1000) (ht0:t0≠0)
  (hf:keepIn (K w.params) (.ref f)=true) (hkey:∀ i v,vs[i]?=some v→Eu w f s.heap v (ks i)) (hp:p≤vs.length) (h1:∀ i<p,ks i<x) (h2:∀ i,p≤i→i<vs.length→x≤ks i) :
  wpAny (MD w) A (call (.ref 57) [.ref l,.int x t,.int 0 t0,.none] [("key", .ref f)]) (λ r s'=>(∃ t',t'≠0∧r=.int (p:Int) t')∧A4 [] s s') no s:=by
 refine Bw (binds:=M8 l x t t0 f) [] (N1 w) G R (by kernel_rfl) (by kernel_rfl) ?_
 intro L s₁ D
 exact P8 w (R.deeper _) hl hl3 hsz ht0 hf hkey hp h1 h2 D
section
variable {w:World} {A:Around} {s:Shared} {E:VP}
theorem Qa {l:Addr} {vs:List Value} {n:Nat} {i:Int} {t:Tok} {v:Value} {Q:VP} (hl:s.heap.get? l=some (A6 vs n)) (hsz:vs.length≤1000) (h0:0≤i) (hp:i.toNat≤vs.length)
  (h:∀ h' n',Heap.SameBut l s.heap h'→h'.get? l=some (A6 (vs.take i.toNat++v::vs.drop i.toNat) n')→Q .none {s with heap:=h'}):wpAny (MD w) A (call (.builtin "list.insert") [.ref l,.int i t,v]) Q E s:=by
 refine call_meets F.slot_list_insert ⟨_,hl,rfl⟩ F.entry_list_insert (F.args_list_insert_3 _ _ _) (AutoSeq1.list_insert_list_int_val_1 l vs.toArray n i t v (by unfold Builtin.List.listFitsIndex;simp;lia) (by rw[List.size_toArray];exact Nat.le_trans hsz (by decide +kernel))) ⟨hl,?_⟩
 obtain⟨n',em⟩:=Jx (λ xs:Array Value=>have k:=if i<0 then (i+(xs.size:Int)).toNat else min i.toNat xs.size;(xs.extract 0 k).push v++xs.extract k) vs n
 have ee:((λ xs:Array Value=>have k:=if i<0 then (i+(xs.size:Int)).toNat else min i.toNat xs.size;(xs.extract 0 k).push v++xs.extract k) vs.toArray).toList=vs.take i.toNat++v::vs.drop i.toNat:=by
  have hk:(if i<0 then (i+(vs.toArray.size:Int)).toNat else min i.toNat vs.toArray.size)=i.toNat:=by
   rw[if_neg (by lia)];simp;lia
  simp only[hk]
  simp
  exact List.take_of_length_le (by simp)
 rw[ee] at em
 refine h _ n' (Heap.SameBut.update ..) ?_
 rw[Heap.get?_update_self _ hl (by rw[em];rfl),em]
theorem Op {l:Addr} {vs:List Value} {n:Nat} {pl:Sem Bool} {Q:Value×List Value→Shared→Prop} (hl:s.heap.get? l=some (A6 vs n)) (h:Q (.builtin "list.insert", [.ref l]) s):wpAny (MD w) A (getMethod (.ref l) "insert" pl) Q E s :=
 getMethod_builtin ⟨_,hl,rfl⟩ F.plainAttrs_list F.slot_list_insert F.type_list_insert (λ a e=>⟨_,by cases e;exact hl,rfl⟩) h
end
theorem Pf:∀ (w:World) {A:Around} {s:Shared} {l f:Addr} {vs:List Value} {n:Nat} {v:Value} {k:Int} {ks:Nat→Int} {p:Nat} (G:A5 w s) (R:A3 A 11) (hl:s.heap.get? l=some (A6 vs n)) (hl3:@LE.le Nat _ 317 l) (hsz:vs.length≤900) (hf:keepIn (K w.params) (.ref f)=true) (hv:Eu w f s.heap v k) (hkey:∀ i v,vs[i]?=some v→Eu w f s.heap v (ks i)) (hp:p≤vs.length) (h1:∀ i<p,ks i<k) (h2:∀ i,p≤i→i<vs.length→k≤ks i),
  wpAny (MD w) A (call (.ref 48) [.ref l,v] [("key", .ref f)]) (λ r s'=>r=.none∧A4 [l] s s'∧∃ n',s'.heap.get? l=some (A6 (vs.take p++v::vs.drop p) n')) no s:=by
 walk_at " w A s l f vs n v k ks p G R hl hl3 hsz hf hv hkey hp h1 h2"
 refine Bw (binds:=[("a", .ref l),("x", v),("lo", .int 0 223),("hi", .none),("key", .ref f)]) [l] (N6 w) G R (by kernel_rfl) (by kernel_rfl) ?_
 walk_at " L s₁ D"
 have hnl:l≠L:=D.ne0 hl
 refine wpAny_execs_cons ?_
 walk_at "s3"
 refine wpAny_If ?_
 walk_at "s3"
 refine Be (by simp) ?_
 walk_at "s3"
 refine Am ?_
 walk_at "g 57"
 refine cwk (spliced_more ?_)
 walk_at "s3"
 refine Am ?_
 walk_at "s3"
 refine Co (spliced_more ?_)
 walk_at "s3"
 refine⟨Cr D.k hf,wpAny_mono (hv _ _ (R.deeper _ |>.mono (by decide)) D.good (λ b o hb e=>D.old e hb (D.ne0 e))) ?_ λ _ _ e=>e.elim⟩
 walk_at " r s2 z"
 obtain⟨⟨t2,ht2,rfl⟩,st2⟩:=z
 walk_at "c t2"
 have D2:=D.step0 st2
 walk_at "s3"
 have hl2:=D2.old hl hl3 hnl
 refine⟨Cr D2.k (by kernel_rfl),wpAny_mono (Pe w (ks:=ks) (p:=p) D2.good (R.deeper _ |>.mono (by decide)) hl2 hl3 (by exact Nat.le_trans (by assumption) (by decide)) (by decide) hf (λ i v hi A' s' R' G' hk=>hkey i v hi A' s' R' G' λ b o hb e=>hk b o hb (D2.old e hb (D2.ne0 e))) hp h1 h2) ?_ λ _ _ e=>e.elim⟩
 walk_at " r s3 z"
 obtain⟨⟨t3,ht3,rfl⟩,st3⟩:=z
 walk_at "c t3"
 have D3:=D2.step0 st3
 refine An D3 ?_ (by kernel_rfl) (by kernel_rfl)
 walk_at " s4 D4"
 walk_at "s3"
 refine Ak ?_
 walk_at "s3"
 have hl4:=D4.old hl hl3 hnl
 walk_at " pl"
 refine Op hl4 ?_
 refine Co (spliced_more ?_)
 walk_at "s3"
 refine⟨Bh,Qa hl4 (by exact Nat.le_trans (by assumption) (by decide)) (by simp +arith) (by assumption) ?_⟩
 walk_at " h5 n5 hs5 hg5"
 have st5:A4 [l] s4 {s4 with heap:=h5}:=A4.sameBut (t:=s4.toks) D4.good.vol hl3 hs5 (Nat.le_refl _)
 have D5:=D4.step st5 (λ q hq=>by rw[List.mem_singleton.mp hq];exact⟨.inl (.head _),hnl,hl3⟩)
 walk_at "s3"
 exact⟨rfl,D5.st,n5,hg5⟩
theorem Og:∀ (w:World) {A:Around} {s:Shared} {l f:Addr} {vs:List Value} {n:Nat} {v:Value} {k:Int} {ks:Nat→Int} {p:Nat} (G:A5 w s) (R:A3 A 11) (hl:s.heap.get? l=some (A6 vs n)) (hl3:@LE.le Nat _ 317 l) (hsz:vs.length≤900) (hf:keepIn (K w.params) (.ref f)=true) (hv:Eu w f s.heap v k) (hkey:∀ i v,vs[i]?=some v→Eu w f s.heap v (ks i)) (hp:p≤vs.length) (h1:∀ i<p,ks i≤k) (h2:∀ i,p≤i→i<vs.length→k<ks i),
  wpAny (MD w) A (call (.ref 30) [.ref l,v] [("key", .ref f)]) (λ r s'=>r=.none∧A4 [l] s s'∧∃ n',s'.heap.get? l=some (A6 (vs.take p++v::vs.drop p) n')) no s:=by
 walk_at " w A s l f vs n v k ks p G R hl hl3 hsz hf hv hkey hp h1 h2"
 refine Bw (binds:=[("a", .ref l),("x", v),("lo", .int 0 196),("hi", .none),("key", .ref f)]) [l] (M9 w) G R (by kernel_rfl) (by kernel_rfl) ?_
 walk_at " L s₁ D"
 have hnl:l≠L:=D.ne0 hl
 refine wpAny_execs_cons ?_
 walk_at "s3"
 refine wpAny_If ?_
 walk_at "s3"
 refine Be (by simp) ?_
 walk_at "s3"
 refine Am ?_
 walk_at "g 39"
 refine cwk (spliced_more ?_)
 walk_at "s3"
 refine Am ?_
 walk_at "s3"
 refine Co (spliced_more ?_)
 walk_at "s3"
 refine⟨Cr D.k hf,wpAny_mono (hv _ _ (R.deeper _ |>.mono (by decide)) D.good (λ b o hb e=>D.old e hb (D.ne0 e))) ?_ λ _ _ e=>e.elim⟩
 walk_at " r s2 z"
 obtain⟨⟨t2,ht2,rfl⟩,st2⟩:=z
 walk_at "c t2"
 have D2:=D.step0 st2
 walk_at "s3"
 have hl2:=D2.old hl hl3 hnl
 refine⟨Cr D2.k (by kernel_rfl),wpAny_mono (Of w (ks:=ks) (p:=p) D2.good (R.deeper _ |>.mono (by decide)) hl2 hl3 (by exact Nat.le_trans (by assumption) (by decide)) (by decide) hf (λ i v hi A' s' R' G' hk=>hkey i v hi A' s' R' G' λ b o hb e=>hk b o hb (D2.old e hb (D2.ne0 e))) hp h1 h2) ?_ λ _ _ e=>e.elim⟩
 walk_at " r s3 z"
 obtain⟨⟨t3,ht3,rfl⟩,st3⟩:=z
 walk_at "c t3"
 have D3:=D2.step0 st3
 refine An D3 ?_ (by kernel_rfl) (by kernel_rfl)
 walk_at " s4 D4"
 walk_at "s3"
 refine Ak ?_
 walk_at "s3"
 have hl4:=D4.old hl hl3 hnl
 walk_at " pl"
 refine Op hl4 ?_
 refine Co (spliced_more ?_)
 walk_at "s3"
 refine⟨Bh,Qa hl4 (by exact Nat.le_trans (by assumption) (by decide)) (by simp +arith) (by assumption) ?_⟩
 walk_at " h5 n5 hs5 hg5"
 have st5:A4 [l] s4 {s4 with heap:=h5}:=A4.sameBut (t:=s4.toks) D4.good.vol hl3 hs5 (Nat.le_refl _)
 have D5:=D4.step st5 (λ q hq=>by rw[List.mem_singleton.mp hq];exact⟨.inl (.head _),hnl,hl3⟩)
 walk_at "s3"
 exact⟨rfl,D5.st,n5,hg5⟩
theorem Rk:∀ (w:World) {A:Around} {s:Shared} {y:A0} (G:A5 w s) (R:A3 A 7) (hy:Ar s.heap y),
  wpAny (MD w) A (call (.ref 296) [.ref y.a]) (λ r s'=>(∃ t',t'≠0∧r=.int (-((y.b.length:Int)+(y.p.length:Int))) t')∧A4 [] s s') no s:=by
 walk_at " w A s y G R hy"
 refine Bw (binds:=[("word", .ref y.a)]) [] (Pd w) G R (by kernel_rfl) (by kernel_rfl) ?_
 walk_at " L s₁ D"
 have hy1:=D.piece hy
 refine wpAny_execs_cons ?_
 walk_at "s3"
 refine Am ?_
 walk_at "g 232"
 refine Co (spliced_more ?_)
 refine Am ?_
 walk_at "g 275"
 refine Co (spliced_more ?_)
 refine Am ?_
 walk_at "b len"
 refine Co (spliced_more ?_)
 refine Aj ?_
 walk_at "s3"
 rename_i s2 t2 D2 _
 refine Gq (D2.piece hy).1 (.inl rfl) ?_
 rw[if_pos rfl]
 refine spliced_none ⟨Bh,len_str (by have:=hy.2.2.1;lia) ?_⟩
 have D3:=D2.toks 2
 refine spliced_more ?_
 refine Am ?_
 walk_at "b len"
 refine Co (spliced_more ?_)
 refine Aj ?_
 walk_at "s3"
 rename_i s4 t4 D4 _
 refine Gq (D4.piece hy).1 (.inr rfl) ?_
 rw[if_neg (by decide)]
 refine spliced_none ⟨Bh,len_str (by have:=hy.2.2.2;lia) ?_⟩
 have D5:=D4.toks 2
 refine spliced_none ⟨Cr D5.k (by kernel_rfl),wpAny_mono (s_iadd w D5.good (R.deeper _ |>.mono (by decide))) ?_ λ _ _ e=>e.elim⟩
 walk_at " r s6 z"
 obtain⟨⟨t6,ht6,rfl⟩,st6⟩:=z
 walk_at "c t6"
 have D6:=D5.step0 st6
 refine spliced_none ⟨Cr D6.k (by kernel_rfl),wpAny_mono (s_neg w D6.good (R.deeper _ |>.mono (by decide))) ?_ λ _ _ e=>e.elim⟩
 walk_at " r s7 z"
 obtain⟨⟨t7,ht7,rfl⟩,st7⟩:=z
 walk_at "c t7"
 have D7:=D6.step0 st7
 exact⟨⟨t7,ht7,rfl⟩,D7.st⟩
theorem Oo (w:World) {h:Heap} {y:A0} (hy:Ar h y):Eu w 296 h (.ref y.a) (-((y.b.length:Int)+(y.p.length:Int))):=λ _ _ R G hk =>
 Rk w G (R.mono (by decide)) ⟨hk _ _ hy.2.1 hy.1,hy.2⟩
theorem Q9 (w:World) {h:Heap} {x d:Addr} {init:Int} {ps:List A0} (q:A2 w.params h x d init ps) (h0:0≤Au init ps) (h1:Au init ps<100000):Eu w 268 h (.ref x) (Au init ps):=λ _ _ R G hk =>
 Ae w G R (q.keeps hk) h0 h1
theorem T0 (P:Params) (t:Tok):peek (K P) ⟨PySem.Challenge.pw_wv0051_01,P⟩ (sharingNotTold t)=some false:=by kernel_rfl
section
variable {w:World} {A:Around} {E:VP} {s:Shared}
theorem Nk (X:(K w.params).In s.heap) {t:Tok} {Q:Bool→Shared→Prop} (h:Q false s):wpAny (MD w) A (sharingNotTold t) Q E s :=
 Looks.of_peek (M:=MD w) X (T0 w.params t) A Q E s (λ _ _ e=>e) h
theorem L4 (X:(K w.params).In s.heap) {t u:Tok} (ht:t≠0) (hu:u≠0) {c:Bool} (hne:c=false→t≠u) {Q:Bool→Shared→Prop} (h:∀ b,(b=true→c=true)→Q b s):wpAny (MD w) A (isSame.created c t u) Q E s:=by
 unfold isSame.created
 rw[if_neg (by simp[ht,hu])]
 by_cases htu:t=u
 ·rw[if_pos (by simpa using htu)]
  refine wpAny_pure (h _ λ _=>?_)
  cases c with
  | true=>rfl
  | false=>exact absurd htu (hne rfl)
 rw[if_neg (by simpa using htu)]
 cases c with
 | false=>exact wpAny_pure (h _ λ e=>e)
 | true =>
  rw[if_neg (by decide)]
  refine wpAny_bind (Nk X ?_)
  rw[if_neg (by decide)]
  refine wpAny_bind (Nk X ?_)
  rw[if_neg (by decide)]
  exact wpAny_bind (wpAny_rule (wpAny_bind (wpAny_askSetting (wpAny_pure (h _ λ _=>rfl)))))
theorem is_str (X:(K w.params).In s.heap) {x y:Str} {t u:Tok} (ht:t≠0) (hu:u≠0) (hne:x≠y→t≠u) {Q:VP} (h:∀ b,(b=true→x=y)→Q (.bool b) s):wpAny (MD w) A (compareOp .Is (.str x t) (.str y u)) Q E s:=by
 show wpAny _ _ (do return Value.bool (← isSame (.str x t) (.str y u))) _ _ s
 exact wpAny_bind (L4 X ht hu (c:=x == y) (λ e=>hne (by simpa using e)) (λ b hb=>wpAny_pure (h b λ e=>by simpa using hb e)))
theorem is_int (X:(K w.params).In s.heap) {x y:Int} {t u:Tok} (ht:t≠0) (hu:u≠0) (hne:x≠y→t≠u) {Q:VP} (h:∀ b,(b=true→x=y)→Q (.bool b) s):wpAny (MD w) A (compareOp .Is (.int x t) (.int y u)) Q E s:=by
 show wpAny _ _ (do return Value.bool (← (if x == y && smallInt x then isSame.cachedInt t u else isSame.created (x == y) t u))) _ _ s
 refine wpAny_bind ?_
 by_cases hc:(x == y && smallInt x)=true
 ·rw[if_pos hc]
  unfold isSame.cachedInt
  rw[if_neg (by simp[ht,hu])]
  simp only[Bool.and_eq_true,beq_iff_eq] at hc
  exact wpAny_bind (wpAny_rule (wpAny_pure (wpAny_pure (h _ λ _=>hc.1))))
 ·rw[if_neg hc]
  exact L4 X ht hu (c:=x == y) (λ e=>hne (by simpa using e)) (λ b hb=>wpAny_pure (h b λ e=>by simpa using hb e))
end
section
variable {w:World} {S:List Addr} {s₀:Shared} {L:Addr} {ref:Heap} {m m':SV} {news:AO} {s s':Shared} {A:Around} {E:VP}
theorem n_forStr {I:Addr} {x:Str} {t:Tok} {o:Obj} {env:Env} {target:PySem.Expr} {body orelse:List Stmt} {Q:FP} (hh:A.handled=none) (D:Cl w S s₀ L ref m [(I,o)] s) (ho:o.cls=.type "str_ascii_iterator" ∧ o.data=.fields #[.str x t,.int 0 0]) (hI:ref.get? I=none) (h0I:s₀.heap.get? I=none)
  (X B:Nat→(SV)→Prop) (hX:X 0 m)
  (turn:∀ i c m' z o u,x.cps[i]?=some c→X i m'→Cl w S s₀ L ref m' [(I,o)] z→s₀.toks≤u→wpAny (MD w) A (assign target env (.str ⟨#[c]⟩ u)) (λ _ s₂=>wpAny (MD w) A (execs body env) (λ f s₃=>∃ m'',Cl w S s₀ L z.heap m'' [] s₃∧(((f=.next∨f=.cont)∧X (i+1) m'')∨(f=.brk∧B i m''))) (λ _ _=>False) s₂) (λ _ _=>False) z)
  (done:∀ m' z,Cl w S s₀ L ref m' [] z→X x.cps.size m'→wpAny (MD w) A (execs orelse env) Q (λ _ _=>False) z)
  (brk:∀ i m' z,i<x.cps.size→Cl w S s₀ L ref m' [] z→B i m'→Q .next z)
  (ht:∀ v,letOwnedTupleGo target (.ref I) v=pure ():=by intro _;rfl) :
  codeAny (MD w) A (.forLoop target (.ref I) body orelse env) (λ r s'=>match r with|.ok f=>Q f s'|.error e=>E e s') s:=by
 walk_at "c w S s₀ L ref m s A E I x t o env target body orelse Q hh D ho hI h0I X B hX turn done brk ht"
 refine codeAny_forLoop (λ k z=>∃ i m' o,X i m'∧o.cls=.type "str_ascii_iterator" ∧ o.data=.fields #[.str x t,.int i 0]∧Cl w S s₀ L ref m' [(I,o)] z∧i≤x.cps.size∧k=x.cps.size+1-i) ?_ (x.cps.size+1) ⟨0,m,o,hX,ho.1,ho.2,D,Nat.zero_le _,rfl⟩ ht
 rintro k z ⟨i,m',o',hx,hc,hd,Dz,hi,rfl⟩
 walk_at "c z i m' o'"
 have hit:z.heap.IsStrIter I "str_ascii_iterator" x t i:=⟨o',Dz.at 0 rfl,hc,hd⟩
 by_cases hlt:i<x.cps.size
 ·refine wpAny_pyNext_ascii_item hit (c:=x.cps[i]) (by simp[hlt]) ?_
  walk_at " h' hit' hs'"
  obtain⟨o2,ho2,hc2,hd2⟩:=hit'
  walk_at "c o2"
  have Da:=Dz.setHead (t:=z.toks+1) hI h0I (λ _ h=>nomatch h) (λ b ob hb e=>hs'.extBut b ob hb e) ho2 (Nat.le_succ _)
  refine wpAny_mono (turn i x.cps[i] m' _ o2 z.toks (by simp[hlt]) hx Da Dz.st.calm.toks) ?_ λ _ _ e=>e.elim
  walk_at " _ s₂ h₂"
  refine wpAny_mono h₂ ?_ λ _ _ e=>e.elim
  walk_at " f s₃ h₃"
  obtain⟨m'',D3,h3⟩:=h₃
  walk_at "c m''"
  rcases h3 with ⟨rfl|rfl,hx3⟩|⟨rfl,hb⟩
  ·exact⟨x.cps.size+1-(i+1),by grind,i+1,m'',o2,hx3,hc2,hd2,Da.under D3,hlt,rfl⟩
  ·exact⟨x.cps.size+1-(i+1),by grind,i+1,m'',o2,hx3,hc2,hd2,Da.under D3,hlt,rfl⟩
  ·exact brk i m'' _ hlt ((Da.under D3).drop λ _ h=>nomatch h) hb
 ·have hin:i=x.cps.size:=by lia
  subst hin
  refine wpAny_pyNext_ascii_end hh hit (by simp) ?_
  walk_at " h' he'"
  have Da:=Dz.gone (t:=z.toks) hI h0I (λ _ h=>nomatch h) (λ b ob hb e=>he' b ob hb e) (Nat.le_refl _)
  exact wpAny_mono (done m' _ Da hx) (λ f s₃ h₃=>h₃) λ _ _ e=>e.elim
end
theorem s_countOf:∀ (w:World) {A:Around} {s:Shared} {x:Str} {c:Nat} {t tb:Tok} (G:A5 w s) (R:A3 A 6) (hasc:strIterType x = "str_ascii_iterator") (htb:tb≠0) (hlt:tb<s.toks),
  wpAny (MD w) A (call (.ref 239) [.str x t,.str ⟨#[c]⟩ tb]) (λ r s'=>(∃ t',t'≠0∧r=.int ((x.cps.toList.count c:Nat):Int) t')∧A4 [] s s') no s:=by
 walk_at " w A s x c t tb G R hasc htb hlt"
 refine Bw (binds:=[("a", .str x t),("b", .str ⟨#[c]⟩ tb)]) [] (R9 w) G R (by kernel_rfl) (by kernel_rfl) ?_
 walk_at " L s₁ D"
 refine wpAny_execs_cons ?_
 walk_at "s3"
 rename_i s2 t2 D2 ht2 s3 D3
 refine wpAny_For ?_
 walk_at "s3"
 refine wpAny_pyIter_strU ?_
 have D4:=D3.rebase.push {cls:=.type (strIterType x),data:=.fields #[.str x t,.int 0 0]} rfl
 rw[hasc] at D4 ⊢
 refine n_forStr (R.deeper _).hd D4 ⟨rfl,rfl⟩ (Bc (Nat.le_refl _)) (Bc D3.st.size) (λ i m'=>m' "b" = some (.str ⟨#[c]⟩ tb)∧∃ t,t≠0∧m' "count" = some (.int (((x.cps.toList.take i).count c:Nat):Int) t)) (λ _ _=>False) ⟨rfl,t2,ht2,rfl⟩ ?_ ?_ (λ _ _ _ _ _ h=>h.elim)
 ·rintro i c2 m' z o u hc ⟨hb,tc,htc,hcnt⟩ F1 hu
  walk_at "c i c2 m' z o u hc hb tc"
  have hu0:u≠0:=Nat.ne_of_gt (Nat.lt_of_lt_of_le G.tk hu)
  refine wpAny_assign_Name ?_
  have G1:=F1.rebase
  refine An G1 ?_ (by kernel_rfl) (by kernel_rfl)
  walk_at " z2 G2"
  have hb2:(λ y=>if y=Str.ofString "i" then some (Value.str {cps:=#[c2]} u) else m' y) "b" = some (.str ⟨#[c]⟩ tb):=hb
  have hc2:(λ y=>if y=Str.ofString "i" then some (Value.str {cps:=#[c2]} u) else m' y) "count" = some (.int (((x.cps.toList.take i).count c:Nat):Int) tc):=hcnt
  have hi2:(λ y=>if y=Str.ofString "i" then some (Value.str {cps:=#[c2]} u) else m' y) "i" = some (.str ⟨#[c2]⟩ u):=if_pos rfl
  generalize (λ y=>if y=Str.ofString "i" then some (Value.str {cps:=#[c2]} u) else m' y)=m2 at *
  have htake:x.cps.toList.take (i+1)=x.cps.toList.take i++[c2]:=by
   rw[List.take_add_one]
   simp[hc]
  have hcount:(x.cps.toList.take (i+1)).count c=(x.cps.toList.take i).count c+if c2=c then 1 else 0:=by
   rw[htake,List.count_append];simp[List.count_singleton]
  refine wpAny_execs_cons ?_
  refine wpAny_mono (Q:=λ fl z9=>fl=Flow.next∧∃ m3,Cl w [] s L z.heap m3 [] z9∧m3 "b" = some (.str ⟨#[c]⟩ tb)∧∃ t,t≠0∧m3 "count" = some (.int (((x.cps.toList.take (i+1)).count c:Nat):Int) t)) ?_ ?_ (λ _ _ e=>e)
  ·refine wpAny_If ?_
   refine wpAny_mono (Q:=λ b z8=>b=decide (c2=c)∧Cl w [] s L z.heap m2 [] z8) ?_ ?_ (λ _ _ e=>e)
   ·walk_at "s3"
    refine Ai G2 hi2 ?_
    refine Ai G2 hb2 ?_
    refine is_str G2.k hu0 htb (λ _ e=>by rw[e] at hu;exact absurd hu (Nat.not_le.mpr hlt)) ?_
    walk_at " b hbt"
    walk_at "s3"
    cases b with
    | true =>
     have:=hbt rfl
     have hcc:c2=c:=by injection this with h;simpa using h
     refine Bk rfl ?_
     exact⟨by simp[hcc],G2⟩
    | false =>
     refine Be (by simp) ?_
     walk_at "s3"
     refine Ai G2 hi2 ?_
     refine Ai G2 hb2 ?_
     refine eq_str ?_
     walk_at "s3"
     by_cases hcc:c2=c
     ·refine Bk (by simp[hcc]) ?_
      exact⟨by simp[hcc],G2⟩
     ·refine Be (by simp[hcc]) ?_
      walk_at "s3"
      exact⟨by simp[hcc],G2⟩
   ·rintro b z8 ⟨rfl,G3⟩
    walk_at "c z8"
    by_cases hcc:c2=c
    ·refine Bk (by simp[hcc]) ?_
     walk_at "s3"
     refine n_localN G3 hc2 ?_ (by kernel_rfl) (by kernel_rfl)
     walk_at "s3"
     rename_i z10 t10 H1 _ z11 t11 H2 ht11 z12 H3
     refine⟨rfl,_,H3,hb2,t11,ht11,?_⟩
     rw[hcount,if_pos hcc]
     exact if_pos rfl
    ·refine Be (by simp[hcc]) ?_
     walk_at "s3"
     refine⟨rfl,m2,G3,hb2,tc,htc,?_⟩
     rw[hcount,if_neg hcc]
     exact hc2
  ·rintro fl z9 ⟨rfl,m3,G4,h1,h2⟩
   walk_at "c z9 m3"
   walk_at "s3"
   exact⟨m3,G4,.inl ⟨.inl rfl,h1,h2⟩⟩
 ·rintro m' z F1 ⟨hb,tc,htc,hcnt⟩
  walk_at "c m' z F1 hb tc"
  walk_at "s3"
  refine Ai F1 hcnt ?_
  refine⟨⟨tc,htc,?_⟩,F1.st⟩
  rw[List.take_of_length_le (by simp)]
  rfl
section
variable {w:World} {S:List Addr} {s₀:Shared} {L:Addr} {ref:Heap} {m m':SV} {news:AO} {s s':Shared} {A:Around} {E:VP}
theorem Cl.outside (D:Cl w S s₀ L ref m [] s) {wr:List Addr} (hwr:∀ b∈wr,ref.get? b=none∧s₀.heap.get? b=none∧b≠L∧@LE.le Nat _ 317 b) {h':Heap} {t:Tok} (hk:∀ b o,b∉wr→s.heap.get? b=some o→h'.get? b=some o) (ht:s.toks≤t) :
  Cl w S s₀ L ref m [] {s with heap:=h',toks:=t}:=by
 obtain⟨oL,es,ep,hL,r⟩:=D.ns
 have hL':=hk _ _ (λ h=>(hwr _ h).2.2.1 rfl) hL
 have hz:@LE.le Nat _ 317 h'.objs.size:=Nat.le_of_lt (Nat.lt_of_le_of_lt D.hL (Heap.lt_size hL'))
 have low:∀ b ob,@LT.lt Nat _ b 317→s.heap.get? b=some ob→h'.get? b=some ob:=λ b ob hb e=>hk b ob (λ h=>Nat.not_le.mpr hb (hwr _ h).2.2.2) e
 have V:Fh h':=by
  refine⟨?_,?_,hz⟩
  ·obtain⟨ps,e⟩:=D.good.vol.a
   exact⟨ps,e.at2 (λ _ e1=>low _ _ (by decide) e1) (λ _ e2=>low _ _ (by decide) e2)⟩
  ·obtain⟨ps,e⟩:=D.good.vol.b
   exact⟨ps,e.at2 (λ _ e1=>low _ _ (by decide) e1) (λ _ e2=>low _ _ (by decide) e2)⟩
 exact⟨⟨oL,es,ep,hL',r⟩,λ b ob h1 h2 h3 e=>hk _ _ (λ h=>by rw[(hwr _ h).1] at e;cases e) (D.keep b ob h1 h2 h3 e),λ p hp=>(nomatch hp),
  ⟨λ b ob h1 h2 h3 e=>hk _ _ (λ h=>by rw[(hwr _ h).2.1] at e;cases e) (D.st.keep b ob h1 h2 h3 e),Nat.le_of_lt (Nat.lt_of_le_of_lt D.g1 (Heap.lt_size hL')),V,D.st.calm.trans (Cx.heap ht)⟩,D.g1,D.hL,
  ⟨D.good.st.low λ b ob hb _ _ e=>low b ob hb e,V,Nat.lt_of_lt_of_le D.good.tk ht⟩,D.rns⟩
theorem n_forT {I:Addr} {fp wr:List Addr} {n:Nat} {Pt:Nat→Array Value→Prop} {St:Nat→Heap→Prop} {Mid:Nat→Addr→Heap→Prop} {env:Env} {elts:List PySem.Expr} {kk:Nat} {pos:Pos} {body orelse:List Stmt} {Q:FP}
  (W:WalksT PySem.Challenge.pw_wv0051_01 w A I fp wr n Pt St Mid) (D:Cl w S s₀ L ref m [] s) (hst:St 0 s.heap) (hfp:∀ b∈fp,b≠L∧@LE.le Nat _ 317 b) (hwr:∀ b∈wr,ref.get? b=none∧s₀.heap.get? b=none)
  (X:Nat→(SV)→Prop) (hX:X 0 m)
  (turn:∀ i t vals m' z,i<n→Pt i vals→X i m'→Cl w S s₀ L ref m' [] z→z.heap.IsTuple t vals→wpAny (MD w) A (assign (.Tuple elts kk pos) env (.ref t)) (λ _ s₂=>wpAny (MD w) A (execs body env) (λ f s₃=>match f with
   | .next|.cont=>∃ m'',Cl w S s₀ L z.heap m'' [] s₃∧X (i+1) m''
   | .brk=>Q .next s₃
   | .ret v=>Q (.ret v) s₃) (λ _ _=>False) s₂) (λ _ _=>False) z)
  (done:∀ m' z,Cl w S s₀ L ref m' [] z→X n m'→wpAny (MD w) A (execs orelse env) Q (λ _ _=>False) z) :
  codeAny (MD w) A (.forLoop (.Tuple elts kk pos) (.ref I) body orelse env) (λ r s'=>match r with|.ok f=>Q f s'|.error e=>E e s') s:=by
 walk_at "c w S s₀ L ref m s A E I fp wr n Pt St Mid env elts kk pos body orelse Q W D hst hfp hwr X hX turn done"
 have hw4:∀ b∈wr,ref.get? b=none∧s₀.heap.get? b=none∧b≠L∧@LE.le Nat _ 317 b:=λ b hb=>⟨(hwr b hb).1,(hwr b hb).2,hfp b (W.sub b hb)⟩
 refine codeAny_forLoop_any (λ k z=>∃ i m',X i m'∧St i z.heap∧Cl w S s₀ L ref m' [] z∧i≤n∧k=n+1-i) ?_ (n+1) ⟨0,m,hX,hst,D,Nat.zero_le _,rfl⟩
 rintro k z ⟨i,m',hx,hs,Dz,hi,rfl⟩
 walk_at "c z i m'"
 by_cases hlt:i<n
 ·refine wpAny_with_toks (Nat.le_refl z.toks) (W.item i z _ _ hlt hs ?_)
  walk_at " t vals h₁ tk₁ hP _ hT hM hk₁ htk"
  have D1:=Dz.outside (t:=tk₁) hw4 hk₁ htk
  refine W.go elts kk pos i t _ _ _ hM ?_
  walk_at " h₂ hs₂ hk₂"
  have D2:=D1.outside (t:=tk₁) hw4 hk₂ (Nat.le_refl _)
  have hT2:h₂.IsTuple t vals:=by
   obtain⟨o,ho,r⟩:=hT
   walk_at "c o"
   exact⟨o,hk₂ _ _ (W.apart i t h₁ hM) ho,r⟩
  refine wpAny_mono (turn i t vals m' _ hlt hP hx D2 hT2) ?_ λ _ _ e=>e.elim
  walk_at " _ s₂ h₂'"
  refine wpAny_mono h₂' ?_ λ _ _ e=>e.elim
  walk_at " f s₃ h₃"
  have fin:(∃ m'',Cl w S s₀ L h₂ m'' [] s₃∧X (i+1) m'')→∃ k',k'<n+1-i∧∃ i m',X i m'∧St i s₃.heap∧Cl w S s₀ L ref m' [] s₃∧i≤n∧k'=n+1-i:=by
   rintro ⟨m'',D3,hx3⟩
   walk_at "c m''"
   exact⟨n+1-(i+1),by omega,i+1,m'',hx3,W.frame _ _ _ hs₂ (λ b hb o e=>D3.old e (hfp b hb).2 (hfp b hb).1),D2.under D3,hlt,rfl⟩
  cases f with
  | next=>exact fin h₃
  | cont=>exact fin h₃
  | brk=>exact h₃
  | ret v=>exact h₃
 ·have hin:i=n:=by omega
  subst hin
  refine wpAny_with_toks (Nat.le_refl z.toks) (W.done z _ _ hs ?_)
  walk_at " h₁ tk₁ hk₁ htk"
  exact wpAny_mono (done m' _ (Dz.outside (t:=tk₁) hw4 hk₁ htk) hx) (λ f s₃ h₃=>h₃) λ _ _ e=>e.elim
end
theorem s_indexOf:∀ (w:World) {A:Around} {s:Shared} {l:Addr} {ks:List (Int×Tok)} {n:Nat} {v:Int} {tb:Tok} {p:Nat} (G:A5 w s) (R:A3 A 6) (hl:s.heap.get? l=some (A6 (ks.map λ q=>Value.int q.1 q.2) n)) (hl3:@LE.le Nat _ 317 l) (htb:tb≠0) (hks:∀ q∈ks,q.2≠0∧(q.1≠v→q.2≠tb)) (hp:p<ks.length) (hpv:(ks.map (·.1))[p]?=some v) (hne:∀ i<p,∀ q,ks[i]?=some q→q.1≠v),
  wpAny (MD w) A (call (.ref 260) [.ref l,.int v tb]) (λ r s'=>(∃ t',r=.int (p:Int) t')∧A4 [] s s') no s:=by
 walk_at " w A s l ks n v tb p G R hl hl3 htb hks hp hpv hne"
 refine Bw (binds:=[("a", .ref l),("b", .int v tb)]) [] (Lp w) G R (by kernel_rfl) (by kernel_rfl) ?_
 walk_at " L s₁ D"
 have hnl:l≠L:=D.ne0 hl
 have hl1:=D.old hl hl3 hnl
 refine wpAny_execs_cons ?_
 walk_at "s3"
 refine wpAny_For ?_
 refine Am ?_
 walk_at "t enumerate"
 refine Co (spliced_more ?_)
 walk_at "s3"
 refine⟨Gk,call_enumerate_list (Al hl1) ?_⟩
 walk_at " h2 he hit hsz hk"
 have D2:=D.rebase.grow (t:=s₁.toks) hk (Nat.le_refl _)
 have hst:∀ (e it:Addr),(∃ old,IsEnum h2 e it 0 old)∧h2.IsListIter it l 0∧h2.IsList l (ks.map λ q=>Value.int q.1 q.2).toArray→True:=λ _ _ _=>trivial
 have hL2:h2.IsList l (ks.map λ q=>Value.int q.1 q.2).toArray:=Al (hk _ _ hl1)
 have W:∀ A':Around,A'.handled=none→WalksT PySem.Challenge.pw_wv0051_01 w A' (s₁.heap.objs.size+1) _ _ _ _ _ _:=λ A' hA=>WalksT.enumerate hA (s₁.heap.objs.size+1) s₁.heap.objs.size l (Nat.succ_ne_self _) (Nat.ne_of_lt (Nat.lt_succ_of_lt (Heap.lt_size hl1))) (Nat.ne_of_lt (Heap.lt_size hl1)) (ks.map λ q=>Value.int q.1 q.2).toArray
 refine (W _ (R.deeper _).hd).self 0 _ _ _ ⟨⟨_,he⟩,hit,hL2⟩ ?_
 have hL1:@LT.lt Nat _ L s₁.heap.objs.size:=D.ns.lt
 have g1:∀ k,s₁.heap.get? (s₁.heap.objs.size+k)=none:=λ k=>Bc (Nat.le_add_right _ _)
 have g0:∀ k,s.heap.get? (s₁.heap.objs.size+k)=none:=λ k=>Bc (Nat.le_trans D.st.size (Nat.le_add_right _ _))
 refine n_forT (W _ (R.deeper _).hd) D2 ⟨⟨_,he⟩,hit,hL2⟩ ?_ ?_ (λ i m'=>m' "b" = some (.int v tb)∧i≤p) ⟨rfl,Nat.zero_le _⟩ ?_ ?_
 ·walk_at " b hb"
  rcases List.mem_cons.mp hb with rfl|hb
  ·exact⟨Nat.ne_of_gt (Nat.lt_succ_of_lt hL1),Nat.le_succ_of_le D.good.vol.c⟩
  rcases List.mem_cons.mp hb with rfl|hb
  ·exact⟨Nat.ne_of_gt hL1,D.good.vol.c⟩
  rw[List.mem_singleton.mp hb]
  exact⟨hnl,hl3⟩
 ·walk_at " b hb"
  rcases List.mem_cons.mp hb with rfl|hb
  ·exact⟨g1 1,g0 1⟩
  rw[List.mem_singleton.mp hb]
  exact⟨g1 0,g0 0⟩
 ·rintro i t vals m' z hi ⟨ti,x,hx,rfl⟩ ⟨hb,hip⟩ F1 hT
  walk_at "c i t m' z hi ti x"
  refine Ch F1.rebase (R.deeper _).hd hT rfl rfl ?_
  walk_at " z2 F2"
  refine assignInOrder_cons (assign_Name ?_)
  refine An F2 ?_ (by kernel_rfl) (by kernel_rfl)
  walk_at " z3 F3"
  refine assignInOrder_cons (assign_Name ?_)
  refine An F3 ?_ (by kernel_rfl) (by kernel_rfl)
  walk_at " z4 F4"
  refine assignInOrder_nil ?_
  have hb4:(λ y=>if y=Str.ofString "j" then some x else (λ y=>if y=Str.ofString "i" then some (Value.int (i:Int) ti) else m' y) y) "b" = some (.int v tb):=hb
  have hi4:(λ y=>if y=Str.ofString "j" then some x else (λ y=>if y=Str.ofString "i" then some (Value.int (i:Int) ti) else m' y) y) "i" = some (.int (i:Int) ti):=(if_neg (by decide)).trans (if_pos rfl)
  have hj4:(λ y=>if y=Str.ofString "j" then some x else (λ y=>if y=Str.ofString "i" then some (Value.int (i:Int) ti) else m' y) y) "j" = some x:=if_pos rfl
  generalize (λ y=>if y=Str.ofString "j" then some x else (λ y=>if y=Str.ofString "i" then some (Value.int (i:Int) ti) else m' y) y)=m4 at *
  obtain⟨q,hq,rfl⟩:∃ q,ks[i]?=some q∧Value.int q.1 q.2=x:=by
   simpa using hx
  walk_at "c q"
  obtain⟨hq1,hq2⟩:=hks q (List.mem_of_getElem? hq)
  refine wpAny_execs_cons ?_
  refine wpAny_If ?_
  refine wpAny_mono (Q:=λ b z8=>b=decide (q.1=v)∧Cl w [] s L z.heap m4 [] z8) ?_ ?_ (λ _ _ e=>e)
  ·walk_at "s3"
   refine Ai F4 hj4 ?_
   refine Ai F4 hb4 ?_
   refine is_int F4.k hq1 htb hq2 ?_
   walk_at " b hbt"
   walk_at "s3"
   cases b with
   | true =>
    refine Bk rfl ?_
    exact⟨by simp[hbt rfl],F4⟩
   | false =>
    refine Be (by simp) ?_
    walk_at "s3"
    refine Ai F4 hj4 ?_
    refine Ai F4 hb4 ?_
    walk_at "s3"
    by_cases hcc:q.1=v
    ·refine Bk (by simp[hcc]) ?_
     exact⟨by simp[hcc],F4⟩
    ·refine Be (by simp[hcc]) ?_
     walk_at "s3"
     exact⟨by simp[hcc],F4⟩
  ·rintro b z8 ⟨rfl,F5⟩
   walk_at "c z8"
   by_cases hcc:q.1=v
   ·refine Bk (by simp[hcc]) ?_
    walk_at "s3"
    refine Ai F5 hi4 ?_
    have hpi:i=p:=by
     rcases Nat.lt_or_eq_of_le hip with h|h
     ·exact absurd hcc (hne i h q hq)
     ·exact h
    subst hpi
    exact⟨⟨ti,rfl⟩,F5.st⟩
   ·refine Be (by simp[hcc]) ?_
    walk_at "s3"
    refine⟨m4,F5,hb4,?_⟩
    rcases Nat.lt_or_eq_of_le hip with h|h
    ·exact h
    ·exfalso
     subst h
     rw[List.getElem?_map,hq] at hpv
     exact hcc (by simpa using hpv)
 ·rintro m' z F1 ⟨hb,hip⟩
  walk_at "c m' z"
  exfalso
  simp at hip
  lia
section
variable {w:World} {A:Around} {E:VP}
theorem Q0 {s:Shared} {e it:Addr} {x:Str} {t:Tok} {i c:Nat} {old:Value} {Q:VP} (he:IsEnum s.heap e it i old) (hst:s.heap.IsStrIter it "str_ascii_iterator" x t i) (hc:x.cps[i]?=some c) (hne:e≠it)
  (hQ:∀ h',IsEnumOut h' e it ((i:Int)+1) (.str ⟨#[c]⟩ s.toks) s.heap.objs.size→h'.IsStrIter it "str_ascii_iterator" x t (i+1) →
   h'.get? s.heap.objs.size=some {cls:=.type "tuple", data:=.seq #[.int i (s.toks+1),.str ⟨#[c]⟩ s.toks]} →
   (∀ b o,b≠e→b≠it→s.heap.get? b=some o→h'.get? b=some o)→Q (.ref s.heap.objs.size) {s with heap:=h',toks:=s.toks+2}) :
  wpAny (MD w) A (Builtin.«enumerate.__next__» ⟨[.ref e],[]⟩) (λ fin s'=>∃ v,fin=.done (.ret v)∧Q v s') E s:=by
 walk_at "c w A E s e it x t i c old Q he hst hc hne hQ"
 obtain⟨hp,g,d,k,os⟩:=s
 walk_at "c hp g d k os"
 have hel:@LT.lt Nat _ e hp.objs.size:=Heap.lt_size he
 show wpAny _ _ (field (.ref e) 2 >>= _) _ _ _
 refine wpAny_bind (wpAny_field he rfl (x:=.ref it) rfl (wpAny_bind ?_))
 refine wpAny_nextOf_ascii_item hst hc ?_
 walk_at " h₁ hi₁ hs₁"
 replace hs₁:Heap.SameBut it hp h₁:=hs₁
 have he₁:IsEnum h₁ e it i old:=(hs₁.2 e hne).trans he
 show wpAny _ _ (field (.ref e) 3 >>= _) _ _ ⟨h₁,g,d,k+1,os⟩
 refine wpAny_bind (wpAny_field he₁ rfl (x:=rawInt i) rfl ?_)
 show wpAny _ _ (field (.ref e) 4 >>= _) _ _ ⟨h₁,g,d,k+1,os⟩
 refine wpAny_bind (wpAny_field he₁ rfl (x:=.none) rfl ?_)
 show wpAny _ _ (mkInt i >>= _) _ _ ⟨h₁,g,d,k+1,os⟩
 refine wpAny_bind (wpAny_mkInt ?_)
 show wpAny _ _ (setField (.ref e) 3 (rawInt ((i:Int)+1)) >>= _) _ _ ⟨h₁,g,d,k+2,os⟩
 refine wpAny_bind (wpAny_setField_rec he₁ (by simp) ?_)
 walk_at " h₂ he₂ hs₂"
 replace hs₂:Heap.SameBut e h₁ h₂:=hs₂
 replace he₂:IsEnum h₂ e it ((i:Int)+1) old:=he₂
 show wpAny _ _ (setField (.ref e) 4 .none >>= _) _ _ ⟨h₂,g,d,k+2,os⟩
 refine wpAny_bind (wpAny_setField_rec he₂ (by simp) ?_)
 walk_at " h₃ he₃ hs₃"
 replace hs₃:Heap.SameBut e h₂ h₃:=hs₃
 replace he₃:IsEnum h₃ e it ((i:Int)+1) old:=he₃
 have hsz:h₃.objs.size=hp.objs.size:=by rw[hs₃.1,hs₂.1,hs₁.1]
 have hkeep:∀ b o,b≠e→b≠it→hp.get? b=some o→h₃.get? b=some o:=λ b o h1 h2 hb=>hs₃.extBut b o h1 (hs₂.extBut b o h1 (hs₁.extBut b o h2 hb))
 have hit₃:h₃.IsStrIter it "str_ascii_iterator" x t (i+1):=(hi₁.extBut hs₂.extBut (Ne.symm hne)).extBut hs₃.extBut (Ne.symm hne)
 show wpAny _ _ (newTuple [.int i (k+1),.str ⟨#[c]⟩ k] >>= _) _ _ ⟨h₃,g,d,k+2,os⟩
 refine wpAny_bind (wpAny_newTuple ?_)
 show wpAny _ _ (Builtin.SmallTypes.ownedTupleIsFree (.ref e) >>= _) _ _ ⟨h₃.push {cls:=.type "tuple", data:=.seq #[.int i (k+1),.str ⟨#[c]⟩ k]},g,d,k+2,os⟩
 rw[hsz]
 have he₄:IsEnum (h₃.push {cls:=.type "tuple", data:=.seq #[.int i (k+1),.str ⟨#[c]⟩ k]}) e it ((i:Int)+1) old:=Heap.get?_push_of_some _ he₃
 have ht₄:(h₃.push {cls:=.type "tuple", data:=.seq #[.int i (k+1),.str ⟨#[c]⟩ k]}).get? hp.objs.size=some {cls:=.type "tuple", data:=.seq #[.int i (k+1),.str ⟨#[c]⟩ k]}:=by rw[← hsz];exact Heap.get?_push_size _ rfl
 have hk₄:∀ b o,h₃.get? b=some o→(h₃.push {cls:=.type "tuple", data:=.seq #[.int i (k+1),.str ⟨#[c]⟩ k]}).get? b=some o:=λ b o hb=>Heap.get?_push_of_some _ hb
 generalize (h₃.push {cls:=.type "tuple", data:=.seq #[.int i (k+1),.str ⟨#[c]⟩ k]})=h₄ at *
 refine wpAny_bind ?_
 unfold Builtin.SmallTypes.ownedTupleIsFree
 refine wpAny_bind (wpAny_field he₄ rfl (x:=.none) rfl (wpAny_pure ?_))
 simp only[if_true]
 refine wpAny_bind (wpAny_rule (wpAny_bind (wpAny_field he₄ rfl (x:=old) rfl ?_)))
 refine wpAny_bind (wpAny_setField_rec he₄ (by simp) ?_)
 walk_at " h₅ he₅ hs₅"
 replace hs₅:Heap.SameBut e h₄ h₅:=hs₅
 replace he₅:IsEnum h₅ e it ((i:Int)+1) (.str ⟨#[c]⟩ k):=he₅
 show wpAny _ _ (Builtin.SmallTypes.ownedTupleHandOut (.ref e) (.ref hp.objs.size) >>= _) _ _ ⟨h₅,g,d,k+2,os⟩
 refine wpAny_bind ?_
 unfold Builtin.SmallTypes.ownedTupleHandOut
 refine wpAny_bind (wpAny_setField_rec he₅ (by simp) ?_)
 walk_at " h₆ he₆ hs₆"
 replace hs₆:Heap.SameBut e h₅ h₆:=hs₆
 replace he₆:IsEnumOut h₆ e it ((i:Int)+1) (.str ⟨#[c]⟩ k) hp.objs.size:=he₆
 refine wpAny_setField_rec he₆ (by simp) ?_
 walk_at " h₇ he₇ hs₇"
 replace hs₇:Heap.SameBut e h₆ h₇:=hs₇
 replace he₇:IsEnumOut h₇ e it ((i:Int)+1) (.str ⟨#[c]⟩ k) hp.objs.size:=he₇
 have up:∀ b o,b≠e→h₄.get? b=some o→h₇.get? b=some o:=λ b o h1 hb=>hs₇.extBut b o h1 (hs₆.extBut b o h1 (hs₅.extBut b o h1 hb))
 refine wpAny_bind (wpAny_letGo (wpAny_pure ⟨_,rfl,hQ h₇ he₇ ?_ (up _ _ (Nat.ne_of_gt hel) ht₄) λ b o h1 h2 hb=>up b o h1 (hk₄ b o (hkeep b o h1 h2 hb))⟩))
 obtain⟨o,ho,r⟩:=hit₃
 walk_at "c o"
 exact⟨o,up _ _ (Ne.symm hne) (hk₄ _ _ ho),r⟩
end
section
variable {w:World} {S:List Addr} {s₀:Shared} {L:Addr} {ref:Heap} {m m':SV} {news:AO} {s s':Shared} {A:Around} {E:VP}
theorem Pz {s:Shared} {e it:Addr} {x:Str} {t:Tok} {i c:Nat} {old:Value} {Q:Option Value→Shared→Prop} (he:IsEnum s.heap e it i old) (hst:s.heap.IsStrIter it "str_ascii_iterator" x t i) (hc:x.cps[i]?=some c) (hne:e≠it)
  (hQ:∀ h',IsEnumOut h' e it ((i:Int)+1) (.str ⟨#[c]⟩ s.toks) s.heap.objs.size→h'.IsStrIter it "str_ascii_iterator" x t (i+1) →
   h'.get? s.heap.objs.size=some {cls:=.type "tuple", data:=.seq #[.int i (s.toks+1),.str ⟨#[c]⟩ s.toks]} →
   (∀ b o,b≠e→b≠it→s.heap.get? b=some o→h'.get? b=some o)→Q (some (.ref s.heap.objs.size)) {s with heap:=h',toks:=s.toks+2}) :
  wpAny (MD w) A (pyNext (.ref e)) Q E s:=by
 have hT:s.TypeIs (.ref e) "enumerate" := ⟨_,he,rfl⟩
 unfold pyNext
 exact wpAny_bind (wpAny_attempt (wpAny_callSpecial?_slot (name:=Str.ofString "__next__") hT F.slot_enumerate_next
  (wpAny_call_entry F.slot_enumerate_next hT F.entry_enumerate_next
   (Q0 he hst hc hne λ h' a b c d=>wpAny_pure (hQ h' a b c d)) (F.args_enumerate_next_1 _))))
theorem Qg {e it:Addr} {x:Str} {t:Tok} {env:Env} {elts:List PySem.Expr} {kk:Nat} {pos:Pos} {body orelse:List Stmt} {Q:FP} (hh:A.handled=none)
  (D:Cl w S s₀ L ref m [] s) (hst:(∃ old,IsEnum s.heap e it 0 old)∧s.heap.IsStrIter it "str_ascii_iterator" x t 0) (hei:e≠it) (hfp:∀ b∈[e,it],b≠L∧@LE.le Nat _ 317 b) (hwr:∀ b∈[e,it],ref.get? b=none∧s₀.heap.get? b=none)
  (X:Nat→(SV)→Prop) (hX:X 0 m)
  (turn:∀ i c t u ti m' z,x.cps[i]?=some c→X i m'→Cl w S s₀ L ref m' [] z→s₀.toks≤u→z.heap.IsTuple t #[.int i ti,.str ⟨#[c]⟩ u]→wpAny (MD w) A (assign (.Tuple elts kk pos) env (.ref t)) (λ _ s₂=>wpAny (MD w) A (execs body env) (λ f s₃=>match f with
   | .next|.cont=>∃ m'',Cl w S s₀ L z.heap m'' [] s₃∧X (i+1) m''
   | .brk=>Q .next s₃
   | .ret v=>Q (.ret v) s₃) (λ _ _=>False) s₂) (λ _ _=>False) z)
  (stop:∀ m',¬ X x.cps.size m') :
  codeAny (MD w) A (.forLoop (.Tuple elts kk pos) (.ref e) body orelse env) (λ r s'=>match r with|.ok f=>Q f s'|.error e=>E e s') s:=by
 walk_at "c w S s₀ L ref m s A E e it x t env elts kk pos body orelse Q hh D hst hei hfp hwr X hX turn stop"
 have hw4:∀ b∈[e,it],ref.get? b=none∧s₀.heap.get? b=none∧b≠L∧@LE.le Nat _ 317 b:=λ b hb=>⟨(hwr b hb).1,(hwr b hb).2,hfp b hb⟩
 refine codeAny_forLoop_any (λ k z=>∃ i m',X i m'∧((∃ old,IsEnum z.heap e it i old)∧z.heap.IsStrIter it "str_ascii_iterator" x t i)∧Cl w S s₀ L ref m' [] z∧i≤x.cps.size∧k=x.cps.size+1-i) ?_ (x.cps.size+1) ⟨0,m,hX,hst,D,Nat.zero_le _,rfl⟩
 rintro k z ⟨i,m',hx,⟨⟨old,he⟩,hs⟩,Dz,hi,rfl⟩
 walk_at "c z i m' hx hs old"
 by_cases hlt:i<x.cps.size
 ·have hc:x.cps[i]?=some x.cps[i]:=by simp[hlt]
  have helt:@LT.lt Nat _ e z.heap.objs.size:=Heap.lt_size he
  have hilt:@LT.lt Nat _ it z.heap.objs.size:=by obtain⟨o,ho,_⟩:=hs;exact Heap.lt_size ho
  refine Pz he hs hc hei ?_
  walk_at " h₁ ho₁ hs₁ hT₁ hk₁"
  have D1:=Dz.outside (t:=z.toks+2) hw4 (λ b o hb e=>hk₁ b o (λ q=>hb (by simp[q])) (λ q=>hb (by simp[q])) e) (Nat.le_add_right _ _)
  refine wpAny_letOwnedTupleGo_enum ho₁ ?_
  walk_at " h₂ he₂ hs₂"
  have D2:=D1.outside (t:=z.toks+2) hw4 (λ b o hb e=>(hs₂.2 b (λ q=>hb (by simp[q]))).trans e) (Nat.le_refl _)
  have hT2:h₂.IsTuple z.heap.objs.size #[.int i (z.toks+1),.str ⟨#[x.cps[i]]⟩ z.toks]:=⟨_,(hs₂.2 _ (Nat.ne_of_gt helt)).trans hT₁,rfl,0,rfl⟩
  have hs2:h₂.IsStrIter it "str_ascii_iterator" x t (i+1):=by
   obtain⟨o,ho,r⟩:=hs₁
   walk_at "c o"
   exact⟨o,(hs₂.2 _ (Ne.symm hei)).trans ho,r⟩
  refine wpAny_mono (turn i x.cps[i] _ z.toks (z.toks+1) m' _ hc hx D2 Dz.st.calm.toks hT2) (λ _ s₂ h₂'=>wpAny_mono h₂' (λ f s₃ h₃=>?_) λ _ _ e=>e.elim) λ _ _ e=>e.elim
  have fin:(∃ m'',Cl w S s₀ L h₂ m'' [] s₃∧X (i+1) m'')→∃ k',k'<x.cps.size+1-i∧∃ i m',X i m'∧((∃ old,IsEnum s₃.heap e it i old)∧s₃.heap.IsStrIter it "str_ascii_iterator" x t i)∧Cl w S s₀ L ref m' [] s₃∧i≤x.cps.size∧k'=x.cps.size+1-i:=by
   rintro ⟨m'',D3,hx3⟩
   refine⟨x.cps.size+1-(i+1),by omega,i+1,m'',hx3,⟨⟨_,D3.old (by simpa using he₂) (hfp e (by simp)).2 (hfp e (by simp)).1⟩,?_⟩,D2.under D3,hlt,rfl⟩
   obtain⟨o,ho,r⟩:=hs2
   exact⟨o,D3.old ho (hfp it (by simp)).2 (hfp it (by simp)).1,r⟩
  cases f with
  | next=>exact fin h₃
  | cont=>exact fin h₃
  | brk=>exact h₃
  | ret v=>exact h₃
 ·have hin:i=x.cps.size:=by omega
  subst hin
  exact absurd hx (stop m')
end
theorem Sy:∀ (w:World) {A:Around} {s:Shared} {x:Str} {c:Nat} {tx tb:Tok} {p:Nat} (G:A5 w s) (R:A3 A 6) (hasc:strIterType x = "str_ascii_iterator") (htb:tb≠0) (hlt:tb<s.toks) (hpv:x.cps[p]?=some c) (hne:∀ i<p,x.cps[i]?≠some c),
  wpAny (MD w) A (call (.ref 260) [.str x tx,.str ⟨#[c]⟩ tb]) (λ r s'=>(∃ t',r=.int (p:Int) t')∧A4 [] s s') no s:=by
 walk_at " w A s x c tx tb p G R hasc htb hlt hpv hne"
 refine Bw (binds:=[("a", .str x tx),("b", .str ⟨#[c]⟩ tb)]) [] (Lp w) G R (by kernel_rfl) (by kernel_rfl) ?_
 walk_at " L s₁ D"
 have hp:p<x.cps.size:=(Array.getElem?_eq_some_iff.mp hpv).1
 refine wpAny_execs_cons ?_
 walk_at "s3"
 refine wpAny_For ?_
 refine Am ?_
 walk_at "t enumerate"
 refine Co (spliced_more ?_)
 walk_at "s3"
 refine⟨Gk,call_enumerate_str ?_⟩
 walk_at " h2 he hit hsz hk"
 rw[hasc] at hit
 have D2:=D.rebase.grow (t:=s₁.toks) hk (Nat.le_refl _)
 refine wpAny_pyIter_enum he ?_
 have hL1:@LT.lt Nat _ L s₁.heap.objs.size:=D.ns.lt
 have g1:∀ k,s₁.heap.get? (s₁.heap.objs.size+k)=none:=λ k=>Bc (Nat.le_add_right _ _)
 have g0:∀ k,s.heap.get? (s₁.heap.objs.size+k)=none:=λ k=>Bc (Nat.le_trans D.st.size (Nat.le_add_right _ _))
 refine Qg (x:=x) (R.deeper _).hd D2 ⟨⟨_,he⟩,hit⟩ (Nat.succ_ne_self _) ?_ ?_ (λ i m'=>m' "b" = some (.str ⟨#[c]⟩ tb)∧i≤p) ⟨rfl,Nat.zero_le _⟩ ?_ (λ m' h=>by have:=h.2;lia)
 ·walk_at " b hb"
  rcases List.mem_cons.mp hb with rfl|hb
  ·exact⟨Nat.ne_of_gt (Nat.lt_succ_of_lt hL1),Nat.le_succ_of_le D.good.vol.c⟩
  rw[List.mem_singleton.mp hb]
  exact⟨Nat.ne_of_gt hL1,D.good.vol.c⟩
 ·walk_at " b hb"
  rcases List.mem_cons.mp hb with rfl|hb
  ·exact⟨g1 1,g0 1⟩
  rw[List.mem_singleton.mp hb]
  exact⟨g1 0,g0 0⟩
 ·rintro i c2 t u ti m' z hc2 ⟨hb,hip⟩ F1 hu hT
  walk_at "c i c2 t u ti m' z"
  have hu0:u≠0:=Nat.ne_of_gt (Nat.lt_of_lt_of_le G.tk hu)
  refine Ch F1.rebase (R.deeper _).hd hT rfl rfl ?_
  walk_at " z2 F2"
  refine assignInOrder_cons (assign_Name ?_)
  refine An F2 ?_ (by kernel_rfl) (by kernel_rfl)
  walk_at " z3 F3"
  refine assignInOrder_cons (assign_Name ?_)
  refine An F3 ?_ (by kernel_rfl) (by kernel_rfl)
  walk_at " z4 F4"
  refine assignInOrder_nil ?_
  have hb4:(λ y=>if y=Str.ofString "j" then some (Value.str {cps:=#[c2]} u) else (λ y=>if y=Str.ofString "i" then some (Value.int (i:Int) ti) else m' y) y) "b" = some (.str ⟨#[c]⟩ tb):=hb
  have hi4:(λ y=>if y=Str.ofString "j" then some (Value.str {cps:=#[c2]} u) else (λ y=>if y=Str.ofString "i" then some (Value.int (i:Int) ti) else m' y) y) "i" = some (.int (i:Int) ti):=(if_neg (by decide)).trans (if_pos rfl)
  have hj4:(λ y=>if y=Str.ofString "j" then some (Value.str {cps:=#[c2]} u) else (λ y=>if y=Str.ofString "i" then some (Value.int (i:Int) ti) else m' y) y) "j" = some (.str ⟨#[c2]⟩ u):=if_pos rfl
  generalize (λ y=>if y=Str.ofString "j" then some (Value.str {cps:=#[c2]} u) else (λ y=>if y=Str.ofString "i" then some (Value.int (i:Int) ti) else m' y) y)=m4 at *
  refine wpAny_execs_cons ?_
  refine wpAny_If ?_
  refine wpAny_mono (Q:=λ b z8=>b=decide (c2=c)∧Cl w [] s L z.heap m4 [] z8) ?_ ?_ (λ _ _ e=>e)
  ·walk_at "s3"
   refine Ai F4 hj4 ?_
   refine Ai F4 hb4 ?_
   refine is_str F4.k hu0 htb (λ _ e=>by rw[e] at hu;exact absurd hu (Nat.not_le.mpr hlt)) ?_
   walk_at " b hbt"
   walk_at "s3"
   cases b with
   | true =>
    refine Bk rfl ?_
    have hcc:c2=c:=by have:=hbt rfl;injection this with h;simpa using h
    exact⟨by simp[hcc],F4⟩
   | false =>
    refine Be (by simp) ?_
    walk_at "s3"
    refine Ai F4 hj4 ?_
    refine Ai F4 hb4 ?_
    refine eq_str ?_
    walk_at "s3"
    by_cases hcc:c2=c
    ·refine Bk (by simp[hcc]) ?_
     exact⟨by simp[hcc],F4⟩
    ·refine Be (by simp[hcc]) ?_
     walk_at "s3"
     exact⟨by simp[hcc],F4⟩
  ·rintro b z8 ⟨rfl,F5⟩
   walk_at "c z8"
   by_cases hcc:c2=c
   ·refine Bk (by simp[hcc]) ?_
    walk_at "s3"
    refine Ai F5 hi4 ?_
    have hpi:i=p:=by
     rcases Nat.lt_or_eq_of_le hip with h|h
     ·exact absurd (hcc ▸ hc2) (hne i h)
     ·exact h
    subst hpi
    exact⟨⟨ti,rfl⟩,F5.st⟩
   ·refine Be (by simp[hcc]) ?_
    walk_at "s3"
    refine⟨m4,F5,hb4,?_⟩
    rcases Nat.lt_or_eq_of_le hip with h|h
    ·exact h
    ·exfalso
     subst h
     rw[hc2] at hpv
     exact hcc (by simpa using hpv)
noncomputable def Hq (w:World) (L x d la ax ad:Addr) (mx:Int) (cws sp:Str) (lines:List Str) (init:Int) (ps:List A0) (s:Shared):Prop :=
 A5 w s∧(∃ m,s.heap.Ns L m∧m "self" = some (.ref x))∧Aa w.params s.heap x d la ax ad mx cws sp lines init ps
noncomputable def gY (w:World) (L x d la ax ad:Addr) (mx:Int) (cws sp:Str) (lines:List Str) (init:Int) (ps:List A0):Protocol:=λ k s₀ v s' kap =>
 (∃ t,v=.int (if k=2 then mx-Au init ps else mx-(cws.length:Int)) t)∧A4 [] s₀ s'∧(k≠0→∀ s'',Hq w L x d la ax ad mx cws sp lines init ps s''→kap (.send .none) s'')
noncomputable def Fp:List Stmt:=Cv (E0 9 6)
theorem room_over (A:Around) (n:Nat) (body:List Stmt) (env:Env) (R:A3 A (n+1)):A3 (A.over (.func body env) []) n:=R.deeper env
section
variable {w:World} {A:Around} {L x d la ax ad:Addr} {mx:Int} {cws sp:Str} {lines:List Str} {init:Int} {ps:List A0}
theorem Hq.step {s s':Shared} (r:Hq w L x d la ax ad mx cws sp lines init ps s) (st:A4 [] s s') (hL:@LE.le Nat _ 317 L):Hq w L x d la ax ad mx cws sp lines init ps s':=by
 obtain⟨G,⟨m,hn,hm⟩,V⟩:=r
 refine⟨G.step st (λ _ h=>nomatch h),⟨m,?_,hm⟩,?_⟩
 ·obtain⟨o,es,ep,h,r⟩:=hn
  exact⟨o,es,ep,st.get hL (λ h=>nomatch h) h,r⟩
 ·exact V.keeps λ b o h3 e=>st.get h3 (λ h=>nomatch h) e
theorem seg_ind {C:Code} {tt:Sem Fin} {fs:List Frame} (Rq:Shared→Prop) {Y:Protocol} {R:GenEnd} (h:∀ n,n≤1→(n≠0→∀ s,Rq s→Seg (MD w) A R Y n s C tt fs s)→∀ s,Rq s→Seg (MD w) A R Y (n+1) s C tt fs s):∀ n,n≤1→∀ s,Rq s→Seg (MD w) A R Y (n+1) s C tt fs s
 | 0,_=>h 0 (Nat.zero_le _) (λ h0=>absurd rfl h0)
 | n+1,hn=>h (n+1) hn (λ _=>seg_ind Rq h n (Nat.le_of_succ_le hn))
theorem Sx (A:Around) (n:Nat) (t:PySem.Expr) (b o body:List Stmt) (env:Env) (k:Result→Sem Fin) (g:Bool) (l:List Value) (p:Pos) (R:A3 A (n+1)):A3 (A.over (.whileLoop t b o env) [.ret k none g l (.func body env) p []]) n :=
 ⟨R.hd,by have:=R.dp;show A.depth+1+0+n<1000;simp_all +arith,by have:=R.un;first|(show A.units+3+0+16*n<9900;lia)|(show A.units+3+1+16*n<9900;omega)|(show A.units+3+2+16*n<9900;omega)|(show A.units+3+3+16*n<9900;omega),R.fr.elim λ l e=>⟨env::l,by show A.frames.map _=_;rw[e];rfl⟩⟩
theorem P6 {α:Type} {A':Around} {m:Sem α} {Q:α→Shared→Prop} {E:VP} {s:Shared} {n:Nat} (R:A3 A' n) (h:A3 A' n→wpAny (MD w) A' m Q E s):wpAny (MD w) A' m Q E s:=h R
theorem seg_start {s:Shared} (R:A3 A 12) (r:Hq w L x d la ax ad mx cws sp lines init ps s) (h0:0≤Au init ps) (h1:Au init ps<100000) :
  Seg (MD w) A (λ _ _ _ _=>False) (gY w L x d la ax ad mx cws sp lines init ps) 3 s (.func Fp (fenv Ba 113 L)) ((MD w).den (.func Fp (fenv Ba 113 L))) [] s:=by
 walk_at "c w A L x d la ax ad mx cws sp lines init ps s R r h0 h1"
 refine seg_func ?_
 have R1:A3 (A.over (.func Fp (fenv Ba 113 L)) []) 11:=room_over A 11 _ _ R
 generalize hA1:A.over (.func Fp (fenv Ba 113 L)) []=A1 at *
 have hbd:Fp=Fp:=rfl
 conv in (execs Fp _)=>arg 1;unfold Fp;whnf
 refine seg_execs_cons (seg_Expr_Yield rfl rfl rfl ?_)
 rw[hA1]
 obtain⟨G,⟨m,hn,hm⟩,V⟩:=r
 walk_at "c m"
 refine wpAny_mono (Q:=λ v s'=>(∃ t,v=.int (mx-Au init ps) t)∧A4 [] s s') (E:=λ _ _=>False) ?_ ?_ (λ _ _ e=>e.elim)
 ·refine wpAny_BinOp ?_
  refine Bl ?_
  refine wpAny_Name (wpAny_loadName_local (by kernel_rfl) (by kernel_rfl) hn hm ?_) (by decide +kernel)
  refine Qx G.st.k V ?_
  walk_at " tmx"
  have G2:=G.toks 1
  refine Am ?_
  refine Iv (.builtin "len") G2.st (by kernel_rfl) (by kernel_rfl) ?_
  refine Co (spliced_more ?_)
  refine Bl ?_
  refine wpAny_Name (wpAny_loadName_local (by kernel_rfl) (by kernel_rfl) hn hm ?_) (by decide +kernel)
  refine Ea G2.st.k V ?_
  refine spliced_none ⟨Bh,wpAny_mono (Lb w (G2.toks 1) (R1.mono (by decide)) V.acc h0 h1) ?_ λ _ _ e=>e.elim⟩
  walk_at " r s3 z"
  obtain⟨⟨t3,_,rfl⟩,st3⟩:=z
  walk_at "c t3"
  refine P.sub_int ?_
  refine⟨⟨_,rfl⟩,?_⟩
  exact⟨λ b o h1 h2 h3 e=>st3.keep b o h1 h2 h3 e,st3.size,st3.vol,(Cx.heap (Nat.le_add_right _ 2)).trans (st3.calm.trans (Cx.heap (Nat.le_succ _)))⟩
 ·rintro v s' ⟨⟨t,rfl⟩,st⟩ kap hk
  walk_at "c s' st t kap"
  refine⟨⟨t,rfl⟩,st,?_⟩
  walk_at " _ s2 r2"
  refine hk .none s2 ?_
  refine seg_execs_cons (seg_While ?_)
  walk_at " p"
  refine seg_ind (Hq w L x d la ax ad mx cws sp lines init ps) ?_ 1 (Nat.le_refl _) s2 r2
  walk_at " n hn1 ih s r"
  refine seg_whileLoop ?_
  refine P6 (n:=9) (Sx A 9 _ _ _ _ _ _ _ _ _ (R.mono (by decide))) ?_
  walk_at " R2"
  refine isTrue_plain ?_ (by kernel_rfl)
  refine wpAny_Constant_bool (wpAny_truthy_bool ?_)
  refine Bk rfl ?_
  refine seg_execs_cons (seg_Expr_Yield rfl rfl rfl ?_)
  refine P6 R2 ?_
  walk_at " R3"
  obtain⟨G,⟨m,hn,hm⟩,V⟩:=r
  refine wpAny_mono (Q:=λ v s'=>(∃ t,v=.int (mx-(cws.length:Int)) t)∧A4 [] s s') (E:=λ _ _=>False) ?_ ?_ (λ _ _ e=>e.elim)
  ·refine wpAny_BinOp ?_
   refine Bl ?_
   refine wpAny_Name (wpAny_loadName_local (by kernel_rfl) (by kernel_rfl) hn hm ?_) (by decide +kernel)
   refine Qx G.st.k V ?_
   walk_at " tmx"
   have G2:=G.toks 1
   refine Bl ?_
   refine wpAny_Name (wpAny_loadName_local (by kernel_rfl) (by kernel_rfl) hn hm ?_) (by decide +kernel)
   refine vg_cwl G2.st.k V ?_
   walk_at " tcw"
   refine P.sub_int ?_
   exact⟨⟨_,rfl⟩,λ b o h1 h2 h3 e=>e,Nat.le_refl _,G.vol,Cx.heap (Nat.le_add_right _ 3)⟩
  ·rintro v s' ⟨⟨t,rfl⟩,st⟩ kap hk
   refine⟨⟨t,by rw[if_neg (by omega)]⟩,st,λ hn s2 r2=>hk .none s2 ?_⟩
   exact seg_execs_nil (seg_again rfl (ih hn s2 r2))
end
noncomputable def GenK (w:World) (A:Around) (L x d la ax ad:Addr) (mx:Int) (cws sp:Str) (lines:List Str) (init:Int) (ps:List A0) (k:Nat) (gs:GenState):Prop :=
 ∀ s'',Hq w L x d la ax ad mx cws sp lines init ps s''→gs.Goes (MD w) A (λ _ _ _ _=>False) (gY w L x d la ax ad mx cws sp lines init ps) k (.send .none) s''
structure Ir (gi:Nat) (s s':Shared):Prop where
 keep:∀ b o,b≠176→b≠183→s.heap.get? b=some o→s'.heap.get? b=some o
 size:s.heap.objs.size≤s'.heap.objs.size
 vol:Fh s'.heap
 os:s'.os=s.os
 gsz:s.gens.size≤s'.gens.size
 gens:∀ i,i≠gi→i<s.gens.size→s'.gens[i]?=s.gens[i]?
 bare:(∀ g∈s.gens,g.bare=true)→∀ g∈s'.gens,g.bare=true
 toks:s.toks≤s'.toks
theorem A4.withG {S:List Addr} {a b c:Shared} {gi:Nat} (x:A4 S a b) (y:Ir gi b c) (h:a.gens.size≤gi):A4 S a c :=
 ⟨λ q o h1 h2 h3 e=>y.keep q o h2 h3 (x.keep q o h1 h2 h3 e),Nat.le_trans x.size y.size,y.vol,⟨y.os.trans x.calm.os,Nat.le_trans x.calm.size y.gsz,
  λ i hi=>(y.gens i (Nat.ne_of_lt (Nat.lt_of_lt_of_le hi h)) (Nat.lt_of_lt_of_le hi x.calm.size)).trans (x.calm.gens i hi),λ h=>y.bare (x.calm.bare h),Nat.le_trans x.calm.toks y.toks⟩⟩
theorem Ir.good {w:World} {gi:Nat} {s s':Shared} (y:Ir gi s s') (G:A5 w s):A5 w s' :=
 ⟨G.st.low λ b o hb h1 h2 e=>y.keep b o h1 h2 e,y.vol,Nat.lt_of_lt_of_le G.tk y.toks⟩
theorem Ir.get {gi:Nat} {s s':Shared} (y:Ir gi s s') {b:Addr} {o:Obj} (h3:@LE.le Nat _ 317 b) (e:s.heap.get? b=some o):s'.heap.get? b=some o :=
 y.keep b o (Av h3 176 (by decide)) (Av h3 183 (by decide)) e
theorem Cl.withG {w:World} {S:List Addr} {s₀ s s':Shared} {L:Addr} {ref:Heap} {m:SV} {news:AO} {gi:Nat} (D:Cl w S s₀ L ref m news s) (y:Ir gi s s') (h:s₀.gens.size≤gi):Cl w S s₀ L ref m news s':=by
 obtain⟨oL,es,ep,hL,r⟩:=D.ns
 exact⟨⟨oL,es,ep,y.get D.hL hL,r⟩,λ b o h0 h1 h2 e=>y.keep b o h1 h2 (D.keep b o h0 h1 h2 e),λ p hp=>⟨y.get (D.nw p hp).2.2 (D.nw p hp).1,(D.nw p hp).2⟩,D.st.withG y h,D.g1,D.hL,y.good D.good,D.rns⟩
theorem Hq.setGen {w:World} {L x d la ax ad:Addr} {mx:Int} {cws sp:Str} {lines:List Str} {init:Int} {ps:List A0} {s:Shared} (r:Hq w L x d la ax ad mx cws sp lines init ps s) (g:Nat) (st:GenState):Hq w L x d la ax ad mx cws sp lines init ps (s.setGen g st) :=
 ⟨⟨r.1.st,r.1.vol,r.1.tk⟩,r.2.1,r.2.2⟩
theorem Gj (s:Shared) (g:Nat) (st:GenState):(s.setGen g st).gens.size=s.gens.size:=by simp[Shared.setGen]
theorem Il (s:Shared) {g i:Nat} (st:GenState) (h:i≠g):(s.setGen g st).gens[i]?=s.gens[i]?:=by
 simp[Shared.setGen,Array.getElem?_setIfInBounds,Ne.symm h]
theorem Lt:∀ {s:Shared} {g:Nat} {st:GenState} (hb:st.bare=true) (h:∀ x∈s.gens,x.bare=true),
  ∀ x∈(s.setGen g st).gens,x.bare=true:=by
 walk_at " s g st hb h"
 walk_at " y hy"
 obtain⟨i,hi,e⟩:=Array.mem_iff_getElem.mp hy
 walk_at "c i"
 have e':(s.setGen g st).gens[i]?=some y:=by rw[Array.getElem?_eq_getElem hi,e]
 by_cases q:i=g
 ·subst q
  have hi2:i<s.gens.size:=by rw[Gj] at hi;exact hi
  have:(s.setGen i st).gens[i]?=some st:=by simp[Shared.setGen,hi2]
  rw[this] at e';cases e';exact hb
 ·rw[Il s st q] at e'
  exact h y (Array.mem_of_getElem? e')
section
variable {w:World} {A:Around} {L x d la ax ad:Addr} {mx:Int} {cws sp:Str} {lines:List Str} {init:Int} {ps:List A0}
theorem Q6 {s:Shared} {a:Addr} {gi k:Nat} {gs:GenState} (hh:A.handled=none) (hroom:A.depth<recursionLimit) (hg:s.heap.IsGen a gi) (ha3:@LE.le Nat _ 317 a) (hgs:s.gens[gi]?=some gs) (hL:@LE.le Nat _ 317 L)
  (hk:GenK w A.in1.in1 L x d la ax ad mx cws sp lines init ps (k+1) gs) (r:Hq w L x d la ax ad mx cws sp lines init ps s) :
  wpAny (MD w) A (call (.builtin "next") [.ref a]) (λ v s'=>(∃ t,v=.int (if k=2 then mx-Au init ps else mx-(cws.length:Int)) t)∧Ir gi s s'∧s'.heap.IsGen a gi∧Hq w L x d la ax ad mx cws sp lines init ps s' ∧
   ∃ gs',s'.gens[gi]?=some gs'∧(k≠0→GenK w A.in1.in1 L x d la ax ad mx cws sp lines init ps k gs')) no s:=by
 refine call_function_entry (by decide +kernel) (by decide +kernel) kdk_entry_next (kdk_args_next _) ?_
 unfold Builtin.«next»
 refine wpAny_bind (m:=someArgs "next" 1 2 _) (wpAny_of_eq (a:=[Value.ref a]) (by first|rfl|kernel_rfl!) ?_)
 refine wpAny_bind (wpAny_specialOf (name:=Str.ofString "__next__") hg.typeIs slot_gen_next.lookup ?_)
 rw[if_neg (by simp)]
 dsimp only
 refine wpAny_bind (wpAny_callSpecial?_slot (name:=Str.ofString "__next__") hg.typeIs slot_gen_next (wpAny_call_entry slot_gen_next hg.typeIs entry_gen_next ?_ (args_gen_next _)))
 show wpAny _ _ (Builtin.Generator.genWake (.ref a) (.send .none)) _ _ s
 unfold Builtin.Generator.genWake
 refine wpAny_bind (wpAny_holding (wpAny_genNumber hg (wpAny_bind (wpAny_genState hgs ?_))))
 have hgo:=hk _ (r.setGen gi .running)
 cases gs with
 | running=>exact hgo.elim
 | finished=>exact hgo.elim
 | _ =>
  refine wpAny_bind (wpAny_roomToWake r.1.st.nolimit hroom ?_)
  show wpAny _ _ (.resume gi (.send .none) [] _) _ _ s
  refine wpAny_resumeQ hgs hgo (λ x s₁ hx=>hx.elim) (λ v s₁ gs' hb hv=>?_)
  obtain⟨⟨t,rfl⟩,st,hkap⟩:=hv
  have hlt:gi<s.gens.size:=(Array.getElem?_eq_some_iff.mp hgs).1
  have g1:Ir gi s (s₁.setGen gi gs'):=by
   refine⟨λ b o h1 h2 e=>st.keep b o (λ h=>nomatch h) h1 h2 e,st.size,st.vol,st.calm.os,?_,?_,?_,st.calm.toks⟩
   ·rw[Gj];have:=st.calm.size;rw[Gj] at this;exact this
   ·intro i hi hlt
    rw[Il _ _ hi,st.calm.gens i (by rw[Gj];exact hlt),Il _ _ hi]
   ·intro h
    exact Lt hb (st.calm.bare (Lt rfl h))
  refine wpAny_pure ⟨_,rfl,?_⟩
  have hlt1:gi<s₁.gens.size:=by have:=st.calm.size;rw[Gj] at this;exact Nat.lt_of_lt_of_le hlt this
  refine wpAny_pure ⟨_,rfl,⟨t,rfl⟩,g1,?_,(((r.setGen gi .running).step st hL).setGen gi gs'),gs',by simp[Shared.setGen,hlt1],λ h0 s'' r''=>hkap h0 s'' r''⟩
  obtain⟨o,nm,qn,ho,z⟩:=hg
  exact⟨o,nm,qn,g1.get ha3 ho,z⟩
end
theorem J7:∀ {w:World} {A:Around} {E:VP} {s:Shared} {target:PySem.Expr} {I l:Addr} {i:Nat} {v:Value} {Q:Unit→Shared→Prop} (hit:s.heap.IsListIter I l i) (h:Q () s),
  wpAny (MD w) A (letOwnedTupleGo target (.ref I) v) Q E s:=by
 walk_at " w A E s target I l i v Q hit h"
 obtain⟨o,ho,hc,hd⟩:=hit
 walk_at "c o"
 unfold letOwnedTupleGo
 cases target<;>first
  | exact wpAny_pure h
  | (cases v<;>first
    | exact wpAny_pure h
    | (refine wpAny_bind (wpAny_load ho ?_)
       rw[hc,hd]
       dsimp only
       rw[if_neg (by
         walk_at " h"
         rw[show (["enumerate", "zip", "dict_itemiterator", "dict_reverseitemiterator", "odict_iterator", "itertools.zip_longest", "itertools.pairwise"].contains "list_iterator")=false from by decide,Bool.false_and] at h
         cases h)]
       exact wpAny_pure h))
noncomputable abbrev Iy (w:World) (A:Around) (target:PySem.Expr) (I:Addr) (St:Nat→Heap→Prop):Prop :=
 ∀ i v s (Q:Unit→Shared→Prop) (E:VP),St i s.heap→Q () s→wpAny (MD w) A (letOwnedTupleGo target (.ref I) v) Q E s
theorem go_name {w:World} {A:Around} {x:Str} {p:Pos} {I:Addr} {St:Nat→Heap→Prop}:Iy w A (.Name x p) I St:=λ _ _ _ _ _ _ h=>wpAny_pure h
section
variable {w:World} {A:Around} {s:Shared} {env:Env}
theorem for_gen {target:PySem.Expr} {body orelse:List Stmt} {I:Addr} {fp wr:List Addr} {n:Nat} {P:Nat→Value→Prop} {St:Nat→Heap→Prop} {Q:FP} {E:VP}
  (W:Walks PySem.Challenge.pw_wv0051_01 w A I fp wr n P St) (go:Iy w A target I (λ i h=>St (i+1) h)) (Inv:Nat→Shared→Prop) (hSt:∀ i s,Inv i s→St i s.heap)
  (turn:∀ i s,i<n→Inv i s→∀ v h' tk,P i v→St (i+1) h'→(∀ b o,b∉wr→s.heap.get? b=some o→h'.get? b=some o)→s.toks≤tk →
   wpAny (MD w) A (assign target env v) (λ _ s₂=>wpAny (MD w) A (execs body env) (λ f s₃=>match f with|.next|.cont=>Inv (i+1) s₃|.brk=>Q .next s₃|.ret v=>Q (.ret v) s₃) (λ _ _=>False) s₂) (λ _ _=>False) {s with heap:=h',toks:=tk})
  (done:∀ s,Inv n s→∀ h' tk,(∀ b o,b∉wr→s.heap.get? b=some o→h'.get? b=some o)→s.toks≤tk→wpAny (MD w) A (execs orelse env) Q (λ _ _=>False) {s with heap:=h',toks:=tk})
  (h0:Inv 0 s) :
  codeAny (MD w) A (.forLoop target (.ref I) body orelse env) (λ r s'=>match r with|.ok f=>Q f s'|.error e=>E e s') s:=by
 walk_at "c w A s env target body orelse I fp wr n P St Q E W go Inv hSt turn done h0"
 refine codeAny_forLoop_any (λ k s'=>∃ i,Inv i s'∧i≤n∧k=n+1-i) ?_ (n+1) ⟨0,h0,Nat.zero_le _,rfl⟩
 rintro k s' ⟨i,hI,hi,rfl⟩
 walk_at "c s' i"
 by_cases hlt:i<n
 ·refine wpAny_with_toks (Nat.le_refl s'.toks) (W.item i s' _ _ hlt (hSt _ _ hI) ?_)
  walk_at " v h₁ tk₁ hP hst₁ hk₁ htk"
  refine go i v _ _ _ hst₁ ?_
  refine wpAny_mono (turn i s' hlt hI v h₁ tk₁ hP hst₁ hk₁ htk) ?_ λ _ _ e=>e.elim
  walk_at " _ s₂ h₂"
  refine wpAny_mono h₂ ?_ λ _ _ e=>e.elim
  walk_at " f s₃ h₃"
  cases f with
  | next=>exact⟨n+1-(i+1),by omega,i+1,h₃,hlt,rfl⟩
  | cont=>exact⟨n+1-(i+1),by omega,i+1,h₃,hlt,rfl⟩
  | brk=>exact h₃
  | ret v=>exact h₃
 ·have hin:i=n:=by omega
  subst hin
  refine wpAny_with_toks (Nat.le_refl s'.toks) (W.done s' _ _ (hSt _ _ hI) ?_)
  walk_at " h₁ tk₁ hk₁ htk"
  exact wpAny_mono (done s' hI h₁ tk₁ hk₁ htk) (λ f s₃ h₃=>h₃) λ _ _ e=>e.elim
noncomputable abbrev Jd (ifs:List PySem.Expr) (env:Env):Sem Bool:=forIn ifs true λ c r=>if r=true then do let ok ← isTrue c env (eval c env);pure (ForInStep.yield ok) else pure (ForInStep.yield r)
theorem comp_gen {elt target iter:PySem.Expr} {ifs:List PySem.Expr} {scope:Scope} {pos:Pos} {I:Addr} {acc:Value} {fp wr:List Addr} {n:Nat} {P:Nat→Value→Prop} {St:Nat→Heap→Prop} {R:Result→Shared→Prop}
  (W:Walks PySem.Challenge.pw_wv0051_01 w A I fp wr n P St) (go:Iy w A target I (λ i h=>St (i+1) h)) (Inv:Nat→Shared→Prop) (hSt:∀ i s,Inv i s→St i s.heap)
  (turn:∀ i s,i<n→Inv i s→∀ v h' tk,P i v→St (i+1) h'→(∀ b o,b∉wr→s.heap.get? b=some o→h'.get? b=some o)→s.toks≤tk →
   wpAny (MD w) A (assign target env v) (λ _ s₂=>wpAny (MD w) A (Jd ifs env) (λ ok s₃=>if ok=true then wpAny (MD w) A (eval elt env) (λ x s₄ =>
     wpAny (MD w) A (call (.builtin "list.append") [acc,x]) (λ _ s₅=>Inv (i+1) s₅) (λ _ _=>False) s₄) (λ _ _=>False) s₃ else Inv (i+1) s₃) (λ _ _=>False) s₂) (λ _ _=>False) {s with heap:=h',toks:=tk})
  (done:∀ s,Inv n s→∀ h' tk,(∀ b o,b∉wr→s.heap.get? b=some o→h'.get? b=some o)→s.toks≤tk→R (.ok .next) {s with heap:=h',toks:=tk})
  (h0:Inv 0 s) :
  codeAny (MD w) A (.compLoop (.ListComp elt [⟨target,iter,ifs,0⟩] scope pos) 0 (.ref I) acc env) R s:=by
 walk_at "c w A s env elt target iter ifs scope pos I acc fp wr n P St R W go Inv hSt turn done h0"
 refine codeAny_loop rfl (λ k s'=>∃ i,Inv i s'∧i≤n∧k=n+1-i) ?_ (n+1) ⟨0,h0,Nat.zero_le _,rfl⟩
 rintro k s' ⟨i,hI,hi,rfl⟩
 walk_at "c s' i"
 show wpAny _ A ((compTurn (.ListComp elt [⟨target,iter,ifs,0⟩] scope pos) 0 (.ref I) acc env).onRaise (λ x=>do noteFrame x env;theTreesLotGoes x)) _ _ s'
 refine wpAny_noted ?_
 rw[compTurn_list]
 by_cases hlt:i<n
 ·refine wpAny_bind (wpAny_standAt (wpAny_bind (wpAny_with_toks (Nat.le_refl s'.toks) (W.item i s' _ _ hlt (hSt _ _ hI) ?_))))
  walk_at " v h₁ tk₁ hP hst₁ hk₁ htk"
  dsimp only
  refine wpAny_bind (go i v _ _ _ hst₁ ?_)
  refine wpAny_bind (wpAny_mono (turn i s' hlt hI v h₁ tk₁ hP hst₁ hk₁ htk) ?_ λ _ _ e=>e.elim)
  walk_at " _ s₂ h₂"
  refine wpAny_bind (wpAny_mono h₂ ?_ λ _ _ e=>e.elim)
  walk_at " ok s₃ h₃"
  cases ok with
  | false=>exact wpAny_pure ⟨rfl,n+1-(i+1),by omega,i+1,h₃,hlt,rfl⟩
  | true =>
   exact wpAny_bind (wpAny_bind (wpAny_mono h₃ (λ x s₄ h₄=>wpAny_bind (wpAny_mono h₄ (λ _ s₅ h₅=>wpAny_pure (wpAny_pure ⟨rfl,n+1-(i+1),by omega,i+1,h₅,hlt,rfl⟩)) λ _ _ e=>e.elim)) λ _ _ e=>e.elim))
 ·have hin:i=n:=by omega
  subst hin
  refine wpAny_bind (wpAny_standAt (wpAny_bind (wpAny_with_toks (Nat.le_refl s'.toks) (W.done s' _ _ (hSt _ _ hI) ?_))))
  walk_at " h₁ tk₁ hk₁ htk"
  exact wpAny_pure (done s' hI h₁ tk₁ hk₁ htk)
end
theorem Cl.outs {w:World} {S:List Addr} {s₀ s:Shared} {L:Addr} {ref:Heap} {m:SV} {news:AO} (D:Cl w S s₀ L ref m news s) {wr:List Addr} (hwr:∀ b∈wr,s₀.heap.get? b=none∧b≠L∧@LE.le Nat _ 317 b) {h':Heap} {t:Tok} (hk:∀ b o,b∉wr→s.heap.get? b=some o→h'.get? b=some o) (ht:s.toks≤t) :
  Cl w S s₀ L h' m [] {s with heap:=h',toks:=t}:=by
 obtain⟨oL,es,ep,hL,r⟩:=D.ns
 have hL':=hk _ _ (λ h=>(hwr _ h).2.1 rfl) hL
 have hz:@LE.le Nat _ 317 h'.objs.size:=Nat.le_of_lt (Nat.lt_of_le_of_lt D.hL (Heap.lt_size hL'))
 have low:∀ b ob,@LT.lt Nat _ b 317→s.heap.get? b=some ob→h'.get? b=some ob:=λ b ob hb e=>hk b ob (λ h=>Nat.not_le.mpr hb (hwr _ h).2.2) e
 have V:Fh h':=by
  refine⟨?_,?_,hz⟩
  ·obtain⟨ps,e⟩:=D.good.vol.a
   exact⟨ps,e.at2 (λ _ e1=>low _ _ (by decide) e1) (λ _ e2=>low _ _ (by decide) e2)⟩
  ·obtain⟨ps,e⟩:=D.good.vol.b
   exact⟨ps,e.at2 (λ _ e1=>low _ _ (by decide) e1) (λ _ e2=>low _ _ (by decide) e2)⟩
 have hns:h'.Ns L m:=⟨oL,es,ep,hL',r⟩
 exact⟨hns,λ b ob h1 h2 h3 e=>e,λ p hp=>(nomatch hp),
  ⟨λ b ob h1 h2 h3 e=>hk _ _ (λ h=>by rw[(hwr _ h).1] at e;cases e) (D.st.keep b ob h1 h2 h3 e),Nat.le_of_lt (Nat.lt_of_le_of_lt D.g1 (Heap.lt_size hL')),V,D.st.calm.trans (Cx.heap ht)⟩,D.g1,D.hL,
  ⟨D.good.st.low λ b ob hb _ _ e=>low b ob hb e,V,Nat.lt_of_lt_of_le D.good.tk ht⟩,.inr ⟨m,hns⟩⟩
noncomputable def Ew (scope:Scope) (cl:List (Str×Addr)) (C:Addr) (env:Env):Env :=
 {scope:=relabel scope env,locals:=C,globals:=env.globals,cells:=cellsFrom (C+1) scope.names cl,qual:=env.qual,func:=none,code:=env.code,frame:=env.frame,builtins:=env.builtins}
noncomputable def Bm (C:Addr) (scope:Scope):List Addr:=(cellsFrom (C+1) scope.names []).map (·.2)
theorem Nf {M:Model} {A:Around} {E:VP} {s:Shared} {scope:Scope} {cl:List (Str×Addr)} {env:Env} {Q:Env→Shared→Prop}
  (hQ:Q (newEnv scope s.heap.objs.size env.globals (cellsFrom (s.heap.objs.size+1) scope.names cl) env.qual none .none (some env) builtinsNs) {s with heap:=pushCells (s.heap.push {cls:=.type "dict", data:=.dict #[]}) scope.names}) :
  wpAny M A (newFunctionEnv scope env.globals cl [] env.qual none .none (some env)) Q E s:=by
 simp only[newFunctionEnv,Option.isSome_some,if_true]
 refine wpAny_bind (wpAny_alloc ?_)
 refine wpAny_bind (wpAny_layCells _ (λ name kind cells=>by cases hkc:kind == NameKind.cell<;>simp[hkc]) _ _ _ _ ?_)
 rw[show ({s with heap:=s.heap.push {cls:=.type "dict", data:=.dict #[]}}:Shared).heap.objs.size=s.heap.objs.size+1 from Heap.size_push ..]
 refine wpAny_bind ?_
 rw[List.forIn_nil]
 exact wpAny_pure (wpAny_pure hQ)
theorem Oe (names:List (Str×NameKind)) (h:Heap):@LE.le Nat _ h.objs.size (pushCells h names).objs.size:=by
 induction names generalizing h with
 | nil=>exact Nat.le_refl _
 | cons p r ih =>
  unfold pushCells
  split
  ·exact Nat.le_trans (by rw[Heap.size_push];exact Nat.le_succ _) (ih _)
  ·exact ih h
noncomputable def Ep (h:Heap) (cs:List Addr):Prop:=∀ c∈cs,∃ v,h.IsCell c v
theorem Ep.keeps {h h':Heap} {cs:List Addr} (x:Ep h cs) (hk:∀ b o,b∈cs→h.get? b=some o→h'.get? b=some o):Ep h' cs:=λ c hc=>by
 obtain⟨v,o,e,d⟩:=x c hc
 exact⟨v,o,hk _ _ hc e,d⟩
section
variable {w:World} {A:Around} {E:VP} {env:Env}
theorem Ok {s₁ s₂:Shared} {elt target iter:PySem.Expr} {ifs:List PySem.Expr} {scope:Scope} {cl:List (Str×Addr)} {pos:Pos} {I:Addr} {fp wr:List Addr} {n:Nat} {P:Nat→Value→Prop} {St:Nat→Heap→Prop} {use:Option (Value→Sem Unit)} {Q:VP}
  (W:Walks PySem.Challenge.pw_wv0051_01 w A I fp wr n P St) (go:Iy w A target I (λ i h=>St (i+1) h)) (hn:n≤500) (G:A5 w s₁) (st2:A4 [] s₁ s₂) (hst:St 0 s₂.heap)
  (T:List Addr) (hT:∀ b∈T,@LT.lt Nat _ b s₁.heap.objs.size) (hfp:∀ b∈fp,@LT.lt Nat _ b s₂.heap.objs.size∧@LE.le Nat _ 317 b∧b∉T) (hwr:∀ b∈wr,@LE.le Nat _ s₁.heap.objs.size b)
  (X:List Addr→Nat→List Value→Shared→Prop) (hX0:∀ F s',A4 [] s₁ s'→X F 0 [] s')
  (stable:∀ F i rs z z',(∀ b o,b∉F→z.heap.get? b=some o→z'.heap.get? b=some o)→z.toks≤z'.toks→X F i rs z→X F i rs z')
  (turn:∀ F C i v z m rs,i<n→P i v→rs.length≤i→Cl w T s₁ C z.heap m [] z→(∀ b∈F,@LE.le Nat _ s₁.heap.objs.size b∧@LT.lt Nat _ b z.heap.objs.size)→X F i rs z→Ep z.heap (Bm C scope) →
   wpAny (MD w) A (assign target (Ew scope cl C env) v) (λ _ z1=>wpAny (MD w) A (Jd ifs (Ew scope cl C env)) (λ ok z2 =>
    if ok=true then wpAny (MD w) A (eval elt (Ew scope cl C env)) (λ y z3=>(∃ m',Cl w T s₁ C z3.heap m' [] z3)∧(∀ b o,b∉T→b≠C→b∉Bm C scope→@LE.le Nat _ 317 b→z.heap.get? b=some o→z3.heap.get? b=some o)∧Ep z3.heap (Bm C scope)∧X F (i+1) (rs++[y]) z3) (λ _ _=>False) z2
    else (∃ m',Cl w T s₁ C z2.heap m' [] z2)∧(∀ b o,b∉T→b≠C→b∉Bm C scope→@LE.le Nat _ 317 b→z.heap.get? b=some o→z2.heap.get? b=some o)∧Ep z2.heap (Bm C scope)∧X F (i+1) rs z2) (λ _ _=>False) z1) (λ _ _=>False) z)
  (fin:∀ F acc C s' rs k m,C∈F→acc≠C→(∀ b∈F,@LE.le Nat _ s₁.heap.objs.size b)→@LE.le Nat _ s₁.heap.objs.size acc→@LE.le Nat _ s₁.heap.objs.size C→A4 T s₁ s'→s'.heap.get? acc=some (A6 rs k)→s'.heap.Ns C m→X F n rs s' →
   compPost (MD w) A E use Q (.ref acc) C (.ok .next) s') :
  wpAny (MD w) A (newList []) (λ acc s₃=>wpAny (MD w) A (newFunctionEnv scope env.globals cl [] env.qual none .none (some env)) (λ cenv s₄ =>
   codeAny (MD w) A (.compStart (.ListComp elt [⟨target,iter,ifs,0⟩] scope pos) 0 (.ref I) acc {cenv with scope:=relabel scope env}) (compPost (MD w) A E use Q acc cenv.locals) s₄) E s₃) E s₂:=by
 walk_at "c w A E env s₁ s₂ elt target iter ifs scope cl pos I fp wr n P St use Q W go hn G st2 hst T hT hfp hwr X hX0 stable turn fin"
 refine wpAny_newObj_type (Nf ?_)
 dsimp only
 generalize hH2:s₂.heap.push {cls:=.type "list", dict:=none,data:=.seq ([]:List Value).toArray}=H2
 have hC:H2.objs.size=s₂.heap.objs.size+1:=by rw[← hH2,Heap.size_push]
 generalize hH3:pushCells (H2.push {cls:=.type "dict", data:=.dict #[]}) scope.names=H3
 have up:∀ b o,s₂.heap.get? b=some o→H3.get? b=some o:=λ b o e=>by
  rw[← hH3];exact pushCells_keeps _ _ b o (Heap.get?_push_of_some _ (hH2 ▸ Heap.get?_push_of_some _ e))
 have hz3:@LE.le Nat _ s₂.heap.objs.size H3.objs.size:=by
  have:=Oe scope.names (H2.push {cls:=.type "dict", data:=.dict #[]})
  rw[hH3,Heap.size_push,hC] at this
  exact Nat.le_trans (Nat.le_add_right _ 2) this
 have ok:=cellsFrom_ok scope.names (H2.push {cls:=.type "dict", data:=.dict #[]}) (H2.objs.size+1) [] ⟨λ _ _ hm=>(nomatch hm),List.Pairwise.nil⟩ (by rw[Heap.size_push];exact Nat.le_refl _)
 rw[Heap.size_push,hH3] at ok
 have hsz12:=st2.size
 have h317:@LE.le Nat _ 317 s₁.heap.objs.size:=G.vol.c
 have hcell:∀ c∈Bm H2.objs.size scope,H3.IsCell c none∧@LE.le Nat _ (H2.objs.size+1) c:=λ c hc=>by
  obtain⟨⟨x,c'⟩,hm,rfl⟩:=List.mem_map.mp hc
  walk_at "c x c'"
  exact ok.empty x c' hm
 have hacc:H3.get? s₂.heap.objs.size=some (A6 [] 0):=by
  rw[← hH3];exact pushCells_keeps _ _ _ _ (Heap.get?_push_of_some _ (hH2 ▸ Heap.get?_push_size _ rfl))
 have hns:H3.Ns H2.objs.size (λ _=>none):=by rw[← hH3];exact (Heap.Ns.new H2 (.type "dict")).keeps (pushCells_keeps _ _)
 have G2:A5 w s₂:=G.step st2 (λ _ h=>nomatch h)
 have hz13:@LE.le Nat _ s₁.heap.objs.size H3.objs.size:=Nat.le_trans hsz12 hz3
 have G4:A5 w {s₂ with heap:=H3}:=⟨G2.st.keeps up,G2.vol.keeps hz3 up,G2.tk⟩
 have D0:Cl w T s₁ H2.objs.size H3 (λ _=>none) [] {s₂ with heap:=H3}:=by
  refine⟨hns,λ _ _ _ _ _ e=>e,λ _ h=>(nomatch h),⟨λ b o _ h1 h2 e=>up b o (st2.keep b o (λ h=>nomatch h) h1 h2 e),hz13,G4.vol,st2.calm.trans (Cx.heap (Nat.le_refl _))⟩,?_,?_,G4,.inr ⟨_,hns⟩⟩
  ·rw[hC];exact Nat.le_succ_of_le hsz12
  ·rw[hC];exact Nat.le_trans h317 (Nat.le_succ_of_le hsz12)
 have st24:A4 [] s₁ {s₂ with heap:=H3}:=st2.trans (T:=[]) ⟨λ b o _ _ _ e=>up b o e,hz3,G4.vol,Cx.heap (Nat.le_refl _)⟩ λ _ h=>(nomatch h)
 generalize hac:s₂.heap.objs.size=acc at *
 generalize hCC:H2.objs.size=C at *
 have haccC:acc≠C:=by rw[hC];exact Nat.ne_of_lt (Nat.lt_succ_self _)
 have hClt:@LT.lt Nat _ C H3.objs.size:=hns.lt
 have haccF:@LE.le Nat _ s₁.heap.objs.size acc:=hsz12
 have hCF:@LE.le Nat _ s₁.heap.objs.size C:=by rw[hC];exact Nat.le_succ_of_le hsz12
 refine letI F:List Addr:=acc::C::(wr++Bm C scope);?_
 have hFlo:∀ b∈F,@LE.le Nat _ s₁.heap.objs.size b:=λ b hb=>by
  rcases List.mem_cons.mp hb with rfl|hb
  ·exact haccF
  rcases List.mem_cons.mp hb with rfl|hb
  ·exact hCF
  rcases List.mem_append.mp hb with hb|hb
  ·exact hwr b hb
  ·exact Nat.le_trans hCF (Nat.le_trans (Nat.le_succ _) (hcell b hb).2)
 have hwrlt:∀ b∈wr,@LT.lt Nat _ b acc:=λ b hb=>(hfp b (W.sub b hb)).1
 have hcge:∀ c∈Bm C scope,@LT.lt Nat _ C c:=λ c hc=>(hcell c hc).2
 have haClt:@LT.lt Nat _ acc C:=by rw[hC];exact Nat.lt_succ_self _
 have hFhi:∀ (h:Heap),@LT.lt Nat _ C h.objs.size→Ep h (Bm C scope)→∀ b∈F,@LT.lt Nat _ b h.objs.size:=λ h hc hcs b hb=>by
  rcases List.mem_cons.mp hb with rfl|hb
  ·exact Nat.lt_trans haClt hc
  rcases List.mem_cons.mp hb with rfl|hb
  ·exact hc
  rcases List.mem_append.mp hb with hb|hb
  ·exact Nat.lt_trans (Nat.lt_trans (hwrlt b hb) haClt) hc
  ·obtain⟨_,e⟩:=hcs b hb;exact e.lt
 have get1:∀ b,@LE.le Nat _ s₁.heap.objs.size b→s₁.heap.get? b=none:=λ b h=>Bc h
 have hCwr:C∉wr:=λ h=>absurd (hwrlt C h) (by rw[hC];exact Nat.not_lt.mpr (Nat.le_succ _))
 have haccwr:acc∉wr:=λ h=>absurd (hwrlt acc h) (Nat.lt_irrefl _)
 have haccT:acc∉T:=λ h=>absurd (hT acc h) (Nat.not_lt.mpr haccF)
 have hacccell:acc∉Bm C scope:=λ h=>absurd (hcge acc h) (by rw[hC];exact Nat.not_lt.mpr (Nat.le_succ _))
 have h3F:∀ b∈F,@LE.le Nat _ 317 b:=λ b hb=>Nat.le_trans h317 (hFlo b hb)
 have hfpC:∀ b∈fp,b≠C∧b≠acc∧b∉Bm C scope:=λ b hb=>by
  have h:=(hfp b hb).1
  refine⟨?_,Nat.ne_of_lt h,?_⟩
  ·walk_at " e"
   rw[e,hC] at h;exact absurd h (Nat.not_lt.mpr (Nat.le_succ _))
  ·walk_at " hc"
   exact absurd (Nat.lt_trans (hcge b hc) h) (by rw[hC];exact Nat.not_lt.mpr (Nat.le_succ _))
 have loop:codeAny (MD w) A (.compLoop (.ListComp elt [⟨target,iter,ifs,0⟩] scope pos) 0 (.ref I) (.ref acc) (Ew scope cl C env)) (compPost (MD w) A E use Q (.ref acc) C) {s₂ with heap:=H3}:=by
  refine comp_gen W go (λ i z=>∃ m rs k,Cl w T s₁ C z.heap m [] z∧St i z.heap∧z.heap.get? acc=some (A6 rs k)∧rs.length≤i∧X F i rs z∧Ep z.heap (Bm C scope))
   (λ i z h=>by obtain⟨_,_,_,_,h,_⟩:=h;exact h) ?_ ?_ ?_
  ·rintro i z hi ⟨m,rs,k,D,hstz,ha,hlen,hX,hcs⟩ v h' tk hP hst' hk ht
   walk_at "c i z hi m rs k D hstz ha hlen hX hcs v h' tk"
   have D1:=D.outs (wr:=wr) (λ b hb=>⟨get1 b (hwr b hb),λ e=>hCwr (e ▸ hb),h3F b (List.mem_cons_of_mem _ (List.mem_cons_of_mem _ (List.mem_append_left _ hb)))⟩) hk ht
   have hX1:X F i rs {z with heap:=h',toks:=tk}:=stable F i rs z _ (λ b o hb e=>hk b o (λ h=>hb (List.mem_cons_of_mem _ (List.mem_cons_of_mem _ (List.mem_append_left _ h)))) e) ht hX
   have hcs1:Ep h' (Bm C scope):=hcs.keeps λ b o hb e=>hk b o (λ h=>absurd (Nat.lt_trans (hcge b hb) (hwrlt b h)) (by rw[hC];exact Nat.not_lt.mpr (Nat.le_succ _))) e
   have ha1:h'.get? acc=some (A6 rs k):=hk _ _ haccwr ha
   have hszz:=hFhi h' D1.ns.lt hcs1
   refine wpAny_mono (turn F C i v _ m rs hi hP hlen D1 (λ b hb=>⟨hFlo b hb,hszz b hb⟩) hX1 hcs1) ?_ λ _ _ e=>e
   walk_at " _ z1 hz1"
   refine wpAny_mono hz1 ?_ λ _ _ e=>e
   walk_at " okv z2 hz2"
   have fr:∀ z3:Shared,(∀ b o,b∉T→b≠C→b∉Bm C scope→@LE.le Nat _ 317 b→h'.get? b=some o→z3.heap.get? b=some o)→St (i+1) z3.heap∧z3.heap.get? acc=some (A6 rs k):=λ z3 hf =>
    ⟨W.frame _ _ _ hst' λ b hb o e=>hf b o (hfp b hb).2.2 (hfpC b hb).1 (hfpC b hb).2.2 (hfp b hb).2.1 e,hf _ _ haccT haccC hacccell (h3F _ (.head _)) ha1⟩
   cases okv with
   | false =>
    simp only[Bool.false_eq_true,if_false] at hz2 ⊢
    obtain⟨⟨m',D2⟩,hf,hcs2,hX2⟩:=hz2
    walk_at "c m'"
    exact⟨m',rs,k,D2,(fr z2 hf).1,(fr z2 hf).2,Nat.le_succ_of_le hlen,hX2,hcs2⟩
   | true =>
    simp only[if_true] at hz2 ⊢
    refine wpAny_mono hz2 ?_ λ _ _ e=>e
    walk_at " y z3 hz3'"
    obtain⟨⟨m',D3⟩,hf,hcs3,hX3⟩:=hz3'
    walk_at "c m'"
    refine Fe (fr z3 hf).2 (by lia) ?_
    walk_at " h5 hs5 hg5"
    have D5:=D3.outs (wr:=[acc]) (h':=h5) (t:=z3.toks) (λ b hb=>by rw[List.mem_singleton.mp hb];exact⟨get1 acc haccF,haccC,h3F _ (.head _)⟩) (λ b o hb e=>(hs5.2 b λ q=>hb (List.mem_singleton.mpr q)).trans e) (Nat.le_refl _)
    have k5:∀ b o,b≠acc→z3.heap.get? b=some o→h5.get? b=some o:=λ b o hb e=>(hs5.2 b hb).trans e
    refine⟨m',rs++[y],k+1,D5,W.frame _ _ _ (fr z3 hf).1 λ b hb o e=>k5 b o (hfpC b hb).2.1 e,hg5,by rw[List.length_append,List.length_singleton];exact Nat.lt_succ_of_le (by assumption),?_,hcs3.keeps λ b o hb e=>k5 b o (λ q=>hacccell (q ▸ hb)) e⟩
    exact stable F _ _ z3 _ (λ b o hb e=>k5 b o (λ q=>hb (q ▸ List.mem_cons_self ..)) e) (Nat.le_refl _) hX3
  ·rintro z ⟨m,rs,k,D,hstz,ha,hlen,hX,hcs⟩ h' tk hk ht
   walk_at "c z m rs k D hstz ha hlen hX hcs h' tk"
   have D1:=D.outs (wr:=wr) (λ b hb=>⟨get1 b (hwr b hb),λ e=>hCwr (e ▸ hb),h3F b (List.mem_cons_of_mem _ (List.mem_cons_of_mem _ (List.mem_append_left _ hb)))⟩) hk ht
   have hX1:X F n rs {z with heap:=h',toks:=tk}:=stable F n rs z _ (λ b o hb e=>hk b o (λ h=>hb (List.mem_cons_of_mem _ (List.mem_cons_of_mem _ (List.mem_append_left _ h)))) e) ht hX
   exact fin F acc C _ rs k m (List.mem_cons_of_mem _ (List.mem_cons_self ..)) haccC hFlo haccF hCF D1.st (hk _ _ haccwr ha) D1.ns hX1
  ·exact⟨_,[],0,D0,W.frame _ _ _ hst λ b _ o e=>up b o e,hacc,Nat.le_refl _,hX0 _ _ st24,λ c hc=>⟨none,(hcell c hc).1⟩⟩
 exact codeAny_compStart_list loop (W.self 0 _ _ _ (W.frame _ _ _ hst λ b _ o e=>up b o e) loop)
end
noncomputable def L7 (w:World) (A:Around) (env:Env) (elt target iter:PySem.Expr) (ifs:List PySem.Expr) (scope:Scope) (pos:Pos) (cl:List (Str×Addr)) (use:Option (Value→Sem Unit)) (E:VP) (Q:VP) (xv:Value) (s₁:Shared):Prop :=
 wpAny (MD w) A (pyIter xv) (λ it s₂=>wpAny (MD w) A (newList []) (λ acc s₃=>wpAny (MD w) A (newFunctionEnv scope env.globals cl [] env.qual none .none (some env)) (λ cenv s₄ =>
   codeAny (MD w) A (.compStart (.ListComp elt [⟨target,iter,ifs,0⟩] scope pos) 0 it acc {cenv with scope:=relabel scope env}) (compPost (MD w) A E use Q acc cenv.locals) s₄) E s₃) E s₂) E s₁
theorem A4.freshBut {T:List Addr} {s₁ s':Shared} {C:Addr} {h':Heap} (st:A4 T s₁ s') (h317:@LE.le Nat _ 317 s₁.heap.objs.size) (hC:@LE.le Nat _ s₁.heap.objs.size C) (hs:Heap.SameBut C s'.heap h'):A4 T s₁ {s' with heap:=h'} :=
 ⟨λ b o h1 h2 h3 e=>(hs.2 b (λ q=>absurd (Heap.lt_size e) (Nat.not_lt.mpr (q ▸ hC)))).trans (st.keep b o h1 h2 h3 e),by rw[hs.1];exact st.size,st.vol.sameBut hs (Nat.le_trans h317 hC),⟨st.calm.os,st.calm.size,st.calm.gens,st.calm.bare,st.calm.toks⟩⟩
section
variable {w:World} {A:Around} {E:VP} {env:Env} {s:Shared}
theorem Fn {elt target iter:PySem.Expr} {ifs:List PySem.Expr} {scope:Scope} {pos:Pos} {Q:VP} (cl:List (Str×Addr))
  (hclos:closureFor scope env=pure cl) (hkind:scope.kind=.function) (hnames:∀ y∈scope.names,y.2=.local→scope.names.lookup y.1=some .local)
  (h:wpAny (MD w) A (eval iter env) (L7 w A env elt target iter ifs scope pos cl none E Q) E s)
  (hs:∀ x,foldedSetIterable iter env x=pure x:=by intro _;rfl) :
  wpAny (MD w) A (eval (.ListComp elt [⟨target,iter,ifs,0⟩] scope pos) env) Q E s:=by
 rw[eval_ListComp]
 exact wpAny_comprehension_free (use:=none) rfl hs hclos hkind hnames (wpAny_mono h (λ xv s₁ h₁=>h₁) λ _ _ e=>e)
theorem Kn {elt target iter:PySem.Expr} {ifs:List PySem.Expr} {scope:Scope} {pos spos py:Pos} {y:Str} {Q:FP} (cl:List (Str×Addr))
  (hsw:swapsWith (.ListComp elt [⟨target,iter,ifs,0⟩] scope pos) (some (.Name y py)) spos.line env=pure true)
  (hclos:closureFor scope env=pure cl) (hkind:scope.kind=.function) (hnames:∀ y∈scope.names,y.2=.local→scope.names.lookup y.1=some .local)
  (h:wpAny (MD w) A (eval iter env) (L7 w A env elt target iter ifs scope pos cl (some (assign (.Name y py) env)) E (λ _ s'=>Q .next s')) E s)
  (hs:∀ x,foldedSetIterable iter env x=pure x:=by intro _;rfl) :
  wpAny (MD w) A (exec (.Assign [.Name y py] (.ListComp elt [⟨target,iter,ifs,0⟩] scope pos) spos) env) Q E s:=by
 rw[exec_Assign_Name_used _ _ _ _ hsw]
 refine wpAny_bind (wpAny_standAt (wpAny_bind ?_))
 show wpAny _ A (do let _ ← comprehension (.ListComp elt [⟨target,iter,ifs,0⟩] scope pos) scope env _ (newList []) false (eval iter env) (some (assign (.Name y py) env))) _ _ s
 refine wpAny_bind (wpAny_mono (wpAny_comprehension_free (use:=some (assign (.Name y py) env)) (Q:=λ _ s'=>Q .next s') rfl hs hclos hkind hnames
  (wpAny_mono h (λ xv s₁ h₁=>h₁) λ _ _ e=>e)) (λ _ s' hq=>wpAny_pure (wpAny_pure hq)) λ _ _ e=>e)
theorem Jn {s₁:Shared} {elt target iter:PySem.Expr} {ifs:List PySem.Expr} {scope:Scope} {cl:List (Str×Addr)} {pos:Pos} {l:Addr} {vs:List Value} {n:Nat} {use:Option (Value→Sem Unit)} {Q:VP}
  (hh:A.handled=none) (G:A5 w s₁) (hl:s₁.heap.get? l=some (A6 vs n)) (hl3:@LE.le Nat _ 317 l) (hn:vs.length≤500)
  (T:List Addr) (hT:∀ b∈T,@LT.lt Nat _ b s₁.heap.objs.size∧b≠l)
  (X:List Addr→Nat→List Value→Shared→Prop) (hX0:∀ F s',A4 [] s₁ s'→X F 0 [] s')
  (stable:∀ F i rs z z',(∀ b o,b∉F→z.heap.get? b=some o→z'.heap.get? b=some o)→z.toks≤z'.toks→X F i rs z→X F i rs z')
  (turn:∀ F C i v z m rs,vs[i]?=some v→rs.length≤i→Cl w T s₁ C z.heap m [] z→(∀ b∈F,@LE.le Nat _ s₁.heap.objs.size b∧@LT.lt Nat _ b z.heap.objs.size)→X F i rs z→Ep z.heap (Bm C scope) →
   wpAny (MD w) A (assign target (Ew scope cl C env) v) (λ _ z1=>wpAny (MD w) A (Jd ifs (Ew scope cl C env)) (λ ok z2 =>
    if ok=true then wpAny (MD w) A (eval elt (Ew scope cl C env)) (λ y z3=>(∃ m',Cl w T s₁ C z3.heap m' [] z3)∧(∀ b o,b∉T→b≠C→b∉Bm C scope→@LE.le Nat _ 317 b→z.heap.get? b=some o→z3.heap.get? b=some o)∧Ep z3.heap (Bm C scope)∧X F (i+1) (rs++[y]) z3) (λ _ _=>False) z2
    else (∃ m',Cl w T s₁ C z2.heap m' [] z2)∧(∀ b o,b∉T→b≠C→b∉Bm C scope→@LE.le Nat _ 317 b→z.heap.get? b=some o→z2.heap.get? b=some o)∧Ep z2.heap (Bm C scope)∧X F (i+1) rs z2) (λ _ _=>False) z1) (λ _ _=>False) z)
  (fin:∀ F acc C s' rs k m,C∈F→acc≠C→(∀ b∈F,@LE.le Nat _ s₁.heap.objs.size b)→@LE.le Nat _ s₁.heap.objs.size acc→@LE.le Nat _ s₁.heap.objs.size C→A4 T s₁ s'→s'.heap.get? acc=some (A6 rs k)→s'.heap.Ns C m→X F vs.length rs s' →
   compPost (MD w) A E use Q (.ref acc) C (.ok .next) s'):L7 w A env elt target iter ifs scope pos cl use E Q (.ref l) s₁:=by
 have hlI:l≠s₁.heap.objs.size:=Nat.ne_of_lt (Heap.lt_size hl)
 refine wpAny_pyIter_list (Al hl) ?_
 have up:∀ b o,s₁.heap.get? b=some o→(s₁.heap.push {cls:=.type "list_iterator", data:=.fields #[.ref l,.int 0 0]}).get? b=some o:=λ b o e=>Heap.get?_push_of_some _ e
 have hz:@LE.le Nat _ s₁.heap.objs.size (s₁.heap.push {cls:=.type "list_iterator", data:=.fields #[.ref l,.int 0 0]}).objs.size:=by rw[Heap.size_push];exact Nat.le_succ _
 have hsz:vs.toArray.size=vs.length:=by simp
 refine Ok (s₁:=s₁) (Walks.list hh s₁.heap.objs.size l hlI vs.toArray) (λ i v s Q E st h=>J7 st.1 h) (by rw[hsz];exact hn) G ⟨λ b o _ _ _ e=>up b o e,hz,G.vol.keeps hz up,Cx.heap (Nat.le_refl _)⟩
  ⟨⟨_,Heap.get?_push_size _ rfl,rfl,rfl⟩,(Al hl).push _⟩ T (λ b hb=>(hT b hb).1) ?_ ?_ X hX0 stable (λ F C i v z m rs _ hP=>turn F C i v z m rs (by simpa using hP)) (by rw[hsz];exact fin)
 ·intro b hb
  have hsz':(s₁.heap.push {cls:=.type "list_iterator", data:=.fields #[.ref l,.int 0 0]}).objs.size=s₁.heap.objs.size+1:=Heap.size_push ..
  rcases List.mem_cons.mp hb with rfl|hb
  ·exact⟨by show _<(s₁.heap.push _).objs.size;rw[hsz'];exact Nat.lt_succ_self _,G.vol.c,λ h=>absurd (hT _ h).1 (Nat.lt_irrefl _)⟩
  ·rw[List.mem_singleton.mp hb]
   exact⟨by show _<(s₁.heap.push _).objs.size;rw[hsz'];exact Nat.lt_succ_of_lt (Heap.lt_size hl),hl3,λ h=>(hT _ h).2 rfl⟩
 ·intro b hb
  rw[List.mem_singleton.mp hb];exact Nat.le_refl _
theorem G0 {s₁:Shared} {elt target iter:PySem.Expr} {ifs:List PySem.Expr} {scope:Scope} {cl:List (Str×Addr)} {pos:Pos} {l:Addr} {vs:List Value} {n:Nat} {Q:VP}
  (hh:A.handled=none) (G:A5 w s₁) (hl:s₁.heap.get? l=some (A6 vs n)) (hl3:@LE.le Nat _ 317 l) (hn:vs.length≤500) (hcs:∀ C,Bm C scope=[])
  (X:Nat→List Value→Tok→Prop) (hX0:∀ t,X 0 [] t) (stable:∀ i rs t t',t≤t'→X i rs t→X i rs t')
  (turn:∀ C i v z m rs,vs[i]?=some v→rs.length≤i→Cl w [] s₁ C z.heap m [] z→X i rs z.toks →
   wpAny (MD w) A (assign target (Ew scope cl C env) v) (λ _ z1=>wpAny (MD w) A (Jd ifs (Ew scope cl C env)) (λ ok z2 =>
    if ok=true then wpAny (MD w) A (eval elt (Ew scope cl C env)) (λ y z3=>(∃ m' news,Cl w [] s₁ C z.heap m' news z3)∧X (i+1) (rs++[y]) z3.toks) (λ _ _=>False) z2
    else (∃ m' news,Cl w [] s₁ C z.heap m' news z2)∧X (i+1) rs z2.toks) (λ _ _=>False) z1) (λ _ _=>False) z)
  (fin:∀ acc s' rs k,@LE.le Nat _ s₁.heap.objs.size acc→A4 [] s₁ s'→s'.heap.get? acc=some (A6 rs k)→X vs.length rs s'.toks→Q (.ref acc) s') :
  L7 w A env elt target iter ifs scope pos cl none E Q (.ref l) s₁:=by
 refine Jn hh G hl hl3 hn [] (λ _ h=>nomatch h) (λ _ i rs z=>X i rs z.toks) (λ _ s' _=>hX0 _) (λ _ i rs z z' _ ht h=>stable i rs _ _ ht h) ?_ ?_
 ·intro F C i v z m rs hv hlen D hF hX hc
  refine wpAny_mono (turn C i v z m rs hv hlen D hX) (λ _ z1 h1=>wpAny_mono h1 (λ ok z2 h2=>?_) λ _ _ e=>e) λ _ _ e=>e
  have nc:∀ h:Heap,Ep h (Bm C scope):=λ h c hm=>by rw[hcs C] at hm;cases hm
  have fr:∀ {z3:Shared} {m'} {news},Cl w [] s₁ C z.heap m' news z3→∀ b o,b∉([]:List Addr)→b≠C→b∉Bm C scope→@LE.le Nat _ 317 b→z.heap.get? b=some o→z3.heap.get? b=some o:=λ D3 b o _ hb _ h3 e=>D3.old e h3 hb
  cases ok with
  | false =>
   simp only[Bool.false_eq_true,if_false] at h2 ⊢
   obtain⟨⟨m',news,D2⟩,hx⟩:=h2
   exact⟨⟨m',D2.rebase⟩,fr D2,nc _,hx⟩
  | true =>
   simp only[if_true] at h2 ⊢
   refine wpAny_mono h2 (λ y z3 h3=>?_) λ _ _ e=>e
   obtain⟨⟨m',news,D3⟩,hx⟩:=h3
   exact⟨⟨m',D3.rebase⟩,fr D3,nc _,hx⟩
 ·intro F acc C s' rs k m hCF hac hF ha hC st hg hns hX
  refine⟨m,hns,λ h' hs=>fin acc _ rs k ha (st.freshBut G.vol.c hC hs) ((hs.2 acc hac).trans hg) hX⟩
end
section
variable {w:World} {S:List Addr} {s₀:Shared} {L:Addr} {ref:Heap} {m:SV} {news:AO} {s:Shared} {A:Around} {E:VP} {l:Addr} {vs:List Value} {n:Nat} {ns:List Int} {Q:VP}
theorem n_sum (D:Cl w S s₀ L ref m news s) (hh:A.handled=none) (hl:s.heap.get? l=some (A6 vs n)) (hi:IntsAre vs ns) (h:∀ s' t,Cl w S s₀ L ref m news s'→Q (.int ns.sum t) s'):wpAny (MD w) A (call (.builtin "sum") [.ref l]) Q E s:=by
 obtain⟨xs,hx⟩:=hi.allInts.items
 have hl':s.heap.IsList l (intItems xs):=hx ▸ Al hl
 refine wpAny_with_toks (Nat.le_refl s.toks) (sum_intListG hh hl' λ h' tk t' hk ht=>?_)
 have e1:ns=xs.toList.map (·.1):=by
  rw[← nums_intItems,← hx]
  exact (show numsOf vs.toArray.toList=ns from hi.numsOf).symm
 have e2:preSum (numAt xs) xs.size=ns.sum:=by
  rw[preSum_eq,List.take_of_length_le (by simp),e1]
 rw[e2]
 exact h _ _ (D.grow hk ht)
theorem n_max (D:Cl w S s₀ L ref m news s) (hh:A.handled=none) (hl:s.heap.get? l=some (A6 vs n)) (hi:IntsAre vs ns) (hne:ns≠[]) (h:∀ s' M t,Cl w S s₀ L ref m news s'→M∈ns→(∀ a∈ns,a≤M)→Q (.int M t) s'):wpAny (MD w) A (call (.builtin "max") [.ref l]) Q E s:=by
 obtain⟨xs,hx⟩:=hi.allInts.items
 have hl':s.heap.IsList l (intItems xs):=hx ▸ Al hl
 have e1:ns=xs.toList.map (·.1):=by
  rw[← nums_intItems,← hx]
  exact (show numsOf vs.toArray.toList=ns from hi.numsOf).symm
 have hsz:0<xs.size:=by
  rcases Nat.eq_zero_or_pos xs.size with q|q
  ·exact absurd (by rw[e1,List.eq_nil_of_length_eq_zero (by simpa using q:xs.toList.length=0)];rfl) hne
  ·exact q
 refine wpAny_with_toks (Nat.le_refl s.toks) (max_intList hh hl' hsz λ v h' tk hv hk ht=>?_)
 obtain⟨t,rfl⟩:=intItems_at hv
 obtain⟨h1,h2⟩:=argBest_gt (numAt xs) (xs.size-1)
 refine h _ _ t (D.grow hk ht) ?_ λ a ha=>?_
 ·rw[numAt_eq,← e1];exact getD_mem (by rw[e1,List.length_map,Array.length_toList];lia)
 ·obtain⟨j,hj,rfl⟩:=mem_getD ha
  rw[e1,List.length_map,Array.length_toList] at hj
  rw[e1,← numAt_eq];exact h2 j (by lia)
theorem Qh (D:Cl w S s₀ L ref m news s) (hl:s.heap.get? l=some (A6 vs n)) (hi:IntsAre vs ns) (h64:vs.length<64)
  (h:∀ s' a vs' ns' e,Cl w S s₀ L ref m ((a,A6 vs' e)::news) s'→s.heap.get? a=none→@LE.le Nat _ 317 a→IntsAre vs' ns'→ns'.Perm ns→ns'.Pairwise (·≤·)→Q (.ref a) s'):wpAny (MD w) A (call (.builtin "sorted") [.ref l]) Q E s:=by
 refine sorted_ints (Al hl) hi h64 λ out ns' a1 a2 a3=>?_
 obtain⟨e,he⟩:=sortedAll_at s.heap vs out
 have D1:=D.grow (h':=sortedAll s.heap vs out) (t:=s.toks) (λ _ _=>sortedAll_old) (Nat.le_refl _)
 have ha:@LE.le Nat _ 317 (s.heap.objs.size+1):=Nat.le_succ_of_le D.good.vol.c
 refine h _ _ out.toList ns' e ⟨D1.ns,D1.keep,λ p hp=>?_,D1.st,D1.g1,D1.hL,D1.good,D1.rns⟩ (Bc (Nat.le_succ _)) ha a1 a2 a3
 rcases List.mem_cons.mp hp with rfl|hp
 ·refine⟨he,Nat.ne_of_gt (Nat.lt_succ_of_lt D.ns.lt),ha⟩
 ·exact D1.nw p hp
theorem n_len (D:Cl w S s₀ L ref m news s) (hl:s.heap.get? l=some (A6 vs n)) (hsz:vs.length≤1000) (h:∀ s' t,Cl w S s₀ L ref m news s'→Q (.int (vs.length:Int) t) s'):wpAny (MD w) A (call (.builtin "len") [.ref l]) Q E s:=by
 have e:vs.toArray.size=vs.length:=by simp
 refine call_len_list (Al hl) (by rw[e];lia) ?_
 rw[e];exact h _ _ (D.toks 2)
theorem Mh {l2:Addr} {vs2:List Value} {n2:Nat} {ns2:List Int} (hl:s.heap.get? l=some (A6 vs n)) (hl2:s.heap.get? l2=some (A6 vs2 n2)) (hi:IntsAre vs ns) (hi2:IntsAre vs2 ns2) (hu:A.units+64<cLine) (h:Q (.bool (!decide (ns=ns2))) s) :
  wpAny (MD w) A (compareOp .NotEq (.ref l) (.ref l2)) Q E s:=ke_ne_ints (Al hl) (Al hl2) hi hi2 hu h
theorem Lu {a b:List Int} (p:a.Perm b) (ha:a.Pairwise (·≤·)) (hb:b.Pairwise (·≤·)):a=b :=
 p.eq_of_pairwise (λ _ _ _ _ h1 h2=>Int.le_antisymm h1 h2) ha hb
theorem A3.u64 {A:Around} {n:Nat} (R:A3 A (n+5)):A.units+64<cLine:=by have:=R.un;show A.units+64<9900;lia
end
noncomputable abbrev Hy (ks:List (Int×Tok)):List Value:=ks.map λ q=>Value.int q.1 q.2
theorem intsAre (ks:List (Int×Tok)):IntsAre (Hy ks) (ks.map (·.1)):=by
 induction ks with
 | nil=>exact .nil
 | cons p r ih=>exact .cons p.1 p.2 ih
theorem ints_ex {vs:List Value} {ns:List Int} (H:IntsAre vs ns):∃ ks:List (Int×Tok),vs=Hy ks∧ns=ks.map (·.1):=by
 induction H with
 | nil=>exact⟨[],rfl,rfl⟩
 | cons i t h ih =>
  obtain⟨ks,rfl,rfl⟩:=ih
  exact⟨(i,t)::ks,rfl,rfl⟩
@[reducible] def cfenv (fd:FuncData) (f L:Addr):Env :=
 {scope:=fd.scope,locals:=L,globals:=fd.globals,cells:=cellsFrom (L+1) fd.scope.names [],qual:=fd.qualname ++ ".<locals>.", func:=some f,code:=fd.code,frame:=some L,builtins:=fd.builtins}
structure CDef (w:World) (f:Addr) (fd:FuncData) (body:List Stmt):Prop where
 at_:(K w.params).lookup f=some ⟨.type "function", none,.func fd,#[]⟩
 body:fd.body=.stmts body
 code:codeIn (K w.params) fd.code fd.qualname=true
 clo:fd.closure=[]
 kind:fd.scope.kind=.function
 co:fd.scope.isCoroutine=false
 gen:fd.scope.isGenerator=false
theorem Rc (w:World):CDef w 306 Jp S4:=⟨by kernel_rfl,by kernel_rfl,by kernel_rfl,by kernel_rfl,by kernel_rfl,by kernel_rfl,by kernel_rfl⟩
theorem Pc (w:World):CDef w 311 Gw Pn:=⟨by kernel_rfl,by kernel_rfl,by kernel_rfl,by kernel_rfl,by kernel_rfl,by kernel_rfl,by kernel_rfl⟩
theorem O2 (w:World):CDef w 316 E4 Bb:=⟨by kernel_rfl,by kernel_rfl,by kernel_rfl,by kernel_rfl,by kernel_rfl,by kernel_rfl,by kernel_rfl⟩
theorem codeFnC {w:World} {A:Around} {s:Shared} {f:Addr} {pos:List Value} {kw:List (Str×Value)} {Q:VP} {E:VP} {n:Nat} {fd:FuncData} {body:List Stmt} {binds:List (Str×Value)}
  (S:List Addr) (d:CDef w f fd body) (G:A5 w s) (R:A3 A (n+1)) (hb:peek (K w.params) ⟨PySem.Challenge.pw_wv0051_01,w.params⟩ (bindArgs fd ⟨pos,kw⟩)=some binds)
  (hkind:(binds.all λ y=>fd.scope.names.lookup y.1 == some .local || fd.scope.names.lookup y.1 == some .cell)=true)
  (h:∀ L s₁,Cl w S s L s.heap (bindL (cfenv fd f L).kindOf binds λ _=>none) [] s₁ →
   (∀ x c,(cfenv fd f L).cells.lookup x=some c→s₁.heap.IsCell c (bindC (cfenv fd f L).kindOf binds (λ _=>none) x)∧@LT.lt Nat _ L c) →
   wpAny (MD w) (A.deeper (cfenv fd f L)) (execs body (cfenv fd f L)) (λ fl s'=>Q (Ej fl) s') (λ _ _=>False) s₁) :
  codeAny (MD w) A (.call (.ref f) ⟨pos,kw⟩) (λ r s'=>match r with|.ok (.ret v)=>Q v s'|.ok _=>False|.error e=>E e s') s:=by
 refine codeAny_call_function R.depth (G.st.k _ _ d.at_) rfl d.co d.gen d.body (codeRec_of G.st.k d.code) ?_
 refine Looks.of_peek (M:=MD w) G.st.k hb A.in1 _ _ s (λ _ _ e=>e) ?_
 rw[d.clo]
 refine wpAny_with_toks (Nat.le_refl s.toks) (wpAny_newFunctionEnv_cells d.kind (kindsX hkind _) (λ env he s₁ x ht=>?_))
 subst he
 have hc:newEnv fd.scope s.heap.objs.size fd.globals (cellsFrom (s.heap.objs.size+1) fd.scope.names []) (fd.qualname ++ ".<locals>.") (some f) fd.code none fd.builtins=cfenv fd f s.heap.objs.size:=rfl
 rw[hc] at x ⊢
 obtain⟨⟨⟨h₁,tk,rfl⟩,hns,up,_⟩,hcell,hap,hab⟩:=x
 have hz:@LE.le Nat _ s.heap.objs.size h₁.objs.size:=Nat.le_of_lt hns.lt
 refine⟨G.st.nolimit.keeps up,?_⟩
 refine codeAny_func (wpAny_mono (h s.heap.objs.size _ ?_ ?_) (λ fl s' z=>?_) λ _ _ z=>z.elim)
 ·exact⟨hns,λ b o _ _ _ e=>up b o e,λ _ h=>(nomatch h),⟨λ b o _ _ _ e=>up b o e,hz,G.vol.keeps hz up,Cx.heap ht⟩,Nat.le_refl _,G.vol.c,G.grow (Nat.le_trans G.vol.c hz) up ht,.inl (Bc (Nat.le_refl _))⟩
 ·exact λ y c e=>⟨hcell y c e,hab y c (mem_of_lookup e)⟩
 ·cases fl<;>exact z
theorem Nx {w:World} {A:Around} {s:Shared} {f:Addr} {pos:List Value} {kw:List (Str×Value)} {Q:VP} {E:VP} {n:Nat} {fd:FuncData} {body:List Stmt} {binds:List (Str×Value)}
  (S:List Addr) (d:CDef w f fd body) (G:A5 w s) (R:A3 A (n+1)) (hb:peek (K w.params) ⟨PySem.Challenge.pw_wv0051_01,w.params⟩ (bindArgs fd ⟨pos,kw⟩)=some binds)
  (hkind:(binds.all λ y=>fd.scope.names.lookup y.1 == some .local || fd.scope.names.lookup y.1 == some .cell)=true)
  (h:∀ L s₁,Cl w S s L s.heap (bindL (cfenv fd f L).kindOf binds λ _=>none) [] s₁ →
   (∀ x c,(cfenv fd f L).cells.lookup x=some c→s₁.heap.IsCell c (bindC (cfenv fd f L).kindOf binds (λ _=>none) x)∧@LT.lt Nat _ L c) →
   wpAny (MD w) (A.deeper (cfenv fd f L)) (execs body (cfenv fd f L)) (λ fl s'=>Q (Ej fl) s') (λ _ _=>False) s₁) :
  wpAny (MD w) A (call (.ref f) pos kw) Q E s:=wpAny_call (codeFnC S d G R hb hkind h)
section
variable {w:World} {S:List Addr} {s₀:Shared} {L:Addr} {ref:Heap} {m:SV} {news:AO} {s:Shared} {A:Around} {E:VP} {env:Env}
theorem Ay {x:Str} {pos:Pos} {c:Addr} {v:Value} {Q:VP} (hv:s.heap.IsCell c (some v)) (h:Q v s) (hc:env.cells.lookup x=some c:=by kernel_rfl)
  (hk:env.scope.kind=.function:=by kernel_rfl) (hl:env.kindOf x=some .cell:=by kernel_rfl) (hd:(x == ("__debug__" : Str))=false:=by decide +kernel) :
  wpAny (MD w) A (eval (.Name x pos) env) Q E s:=wpAny_Name (wpAny_loadName_cell hk hl hc hv h) hd
theorem Ck {x:Str} {c:Addr} {v:Value} {v₀:Option Value} {Q:Unit→Shared→Prop} (D:Cl w S s₀ L ref m news s) (hv:s.heap.IsCell c v₀) (h0:s₀.heap.get? c=none) (hcL:c≠L) (hc3:@LE.le Nat _ 317 c)
  (h:∀ s',Cl w S s₀ L s'.heap m [] s'→s'.heap.IsCell c (some v)→(∀ b o,b≠c→s.heap.get? b=some o→s'.heap.get? b=some o)→Q () s') (hc:env.cells.lookup x=some c:=by kernel_rfl)
  (hk:env.scope.kind=.function:=by kernel_rfl) (hl:env.kindOf x=some .cell:=by kernel_rfl):wpAny (MD w) A (storeName env x v) Q E s:=by
 refine wpAny_storeName_cell hk hl hc hv (λ h' hc' hs=>?_)
 have k:∀ b o,b∉[c]→s.heap.get? b=some o→h'.get? b=some o:=λ b o hb e=>(hs.2 b λ q=>hb (List.mem_singleton.mpr q)).trans e
 exact h _ (D.outs (wr:=[c]) (h':=h') (t:=s.toks) (λ b hb=>by rw[List.mem_singleton.mp hb];exact⟨h0,hcL,hc3⟩) k (Nat.le_refl _)) hc' λ b o hb e=>k b o (λ q=>hb (List.mem_singleton.mp q)) e
end
theorem Aq {h h':Heap} {c:Addr} {v:Option Value} (x:h.IsCell c v) (hk:∀ o,h.get? c=some o→h'.get? c=some o):h'.IsCell c v:=by
 obtain⟨o,e,d⟩:=x
 exact⟨o,hk o e,d⟩
theorem Oq {α:Type} {a:α} {l l':List α} (h:l=l') (m:a∈l'):a∈l:=h ▸ m
theorem mem1_of {α:Type} {a c:α} {l:List α} (h:l=[c]) (m:a∈l):a=c:=List.mem_singleton.mp (h ▸ m)
theorem Sg {W size:Int} (h0:0<size) (h1:size≤W):0<W.fdiv size∧W.fdiv size≤W:=by
 rw[Int.fdiv_eq_ediv_of_nonneg _ (by exact Int.le_of_lt (by assumption))]
 constructor
 ·exact Int.lt_of_lt_of_le (by decide:(0:Int)<1) ((Int.le_ediv_iff_mul_le h0).mpr (by lia))
 ·exact Int.ediv_le_self _ (by lia)
noncomputable def Le (told:List Int) (W size:Int):Int:=-((-(((told.filter (λ x=>decide (size≤x))).map (λ x=>x.fdiv size)).sum)).fdiv (W.fdiv size))
theorem s_due:∀ (w:World) {A:Around} {s:Shared} {lt ls:Addr} {vt vs:List Value} {nt n:Nat} {told sizes:List Int} {W:Int} {tW:Tok} (G:A5 w s) (R:A3 A 10) (hlt:s.heap.get? lt=some (A6 vt nt)) (hlt3:@LE.le Nat _ 317 lt) (hvt:IntsAre vt told) (hls:s.heap.get? ls=some (A6 vs n)) (hls3:@LE.le Nat _ 317 ls) (hvs:IntsAre vs sizes) (hnt:vt.length≤500) (hns:vs.length≤500) (hne:sizes≠[]) (hsz:∀ z∈sizes,0<z∧z≤W) (hW:W<1000000),
  wpAny (MD w) A (call (.ref 306) [.ref lt,.ref ls,.int W tW]) (λ r s'=>(∃ M t',r=.int M t'∧M∈sizes.map (Le told W)∧∀ a∈sizes.map (Le told W),a≤M)∧A4 [] s s') no s:=by
 walk_at " w A s lt ls vt vs nt n told sizes W tW G R hlt hlt3 hvt hls hls3 hvs hnt hns hne hsz hW"
 refine Nx (binds:=[("things", .ref lt),("sizes", .ref ls),("width", .int W tW)]) [] (Rc w) G R (by kernel_rfl) (by kernel_rfl) ?_
 walk_at " L s₁ D hcells"
 have hA:(A.deeper (cfenv Jp 306 L)).handled=none:=(R.deeper _).hd
 have hnlt:lt≠L:=D.ne0 hlt
 have hnls:ls≠L:=D.ne0 hls
 have hlt1:=D.old hlt hlt3 hnlt
 have hls1:=D.old hls hls3 hnls
 obtain⟨ht,htL⟩:=hcells "things" (L+1) (by kernel_rfl)
 obtain⟨hw,hwL⟩:=hcells "width" (L+2) (by kernel_rfl)
 change s₁.heap.IsCell _ (some (.ref lt)) at ht
 change s₁.heap.IsCell _ (some (.int W tW)) at hw
 have hloc:(bindL (cfenv Jp 306 L).kindOf [(("things" : Str),Value.ref lt),(("sizes" : Str),Value.ref ls),(("width" : Str),Value.int W tW)] λ _=>none) "sizes" = some (.ref ls):=by kernel_rfl
 refine wpAny_execs_cons ?_
 walk_at "s3"
 refine Am ?_
 walk_at "b max"
 refine Co (spliced_more ?_)
 refine Fn [("width", L+2),("things", L+1)] (by kernel_rfl) (by kernel_rfl) (by decide +kernel) ?_
 refine Ai D hloc ?_
 refine Jn hA D.good hls1 hls3 hns [] (λ _ h=>nomatch h) (λ _ i rs _=>IntsAre rs ((sizes.take i).map (Le told W))) (λ _ _ _=>by simpa using IntsAre.nil) (λ _ _ _ _ _ _ _ h=>h) ?_ ?_
 ·walk_at " F C i v z m rs hv hlen Dz hF hX hcs"
  obtain⟨size,tz,rfl,hsize⟩:=hvs.at i v hv
  walk_at "c size tz"
  obtain⟨hz0,hzW⟩:=hsz size (List.mem_of_getElem? hsize)
  obtain⟨v0,hc1⟩:=hcs (C+1) (Oq (l':=[C+1]) (by kernel_rfl) (List.mem_singleton.mpr rfl))
  walk_at "c v0"
  have hC1:@LE.le Nat _ s₁.heap.objs.size (C+1):=Nat.le_succ_of_le Dz.g1
  refine assign_Name ?_
  refine Ck Dz hc1 (Bc hC1) (Nat.succ_ne_self C) (Nat.le_succ_of_le Dz.hL) ?_
  walk_at " z1 D1 hcz1 hk1"
  refine wpAny_tests_nil ?_
  rw[if_pos rfl]
  have ht1:z1.heap.IsCell (L+1) (some (.ref lt)):=Aq ht λ o e=>D1.st.get (Nat.le_succ_of_le D.hL) (λ h=>nomatch h) e
  have hw1:z1.heap.IsCell (L+2) (some (.int W tW)):=Aq hw λ o e=>D1.st.get (Nat.le_succ_of_le (Nat.le_succ_of_le D.hL)) (λ h=>nomatch h) e
  have hlt2:=D1.st.get hlt3 (λ h=>nomatch h) hlt1
  walk_at "s3"
  refine Am ?_
  refine Ap (.builtin "sum") D1 (by kernel_rfl) (by kernel_rfl) ?_
  refine Co (spliced_more ?_)
  refine Fn [("size", C+1)] (by kernel_rfl) (by kernel_rfl) (by decide +kernel) ?_
  refine Ay ht1 ?_
  refine G0 hA D1.good hlt2 hlt3 hnt (by intro C;kernel_rfl) (λ (i:Nat) (rs:List Value) (_:Tok)=>IntsAre rs (((told.take i).filter (λ x:Int=>decide (size≤x))).map (λ x:Int=>x.fdiv size))) (λ _=>by simpa using IntsAre.nil) (λ _ _ _ _ _ h=>h) ?_ ?_
  ·walk_at " C2 i2 v2 z2 m2 rs2 hv2 hlen2 Dz2 hX2"
   obtain⟨thing,tt,rfl,hthing⟩:=hvt.at i2 v2 hv2
   walk_at "c thing tt"
   have hcz2:z2.heap.IsCell (C+1) (some (.int size tz)):=Aq hcz1 λ o e=>Dz2.st.get (Nat.le_succ_of_le Dz.hL) (λ h=>nomatch h) e
   refine assign_Name ?_
   refine An Dz2 ?_ (by kernel_rfl) (by kernel_rfl)
   walk_at " z3 D3"
   have hcz3:z3.heap.IsCell (C+1) (some (.int size tz)):=Aq hcz2 λ o e=>D3.old e (Nat.le_succ_of_le Dz.hL) (Nat.ne_of_lt (Nat.lt_of_lt_of_le hcz1.lt Dz2.g1))
   refine wpAny_tests_one ?_
   walk_at "s3"
   refine Ay hcz3 ?_
   refine P.ge_int ?_
   refine wpAny_truthy_bool ?_
   have ef:(told.take (i2+1)).filter (λ x:Int=>decide (size≤x))=(told.take i2).filter (λ x:Int=>decide (size≤x))++(if decide (size≤thing)=true then [thing] else []):=take_succ_filter _ _ _ _ hthing
   by_cases hle:size≤thing
   ·rw[if_pos (by simpa using hle)]
    walk_at "s3"
    refine Ay hcz3 ?_
    refine Cg D3 (by lia) (PyProof.noPylong_small (by lia)) ?_
    walk_at " z4 t4 D4 _"
    refine⟨⟨_,_,D4⟩,?_⟩
    rw[ef,if_pos (by simpa using hle),List.map_append]
    exact ksk_snoc hX2
   ·rw[if_neg (by simpa using hle)]
    refine⟨⟨_,_,D3⟩,?_⟩
    rw[ef,if_neg (by simpa using hle),List.append_nil]
    exact hX2
  ·walk_at " acc z2 rs2 k2 hacc st2 hg2 hX2"
   rw[List.take_of_length_le (by rw[hvt.length];exact Nat.le_refl _)] at hX2
   have D2:=D1.step0 st2
   refine spliced_none ⟨Bh,n_sum D2 hA hg2 hX2 ?_⟩
   walk_at " z3 t3 D3"
   walk_at "s3"
   rename_i s5 t5 D5 ht5
   refine Ay (Aq hw λ o e=>D5.st.get (Nat.le_succ_of_le (Nat.le_succ_of_le D.hL)) (λ h=>nomatch h) e) ?_
   refine Ay (Aq hcz1 λ o e=>D5.old e (Nat.le_succ_of_le Dz.hL) (Nat.succ_ne_self C)) ?_
   obtain⟨hd1,hd2⟩:=Sg hz0 hzW
   refine Cg D5 (by lia) (PyProof.noPylong_small (by lia)) ?_
   walk_at " z6 t6 D6 _"
   refine Cg D6 (by lia) (PyProof.noPylong_small (by lia)) ?_
   walk_at " z7 t7 D7 _"
   walk_at "s3"
   rename_i s8 t8 D8 ht8
   have hcz8:=Aq hcz1 λ o e=>D8.old e (Nat.le_succ_of_le Dz.hL) (Nat.succ_ne_self C)
   refine⟨⟨_,D8.rebase⟩,λ b o _ hbC hbc h3 e=>D8.old (hk1 b o (λ q=>hbc (Oq (l':=[C+1]) (by kernel_rfl) (List.mem_singleton.mpr q))) e) h3 hbC,λ c hc=>⟨_,(mem1_of (c:=C+1) (by kernel_rfl) hc) ▸ hcz8⟩,?_⟩
   have et:sizes.take (i+1)=sizes.take i++[size]:=by rw[List.take_add_one,hsize];rfl
   rw[et,List.map_append]
   exact ksk_snoc hX
 ·walk_at " F acc C s' rs k m hCF hac hF ha hC st hg hns hX"
  rw[List.take_of_length_le (by rw[hvs.length];exact Nat.le_refl _)] at hX
  refine⟨m,hns,?_⟩
  walk_at " h' hs"
  have D2:=D.step0 (st.freshBut D.good.vol.c hC hs)
  have hg2:h'.get? acc=some (A6 rs k):=(hs.2 acc hac).trans hg
  refine spliced_none ⟨Bh,n_max D2 hA hg2 hX (by simpa using hne) ?_⟩
  walk_at " s3 M t3 D3 hM1 hM2"
  walk_at "s3"
  exact⟨⟨M,t3,rfl,hM1,hM2⟩,D3.st⟩
section
variable {w:World} {S:List Addr} {s₀:Shared} {L:Addr} {ref:Heap} {m:SV} {news:AO} {s:Shared} {A:Around} {E E':VP} {env:Env}
noncomputable def Ac (w:World) (S:List Addr) (s₀:Shared) (L:Addr) (fp:List Addr) (Inv:Nat→(SV)→Shared→Prop) (Q:FP) (i:Nat) (z:Shared) (f:Flow) (s₃:Shared):Prop :=
 match f with
 | .next|.cont=>∃ m'' ref'' news'',Cl w S s₀ L ref'' m'' news'' s₃∧Inv (i+1) m'' s₃∧(∀ b∈fp,∀ o,z.heap.get? b=some o→s₃.heap.get? b=some o)
 | .brk=>Q .next s₃
 | .ret v=>Q (.ret v) s₃
theorem n_forW {target:PySem.Expr} {body orelse:List Stmt} {I:Addr} {fp wr:List Addr} {n:Nat} {P:Nat→Value→Prop} {St:Nat→Heap→Prop} {Q:FP}
  (W:Walks PySem.Challenge.pw_wv0051_01 w A I fp wr n P St) (go:Iy w A target I (λ i h=>St (i+1) h)) (D:Cl w S s₀ L ref m news s) (hst:St 0 s.heap)
  (hwr:∀ b∈wr,s₀.heap.get? b=none∧b≠L∧@LE.le Nat _ 317 b)
  (Inv:Nat→(SV)→Shared→Prop) (stable:∀ i m z z',(∀ b o,b∉wr→z.heap.get? b=some o→z'.heap.get? b=some o)→z.toks≤z'.toks→Inv i m z→Inv i m z') (h0:Inv 0 m s)
  (turn:∀ i m' z v,i<n→P i v→Inv i m' z→St (i+1) z.heap→Cl w S s₀ L z.heap m' [] z→wpAny (MD w) A (assign target env v) (λ _ s₂=>wpAny (MD w) A (execs body env) (Ac w S s₀ L fp Inv Q i z) (λ _ _=>False) s₂) (λ _ _=>False) z)
  (done:∀ m' z,Cl w S s₀ L z.heap m' [] z→Inv n m' z→wpAny (MD w) A (execs orelse env) Q (λ _ _=>False) z) :
  codeAny (MD w) A (.forLoop target (.ref I) body orelse env) (λ r s'=>match r with|.ok f=>Q f s'|.error e=>E e s') s:=by
 refine for_gen W go (λ i z=>∃ m',Cl w S s₀ L z.heap m' [] z∧Inv i m' z∧St i z.heap) (λ i z h=>by obtain⟨_,_,_,h⟩:=h;exact h) ?_ ?_ ⟨m,D.rebase,h0,hst⟩
 ·rintro i z hi ⟨m',Dz,hI,hS⟩ v h' tk hP hst' hk ht
  have D1:=Dz.outs hwr hk ht
  refine wpAny_mono (turn i m' _ v hi hP (stable i m' z _ hk ht hI) hst' D1) (λ _ s₂ h₂=>wpAny_mono h₂ (λ f s₃ h₃=>?_) λ _ _ e=>e) λ _ _ e=>e
  cases f with
  | next =>
   obtain⟨m'',r'',n'',D3,hI3,hf⟩:=h₃
   exact⟨m'',D3.rebase,hI3,W.frame _ _ _ hst' hf⟩
  | cont =>
   obtain⟨m'',r'',n'',D3,hI3,hf⟩:=h₃
   exact⟨m'',D3.rebase,hI3,W.frame _ _ _ hst' hf⟩
  | brk=>exact h₃
  | ret v=>exact h₃
 ·rintro z ⟨m',Dz,hI,hS⟩ h' tk hk ht
  exact done m' _ (Dz.outs hwr hk ht) (stable n m' z _ hk ht hI)
theorem Mi {b:Int} {u:Tok} {Q:VP} (D:Cl w S s₀ L ref m news s)
  (h:∀ s' r t v,Cl w S s₀ L ref m ((r,{cls:=.type "range", data:=.fields #[.int 0 t,.int b u,.int 1 v]})::news) s'→Q (.ref r) s'):wpAny (MD w) A (call (.type "range") [.int b u]) Q E s :=
 call_range_1 (h _ _ _ _ ((D.push _ rfl).toks 2))
theorem n_range2 {a b:Int} {t u:Tok} {Q:VP} (D:Cl w S s₀ L ref m news s)
  (h:∀ s' r v,Cl w S s₀ L ref m ((r,{cls:=.type "range", data:=.fields #[.int a t,.int b u,.int 1 v]})::news) s'→Q (.ref r) s'):wpAny (MD w) A (call (.type "range") [.int a t,.int b u]) Q E s :=
 call_range_2 (h _ _ _ ((D.push _ rfl).toks 1))
theorem Jy {r:Addr} {a b:Int} {n:Nat} {t u v:Tok} {tx:Str} {tp:Pos} {body orelse:List Stmt} {Q:FP} (hh:A.handled=none)
  (D:Cl w S s₀ L ref m ((r,{cls:=.type "range", data:=.fields #[.int a t,.int b u,.int 1 v]})::news) s) (hs:Builtin.Range.small a b 1=true) (hn:Builtin.Range.rangeSize a b 1=n)
  (Inv:Addr→Nat→(SV)→Shared→Prop) (stable:∀ I i m z z',(∀ b o,b≠I→z.heap.get? b=some o→z'.heap.get? b=some o)→z.toks≤z'.toks→Inv I i m z→Inv I i m z')
  (h0:∀ I s',s.heap.get? I=none→Cl w S s₀ L s.heap m [(I,riO a n 1)] s'→Inv I 0 m s')
  (turn:∀ I i m' z tk,i<n→@LE.le Nat _ 317 I→I≠L→s.heap.get? I=none→(∃ o,z.heap.get? I=some o∧o.cls=.type "range_iterator")→Inv I i m' z→Cl w S s₀ L z.heap m' [] z→wpAny (MD w) A (assign (.Name tx tp) env (.int (a+i) tk)) (λ _ s₂=>wpAny (MD w) A (execs body env) (Ac w S s₀ L [I] (Inv I) Q i z) (λ _ _=>False) s₂) (λ _ _=>False) z)
  (done:∀ I m' z,Cl w S s₀ L z.heap m' [] z→Inv I n m' z→wpAny (MD w) A (execs orelse env) Q (λ _ _=>False) z) :
  wpAny (MD w) A (pyIter (.ref r)) (λ it s₂=>codeAny (MD w) A (.forLoop (.Name tx tp) it body orelse env) (λ r s'=>match r with|.ok f=>Q f s'|.error e=>E' e s') s₂) E s:=by
 refine wpAny_pyIter_range (D.at 0 rfl) hs ?_
 rw[hn]
 have D1:=D.rebase.push (riO a n 1) rfl
 have hI0:s₀.heap.get? s.heap.objs.size=none:=Bc D.st.size
 have hIL:s.heap.objs.size≠L:=Nat.ne_of_gt D.ns.lt
 have hI3:@LE.le Nat _ 317 s.heap.objs.size:=D.good.vol.c
 refine n_forW (Walks.range hh s.heap.objs.size a 1 n) go_name D1 ?_ (λ b hb=>?_) (Inv s.heap.objs.size) (λ i m z z' hk=>stable _ i m z z' λ b o hb=>hk b o λ q=>hb (List.mem_singleton.mp q)) (h0 _ _ (Bc (Nat.le_refl _)) D1) ?_ (λ m' z=>done _ m' z)
 ·have e:a+((0:Nat):Int)*1=a:=by simp +arith
  have e2:((n:Int)-((0:Nat):Int))=n:=by rfl
  show IsRangeIter _ _ (a+((0:Nat):Int)*1) ((n:Int)-((0:Nat):Int)) 1
  rw[e,e2]
  exact D1.at 0 rfl
 ·rw[List.mem_singleton.mp hb];exact⟨hI0,hIL,hI3⟩
 ·rintro i m' z v hi ⟨tk,rfl⟩ hI hst Dz
  have e:a+(i:Int)*1=a+i:=by simp_all
  rw[e]
  exact turn _ i m' z tk hi hI3 hIL (Bc (Nat.le_refl _)) ⟨_,hst,rfl⟩ hI Dz
end
theorem Dp {w:World} {A:Around} {E:VP} {s:Shared} {l:Addr} {vs:List Value} {n:Nat} {i:Int} {t:Tok} {v:Value} {Q:VP} (hl:s.heap.get? l=some (A6 vs n)) (h0:0≤i) (hk:vs[i.toNat]?=some v) (hsz:vs.length≤1000) (h:Q v s) :
  wpAny (MD w) A (getitemInPython (.ref l)) (λ b s₃=>b=false∧wpAny (MD w) A (getItem (.ref l) (.int i t)) Q E s₃) E s:=by
 have hlt:i.toNat<vs.length:=(List.getElem?_eq_some_iff.mp hk).1
 refine Fa (T := "list") (id := "list.__getitem__") ⟨_,hl,rfl⟩ F.slot_list_getitem.lookup ⟨rfl,?_⟩
 exact wpAny_getItem_list (Al hl) h0 (by lia) (by simpa using hk) h
theorem Im (a b:Int) (h0:0≤a) (h1:a≤100000) (h3:0≤b) (h2:b≤100000):Builtin.Range.small a b 1=true∧Builtin.Range.rangeSize a b 1=((b-a).toNat:Nat):=by
 have e:Builtin.Range.rangeSize a b 1=((b-a).toNat:Nat):=by
  unfold Builtin.Range.rangeSize
  rw[if_pos (by decide)]
  split
  ·simp;omega
  ·simp;lia
 refine⟨?_,e⟩
 unfold Builtin.Range.small
 rw[e]
 simp[Builtin.Range.rangeFitsLong]
 lia
theorem s_apart:∀ (w:World) {A:Around} {s:Shared} {lr ls:Addr} {vr vs:List Value} {nr n:Nat} {rooms sizes:List Int} (G:A5 w s) (R:A3 A 10) (hlr:s.heap.get? lr=some (A6 vr nr)) (hlr3:@LE.le Nat _ 317 lr) (hvr:IntsAre vr rooms) (hls:s.heap.get? ls=some (A6 vs n)) (hls3:@LE.le Nat _ 317 ls) (hvs:IntsAre vs sizes) (hnr:vr.length≤500) (hns:vs.length≤500) (hsz:∀ z∈sizes,0<z∧z<1000000) (hap:∀ k a b,rooms[k]?=some a→rooms[k+1]?=some b→∃ z∈sizes,b<z∧a.fmod z=0),
  wpAny (MD w) A (call (.ref 311) [.ref ls,.ref lr]) (λ r s'=>r=.bool true∧A4 [] s s') no s:=by
 walk_at " w A s lr ls vr vs nr n rooms sizes G R hlr hlr3 hvr hls hls3 hvs hnr hns hsz hap"
 refine Nx (binds:=[("sizes", .ref ls),("rooms", .ref lr)]) [] (Pc w) G R (by kernel_rfl) (by kernel_rfl) ?_
 walk_at " L s₁ D hcells"
 have hA:(A.deeper (cfenv Gw 311 L)).handled=none:=(R.deeper _).hd
 have hnlr:lr≠L:=D.ne0 hlr
 have hnls:ls≠L:=D.ne0 hls
 have hlr1:=D.old hlr hlr3 hnlr
 have hls1:=D.old hls hls3 hnls
 obtain⟨hr,hrL⟩:=hcells "rooms" (L+1) (by kernel_rfl)
 obtain⟨hk,hkL⟩:=hcells "k" (L+2) (by kernel_rfl)
 change s₁.heap.IsCell _ (some (.ref lr)) at hr
 change s₁.heap.IsCell _ none at hk
 have hloc:(bindL (cfenv Gw 311 L).kindOf [(("sizes" : Str),Value.ref ls),(("rooms" : Str),Value.ref lr)] λ _=>none) "sizes" = some (.ref ls):=by kernel_rfl
 generalize (bindL (cfenv Gw 311 L).kindOf [(("sizes" : Str),Value.ref ls),(("rooms" : Str),Value.ref lr)] λ _=>none)=m₁ at *
 have hrl:=hvr.length
 replace D:=D.rebase
 refine wpAny_execs_cons ?_
 walk_at "s3"
 refine wpAny_For ?_
 refine Am ?_
 walk_at "t range"
 refine Co (spliced_more ?_)
 walk_at "s3"
 rename_i s2 t2 D2 ht2
 refine Am ?_
 walk_at "b len"
 refine Co (spliced_more ?_)
 refine Ay (Aq hr λ o e=>D2.old e (Nat.le_succ_of_le D.hL) (Nat.succ_ne_self L)) ?_
 have hlr2:=D2.old hlr1 hlr3 hnlr
 refine spliced_none ⟨Bh,n_len D2 hlr2 (by exact Nat.le_trans (by assumption) (by decide)) ?_⟩
 walk_at " s3 t3 D3"
 refine spliced_none ⟨Gk,n_range2 D3 ?_⟩
 walk_at " s4 r v4 D4"
 have hL1:@LE.le Nat _ 317 (L+1):=Nat.le_succ_of_le D.hL
 have hL2:@LE.le Nat _ 317 (L+2):=Nat.le_succ_of_le hL1
 have hsm:=Im 1 vr.length (by decide) (by decide) (by simp) (by lia)
 refine Jy (n:=((vr.length:Int)-1).toNat) hA D4 hsm.1 hsm.2 (λ I i m z=>m "sizes" = some (.ref ls)∧z.heap.IsCell (L+1) (some (.ref lr))∧(∃ v,z.heap.IsCell (L+2) v)∧z.heap.get? lr=some (A6 vr nr)∧z.heap.get? ls=some (A6 vs n)∧L+1≠I∧L+2≠I∧lr≠I∧ls≠I) ?_ ?_ ?_ ?_
 ·rintro I i m z z' hk ht ⟨e1,e2,⟨v,e3⟩,e4,e5,n1,n2,n3,n4⟩
  walk_at "c I i m z z' hk ht e1 e2 v"
  exact⟨e1,Aq e2 λ o e=>hk _ o n1 e,⟨v,Aq e3 λ o e=>hk _ o n2 e⟩,hk _ _ n3 e4,hk _ _ n4 e5,n1,n2,n3,n4⟩
 ·walk_at " I s' hI F"
  have up:∀ {b:Addr} {o:Obj},@LE.le Nat _ 317 b→b≠L→s₁.heap.get? b=some o→s4.heap.get? b=some o:=λ h3 h e=>D4.old e h3 h
  have ne:∀ {b:Addr} {o:Obj},s4.heap.get? b=some o→b≠I:=λ e q=>by rw[q,hI] at e;cases e
  have up2:∀ {b:Addr} {o:Obj},@LE.le Nat _ 317 b→b≠L→s4.heap.get? b=some o→s'.heap.get? b=some o:=λ h3 h e=>F.old e h3 h
  obtain⟨ok,eok,dok⟩:=hk
  walk_at "c ok"
  obtain⟨orr,eor,dor⟩:=hr
  walk_at "c orr"
  have g1:=up hL1 (Nat.succ_ne_self L) eor
  have g2:=up hL2 (Nat.ne_of_gt hkL) eok
  have g3:=up hlr3 hnlr hlr1
  have g4:=up hls3 hnls hls1
  exact⟨hloc,⟨_,up2 hL1 (Nat.succ_ne_self L) g1,dor⟩,⟨_,_,up2 hL2 (Nat.ne_of_gt hkL) g2,dok⟩,up2 hlr3 hnlr g3,up2 hls3 hnls g4,ne g1,ne g2,ne g3,ne g4⟩
 ·rintro I i m' z tk hi hI3 hIL hI0 hIz ⟨em,cr,⟨v0,ck⟩,glr,gls,n1,n2,n3,n4⟩ Dz
  walk_at "c I i m' z tk hi hI3 hIL hI0 hIz em cr v0"
  have hi':i+1<vr.length:=by lia
  obtain⟨a,ea⟩:∃ a,rooms[i]?=some a:=⟨_,List.getElem?_eq_getElem (by lia)⟩
  walk_at "c a"
  obtain⟨b,eb⟩:∃ b,rooms[i+1]?=some b:=⟨_,List.getElem?_eq_getElem (by lia)⟩
  walk_at "c b"
  obtain⟨va,hva⟩:∃ v,vr[i]?=some v:=⟨_,List.getElem?_eq_getElem (by exact Nat.le_of_lt (by assumption))⟩
  walk_at "c va"
  obtain⟨vb,hvb⟩:∃ v,vr[i+1]?=some v:=⟨_,List.getElem?_eq_getElem (by omega)⟩
  walk_at "c vb"
  obtain⟨a',ta,rfl,ea'⟩:=hvr.at _ _ hva
  walk_at "c a' ta"
  obtain⟨b',tb,rfl,eb'⟩:=hvr.at _ _ hvb
  walk_at "c b' tb"
  rw[ea] at ea';cases ea'
  rw[eb] at eb';cases eb'
  refine assign_Name ?_
  refine Ck Dz ck (Bc (Nat.le_succ_of_le (Nat.le_succ_of_le D.g1))) (Nat.ne_of_gt hkL) hL2 ?_
  walk_at " z1 D1 ck1 hk1"
  have hne:∀ {b:Addr} {o:Obj},z.heap.get? b=some o→(∀ v,o.data≠.cell v)→b≠L+2:=λ {b o} e hd q=>by
   subst q
   obtain⟨o',e',d'⟩:=ck
   walk_at "c o'"
   rw[e] at e';cases e'
   exact hd _ d'
  have glr1:=hk1 _ _ (hne glr λ v h=>by cases h) glr
  have gls1:=hk1 _ _ (hne gls λ v h=>by cases h) gls
  have cr1:z1.heap.IsCell (L+1) (some (.ref lr)):=Aq cr λ o e=>hk1 _ o (Nat.ne_of_lt (Nat.lt_succ_self _)) e
  refine wpAny_execs_cons ?_
  refine wpAny_If ?_
  walk_at "s3"
  refine Fn [("rooms", L+1),("k", L+2)] (by kernel_rfl) (by kernel_rfl) (by decide +kernel) ?_
  refine Ai D1 em ?_
  refine G0 hA D1.good gls1 hls3 hns (by intro C;kernel_rfl) (λ (i':Nat) (rs:List Value) (_:Tok)=>rs.length≤i'∧((∃ y∈sizes.take i',b<y∧a.fmod y=0)→rs≠[])) (λ _=>⟨Nat.le_refl _,λ h=>by simp at h⟩) (λ _ _ _ _ _ h=>h) ?_ ?_
  ·walk_at " C2 i2 v2 z2 m2 rs2 hv2 hlen2 Dz2 hX2"
   obtain⟨size,tz,rfl,hsize⟩:=hvs.at i2 v2 hv2
   walk_at "c size tz"
   obtain⟨hz0,hzW⟩:=hsz size (List.mem_of_getElem? hsize)
   refine assign_Name ?_
   refine An Dz2 ?_ (by kernel_rfl) (by kernel_rfl)
   walk_at " z3 D3"
   have up3:∀ {b:Addr} {o:Obj},@LE.le Nat _ 317 b→z1.heap.get? b=some o→z3.heap.get? b=some o:=λ h3 e=>D3.st.get h3 (λ h=>nomatch h) e
   have cr3:z3.heap.IsCell (L+1) (some (.ref lr)):=Aq cr1 λ o e=>up3 hL1 e
   have ck3:=Aq ck1 λ o e=>up3 hL2 e
   have glr3:=up3 hlr3 glr1
   refine wpAny_tests_one ?_
   walk_at "s3"
   refine Aj ?_
   refine Ay cr3 ?_
   refine Ay ck3 ?_
   have q1:(1+(i:Int)).toNat=i+1:=by simp +arith
   have q2:(1+(i:Int)-1).toNat=i:=by simp +arith
   refine Dp glr3 (by lia) (by rw[q1];exact hvb) (by exact Nat.le_trans (by assumption) (by decide)) ?_
   refine P.gt_int ?_
   refine wpAny_truthy_bool ?_
   have es:sizes.take (i2+1)=sizes.take i2++[size]:=by rw[List.take_add_one,hsize];rfl
   have hno:¬ (b<size∧a.fmod size=0)→(∃ y∈sizes.take (i2+1),b<y∧a.fmod y=0)→rs2≠[]:=λ hn hy=>by
    obtain⟨y,hy,hy2⟩:=hy
    walk_at "c y"
    rw[es] at hy
    rcases List.mem_append.mp hy with hy|hy
    ·exact hX2.2 ⟨y,hy,hy2⟩
    ·rw[List.mem_singleton.mp hy] at hy2;exact absurd hy2 hn
   by_cases hgt:b<size
   ·rw[if_pos (by simpa using hgt)]
    walk_at "s3"
    refine Aj ?_
    refine Ay cr3 ?_
    walk_at "s3"
    refine Ay ck3 ?_
    walk_at "s3"
    rename_i z4 t4 D4 ht4 z5 t5 D5 ht5
    have glr5:=D5.st.get hlr3 (λ h=>nomatch h) glr1
    refine Dp glr5 (by simp +arith) (by rw[q2];exact hva) (by exact Nat.le_trans (by assumption) (by decide)) ?_
    walk_at "s3"
    refine Cf D5 (by lia) ?_
    walk_at " z6 t6 D6 ht6"
    walk_at "s3"
    by_cases hm:a.fmod size=0
    ·rw[if_pos (by simpa using hm)]
     walk_at "s3"
     rw[if_pos rfl]
     walk_at "s3"
     exact⟨⟨_,_,by assumption⟩,by simp;exact hX2.1,λ _ h=>by simp at h⟩
    ·rw[if_neg (by simpa using hm)]
     walk_at "s3"
     rw[if_neg (by simp)]
     exact⟨⟨_,_,by assumption⟩,Nat.le_succ_of_le hX2.1,hno λ h=>hm h.2⟩
   ·rw[if_neg (by simpa using hgt)]
    walk_at "s3"
    rw[if_neg (by simp)]
    exact⟨⟨_,_,D3⟩,Nat.le_succ_of_le hX2.1,hno λ h=>hgt h.1⟩
  ·walk_at " acc z2 rs2 k2 hacc st2 hg2 hX2"
   have hne2:rs2≠[]:=hX2.2 (by
    obtain⟨y,hy,h1,h2⟩:=hap i a b ea eb
    walk_at "c y"
    refine⟨y,?_,h1,h2⟩
    rw[List.take_of_length_le (by rw[hvs.length];exact Nat.le_refl _)]
    exact hy)
   refine wpAny_truthy_list (Al hg2) (by have:=hX2.1;simp;lia) ?_
   have D2':=(D1.step0 st2).toks 2
   have up4:∀ {b:Addr} {o:Obj},@LE.le Nat _ 317 b→z1.heap.get? b=some o→z2.heap.get? b=some o:=λ h3 e=>st2.get h3 (λ h=>nomatch h) e
   refine Be (by cases rs2 with|nil=>exact absurd rfl hne2|cons _ _=>simp) ?_
   walk_at "s3"
   refine⟨_,_,_,D2',⟨em,Aq cr1 λ o e=>up4 hL1 e,⟨_,Aq ck1 λ o e=>up4 hL2 e⟩,up4 hlr3 glr1,up4 hls3 gls1,n1,n2,n3,n4⟩,?_⟩
   walk_at " b' hb o e"
   rw[List.mem_singleton.mp hb] at e ⊢
   exact up4 hI3 (hk1 _ _ (Ne.symm n2) e)
 ·rintro I m' z Dz _
  walk_at "c I m' z"
  walk_at "s3"
  exact⟨rfl,Dz.st⟩
theorem l_setAt:∀ {w:World} {A:Around} {E:VP} {s:Shared} {l:Addr} {vs:List Value} {n:Nat} {k:Int} {t:Tok} {v:Value} {Q:Unit→Shared→Prop} (hl:s.heap.get? l=some (A6 vs n)) (h0:0≤k) (hk:k.toNat<vs.length) (hsz:vs.length≤1000) (h:∀ h' n',Heap.SameBut l s.heap h'→h'.get? l=some (A6 (vs.set k.toNat v) n')→Q () {s with heap:=h'}),
  wpAny (MD w) A (setItem (.ref l) (.int k t) v) Q E s:=by
 walk_at " w A E s l vs n k t v Q hl h0 hk hsz h"
 have hL:=Al hl
 unfold setItem
 refine wpAny_holding ?_
 refine wpAny_bind (wpAny_sequenceKey hL.typeIs (by decide) ?_)
 refine wpAny_bind (wpAny_callSpecial?_slot (name:=Str.ofString "__setitem__") hL.typeIs slot_list_setitem
  (wpAny_call_entry slot_list_setitem hL.typeIs entry_list_setitem ?_ (args_list_setitem _ _ _)))
 show wpAny _ _ (Builtin.List.listSubscript? (.int k t) >>= _) _ _ s
 refine wpAny_bind (wpAny_listSubscript_int (fitsIndex_of h0 (by lia)) ?_)
 obtain⟨j,rfl⟩:=Int.eq_ofNat_of_zero_le h0
 walk_at "c j"
 have hk':j<vs.length:=by simpa using hk
 have hx':vs.toArray[j]?=some vs[j]:=by simp[hk']
 show wpAny _ _ ((seqItemAt l j >>= λ r=>pure (r.map (j,·))) >>= _) _ _ s
 refine wpAny_bind (wpAny_bind (wpAny_seqItemAt hl rfl (wpAny_pure ?_)))
 rw[hx']
 show wpAny _ _ (setSeqItemAt l j v >>= _) _ _ s
 obtain⟨n',em⟩:=Jx (·.setIfInBounds j v) vs n
 walk_at "c n'"
 have ee:(vs.toArray.setIfInBounds j v).toList=vs.set j v:=by simp
 rw[ee] at em
 have hfin:(s.heap.update l (Obj.mapSeq (·.setIfInBounds j v))).get? l=some (A6 (vs.set j v) n'):=by
  rw[Heap.get?_update_self _ hl (by rw[em];rfl),em]
 refine wpAny_bind (wpAny_setSeqItemAt hl rfl ?_)
 first
  | exact wpAny_bind (wpAny_pure (wpAny_pure ⟨.none,rfl,wpAny_pure (h _ _ (Heap.SameBut.update ..) hfin)⟩))
  | exact wpAny_pure ⟨.none,rfl,wpAny_pure (h _ _ (Heap.SameBut.update ..) hfin)⟩
section
variable {w:World} {S:List Addr} {s₀:Shared} {L:Addr} {ref:Heap} {m:SV} {news:AO} {s:Shared} {A:Around} {E E':VP} {env:Env}
theorem n_forWT {I:Addr} {fp wr:List Addr} {n:Nat} {Pt:Nat→Array Value→Prop} {St:Nat→Heap→Prop} {Mid:Nat→Addr→Heap→Prop} {elts:List PySem.Expr} {kk:Nat} {pos:Pos} {body orelse:List Stmt} {Q:FP}
  (W:WalksT PySem.Challenge.pw_wv0051_01 w A I fp wr n Pt St Mid) (D:Cl w S s₀ L ref m news s) (hst:St 0 s.heap) (hwr:∀ b∈wr,s₀.heap.get? b=none∧b≠L∧@LE.le Nat _ 317 b)
  (Inv:Nat→(SV)→Shared→Prop) (stable:∀ i m z z',(∀ b o,b∉wr→z.heap.get? b=some o→z'.heap.get? b=some o)→z.toks≤z'.toks→Inv i m z→Inv i m z') (h0:Inv 0 m s)
  (turn:∀ i t vals m' z,i<n→Pt i vals→Inv i m' z→Cl w S s₀ L z.heap m' [] z→z.heap.IsTuple t vals→wpAny (MD w) A (assign (.Tuple elts kk pos) env (.ref t)) (λ _ s₂=>wpAny (MD w) A (execs body env) (Ac w S s₀ L fp Inv Q i z) (λ _ _=>False) s₂) (λ _ _=>False) z)
  (done:∀ m' z,Cl w S s₀ L z.heap m' [] z→Inv n m' z→wpAny (MD w) A (execs orelse env) Q (λ _ _=>False) z) :
  codeAny (MD w) A (.forLoop (.Tuple elts kk pos) (.ref I) body orelse env) (λ r s'=>match r with|.ok f=>Q f s'|.error e=>E e s') s:=by
 walk_at "c w S s₀ L ref m news s A E env I fp wr n Pt St Mid elts kk pos body orelse Q W D hst hwr Inv stable h0 turn done"
 refine codeAny_forLoop_any (λ k z=>∃ i m',Inv i m' z∧St i z.heap∧Cl w S s₀ L z.heap m' [] z∧i≤n∧k=n+1-i) ?_ (n+1) ⟨0,m,h0,hst,D.rebase,Nat.zero_le _,rfl⟩
 rintro k z ⟨i,m',hx,hs,Dz,hi,rfl⟩
 walk_at "c z i m'"
 by_cases hlt:i<n
 ·refine wpAny_with_toks (Nat.le_refl z.toks) (W.item i z _ _ hlt hs ?_)
  walk_at " t vals h₁ tk₁ hP _ hT hM hk₁ htk"
  have D1:=Dz.outs (t:=tk₁) hwr hk₁ htk
  refine W.go elts kk pos i t _ _ _ hM ?_
  walk_at " h₂ hs₂ hk₂"
  have D2:=D1.outs (t:=tk₁) hwr hk₂ (Nat.le_refl _)
  have hT2:h₂.IsTuple t vals:=by
   obtain⟨o,ho,r⟩:=hT
   walk_at "c o"
   exact⟨o,hk₂ _ _ (W.apart i t h₁ hM) ho,r⟩
  have hx2:Inv i m' {z with heap:=h₂,toks:=tk₁}:=stable i m' z _ (λ b o hb e=>hk₂ b o hb (hk₁ b o hb e)) htk hx
  refine wpAny_mono (turn i t vals m' _ hlt hP hx2 D2 hT2) ?_ λ _ _ e=>e.elim
  walk_at " _ s₂ h₂'"
  refine wpAny_mono h₂' ?_ λ _ _ e=>e.elim
  walk_at " f s₃ h₃"
  have fin:(∃ m'' ref'' news'',Cl w S s₀ L ref'' m'' news'' s₃∧Inv (i+1) m'' s₃∧(∀ b∈fp,∀ o,h₂.get? b=some o→s₃.heap.get? b=some o))→∃ k',k'<n+1-i∧∃ i m',Inv i m' s₃∧St i s₃.heap∧Cl w S s₀ L s₃.heap m' [] s₃∧i≤n∧k'=n+1-i:=by
   rintro ⟨m'',_,_,D3,hx3,hf⟩
   walk_at "c m''"
   exact⟨n+1-(i+1),by lia,i+1,m'',hx3,W.frame _ _ _ hs₂ hf,D3.rebase,hlt,rfl⟩
  cases f with
  | next=>exact fin h₃
  | cont=>exact fin h₃
  | brk=>exact h₃
  | ret v=>exact h₃
 ·have hin:i=n:=by lia
  subst hin
  refine wpAny_with_toks (Nat.le_refl z.toks) (W.done z _ _ hs ?_)
  walk_at " h₁ tk₁ hk₁ htk"
  exact wpAny_mono (done m' _ (Dz.outs (t:=tk₁) hwr hk₁ htk) (stable i m' z _ hk₁ htk hx)) (λ f s₃ h₃=>h₃) λ _ _ e=>e.elim
end
noncomputable def Fc (c n:Nat):Str:=⟨(List.replicate n c).toArray⟩
theorem Jc (c n:Nat):(Fc c n).length=n:=by simp[Fc,Str.length]
theorem Qf:∀ (c:Nat) (n:Nat),
  Txt.mul ⟨#[c]⟩ (n:Int)=Fc c n:=by
 walk_at " c n"
 unfold Txt.mul Fc
 by_cases h:(n:Int)<1
 ·have:n=0:=by lia
  subst this;rfl
 ·rw[if_neg h]
  by_cases h1:n=1
  ·subst h1;rfl
  ·rw[if_neg (by simp[Str.length];lia)]
   congr 1
   have:∀ (k:Nat) (acc:Array Nat),(List.replicate k #[c]).foldl (·++·) acc=acc++(List.replicate k c).toArray:=by
    walk_at " k"
    induction k with
    | zero=>intro acc;simp
    | succ k ih=>intro acc;rw[List.replicate_succ,List.foldl_cons,ih];apply Array.toList_inj.mp;simp[List.replicate_succ]
   rw[Int.toNat_natCast,this];simp
theorem Mg {w:World} {S:List Addr} {s₀ s:Shared} {L:Addr} {ref:Heap} {m:SV} {news:AO} {A:Around} {E:VP} {c:Nat} {t u:Tok} {n:Int} {Q:VP} (D:Cl w S s₀ L ref m news s) (h0:0≤n) (hn:n≤1000)
  (h:∀ s' t',Cl w S s₀ L ref m news s'→Q (.str (Fc c n.toNat) t') s'):wpAny (MD w) A (binaryOp .Mult (.str ⟨#[c]⟩ t) (.int n u)) Q E s:=by
 refine wpAny_with_toks (Nat.le_refl s.toks) (SB.mul ⟨by simp;lia,λ h1 h2=>?_,λ h1 h2=>?_⟩ (λ t' k hk=>?_))
 ·have:(⟨#[c]⟩:Str).length=1:=rfl
  rw[this]
  have h3:(1:Int)≤(2 ^ 63-1) / n:=(Int.le_ediv_iff_mul_le (by lia)).mpr (by lia)
  lia
 ·have:(⟨#[c]⟩:Str).length=1:=rfl
  rw[this]
  have h4:n.toNat≤1000:=by lia
  have h5:(1000:Nat)≤sizeLine:=by decide +kernel
  have h6:¬ (1*n.toNat > sizeLine):=by lia
  show decide (1*n.toNat > sizeLine)=false
  simpa using h6
 ·obtain⟨k',rfl⟩:∃ k':Nat,n=k':=⟨n.toNat,by lia⟩
  rw[Qf]
  have:=D.grow (h':=s.heap) (t:=k) (λ _ _ e=>e) hk
  simpa using h _ t' this
theorem Cl.mut {w:World} {S:List Addr} {s₀ s:Shared} {L:Addr} {ref:Heap} {m:SV} {news:AO} (D:Cl w S s₀ L ref m news s) {a:Addr} (h0:s₀.heap.get? a=none) (haL:a≠L) (h3:@LE.le Nat _ 317 a) {h':Heap} (hs:Heap.SameBut a s.heap h') :
  Cl w S s₀ L h' m [] {s with heap:=h'} :=
 D.outs (wr:=[a]) (t:=s.toks) (λ b hb=>by rw[List.mem_singleton.mp hb];exact⟨h0,haL,h3⟩) (λ b o hb e=>(hs.2 b λ q=>hb (List.mem_singleton.mpr q)).trans e) (Nat.le_refl _)
noncomputable def S0 (p:Int):Int:=3+p.fmod 2
noncomputable def S1 (p:Int):Int:=S0 p*(1+(p.fdiv 2).fmod 2)
noncomputable def S2 (p:Int):Int:=S1 p*(1+(p.fdiv 4).fmod 3)
noncomputable def S3 (p:Int):Int:=S2 p*(1+(p.fdiv 12).fmod 2)
noncomputable def Cp (p:Int):List Int:=[S0 p,S1 p,S2 p,S3 p]
noncomputable def W0 (p:Int):Int:=S3 p*(1+(p.fdiv 24).fmod 2)
noncomputable def W1 (p:Int):Int:=S3 p+(p.fdiv 48).fmod 10
noncomputable def B0 (p:Int):Int:=S3 p*(p.fdiv 480).fmod 2
noncomputable def signL:List Str:=[" ", ";", ",; ", "; "]
noncomputable def As (p:Int):Str:=signL.getD ((p.fdiv 960).fmod 4).toNat ""
noncomputable def I8 (p c:Int):Int:=(Cp p).getD (c.fmod 4).toNat 0
noncomputable def Et (p c:Int):Int:=1+(c.fdiv 4).fmod (I8 p c-2)
noncomputable def Fd (p c:Int) (k:Nat):Str×Str:=(Fc 32 (Et p c).toNat,Fc (97+k) (I8 p c-1-Et p c).toNat++(";" : Str))
theorem Bv (a:Int) {b:Int} (h:0<b):0≤a.fmod b∧a.fmod b<b:=⟨Int.fmod_nonneg_of_pos a h,Int.fmod_lt_of_pos a h⟩
theorem ints_set {vs:List Value} {ns:List Int} (H:IntsAre vs ns):∀ (j:Nat) (a:Int) (t:Tok),IntsAre (vs.set j (.int a t)) (ns.set j a):=by
 induction H with
 | nil=>intro _ _ _;exact .nil
 | cons i u h ih=>intro j a t;exact j.casesOn (.cons a t h) λ j=>.cons i u (ih j a t)
theorem draw1:∀ (w:World) {A:Around} {s:Shared} {L lsc:Addr} {vsc:List Value} {nsc:Nat} {scr:List Int} (R:A3 (A.deeper (fenv Az 289 L)) 8) {s₁:Shared} (hsc:s.heap.get? lsc=some (A6 vsc nsc)) (hsc3:@LE.le Nat _ 317 lsc) (hvs:IntsAre vsc scr) (hn:vsc.length≤500) (D:Cl w [] s L s.heap (λ y=>([("script", Value.ref lsc)]:List (Str×Value)).reverse.lookup y) [] s₁) {Q:FP} (h:∀ m z lc vc k cs,Cl w [] s L z.heap m [] z→m "cells" = some (.ref lc)→z.heap.get? lc=some (A6 vc k)→@LE.le Nat _ 317 lc→s.heap.get? lc=none→IntsAre vc cs→cs.length=9 →
   wpAny (MD w) (A.deeper (fenv Az 289 L)) (execs (Bq.drop 2) (fenv Az 289 L)) Q (λ _ _=>False) z),
  wpAny (MD w) (A.deeper (fenv Az 289 L)) (execs Bq (fenv Az 289 L)) Q (λ _ _=>False) s₁:=by
 walk_at " w A s L lsc vsc nsc scr R s₁ hsc hsc3 hvs hn D Q h"
 have hnl:lsc≠L:=D.ne0 hsc
 refine wpAny_execs_cons ?_
 walk_at "s3"
 rename_i s2 lc D2 hlc3 hlc0 s3 D3
 refine wpAny_For ?_
 refine Am ?_
 walk_at "t enumerate"
 refine Co (spliced_more ?_)
 walk_at "s3"
 have hl3:=D3.old hsc hsc3 hnl
 refine⟨Gk,call_enumerate_list (Al hl3) ?_⟩
 walk_at " h2 he hit hsz hk"
 have D4:=D3.grow (h':=h2) (t:=s3.toks) hk (Nat.le_refl _)
 have hcl:s3.heap.get? lc=some (A6 _ 0):=D3.at 0 rfl
 have hlcL:lc≠L:=(D3.nw _ (.head _)).2.1
 have hL2:h2.IsList lsc vsc.toArray:=Al (hk _ _ hl3)
 have W:∀ A':Around,A'.handled=none→WalksT PySem.Challenge.pw_wv0051_01 w A' (s3.heap.objs.size+1) _ _ _ _ _ _:=λ A' hA=>WalksT.enumerate hA (s3.heap.objs.size+1) s3.heap.objs.size lsc (Nat.succ_ne_self _) (Nat.ne_of_lt (Nat.lt_succ_of_lt (Heap.lt_size hl3))) (Nat.ne_of_lt (Heap.lt_size hl3)) vsc.toArray
 refine (W _ R.hd).self 0 _ _ _ ⟨⟨_,he⟩,hit,hL2⟩ ?_
 have hL1:@LT.lt Nat _ L s3.heap.objs.size:=D3.ns.lt
 have g0:∀ k,s.heap.get? (s3.heap.objs.size+k)=none:=λ k=>Bc (Nat.le_trans D3.st.size (Nat.le_add_right _ _))
 have hlc_lt:=Heap.lt_size hcl
 refine n_forWT (W _ R.hd) D4 ⟨⟨_,he⟩,hit,hL2⟩ ?_ (λ i m' z=>m' "cells" = some (.ref lc)∧∃ vc k cs,z.heap.get? lc=some (A6 vc k)∧IntsAre vc cs∧cs.length=9) ?_ ?_ ?_ ?_
 ·walk_at " b hb"
  rcases List.mem_cons.mp hb with rfl|hb
  ·exact⟨g0 1,Nat.ne_of_gt (Nat.lt_succ_of_lt hL1),Nat.le_succ_of_le D3.good.vol.c⟩
  ·rw[List.mem_singleton.mp hb]
   exact⟨g0 0,Nat.ne_of_gt hL1,D3.good.vol.c⟩
 ·rintro i m z z' hk' ht ⟨em,vc,k,cs,e1,e2⟩
  walk_at "c i m z z' hk' ht em vc k cs"
  refine⟨em,vc,k,cs,hk' _ _ ?_ e1,e2⟩
  walk_at " hb"
  rcases List.mem_cons.mp hb with e|hb
  ·exact absurd e (Nat.ne_of_lt (Nat.lt_succ_of_lt hlc_lt))
  ·exact absurd (List.mem_singleton.mp hb) (Nat.ne_of_lt hlc_lt)
 ·refine⟨rfl,_,_,[762,9,23,0,14,3,5,30,4],hk _ _ hcl,?_,rfl⟩
  exact .cons _ _ (.cons _ _ (.cons _ _ (.cons _ _ (.cons _ _ (.cons _ _ (.cons _ _ (.cons _ _ (.cons _ _ .nil))))))))
 ·rintro i t vals m' z hi ⟨ti,x,hx,rfl⟩ ⟨em,vc,k,cs,e1,e2,e3⟩ Dz hT
  walk_at "c i t m' z hi ti x hx em vc k cs"
  refine Ch Dz.rebase R.hd hT rfl rfl ?_
  walk_at " z2 F2"
  refine assignInOrder_cons (assign_Name ?_)
  refine An F2 ?_ (by kernel_rfl) (by kernel_rfl)
  walk_at " z3 F3"
  refine assignInOrder_cons (assign_Name ?_)
  refine An F3 ?_ (by kernel_rfl) (by kernel_rfl)
  walk_at " z4 F4"
  refine assignInOrder_nil ?_
  have hc4:(λ y=>if y=Str.ofString "x" then some x else (λ y=>if y=Str.ofString "place" then some (Value.int (i:Int) ti) else m' y) y) "cells" = some (.ref lc):=em
  have hi4:(λ y=>if y=Str.ofString "x" then some x else (λ y=>if y=Str.ofString "place" then some (Value.int (i:Int) ti) else m' y) y) "place" = some (.int (i:Int) ti):=(if_neg (by decide)).trans (if_pos rfl)
  have hx4:(λ y=>if y=Str.ofString "x" then some x else (λ y=>if y=Str.ofString "place" then some (Value.int (i:Int) ti) else m' y) y) "x" = some x:=if_pos rfl
  generalize (λ y=>if y=Str.ofString "x" then some x else (λ y=>if y=Str.ofString "place" then some (Value.int (i:Int) ti) else m' y) y)=m4 at *
  obtain⟨xi,tx,rfl,hxi⟩:=hvs.at i x (by simpa using hx)
  walk_at "c xi tx"
  refine wpAny_execs_cons ?_
  refine wpAny_AugAssign_SubscriptAny ?_
  refine Ai F4 hc4 ?_
  walk_at "s3"
  refine Ai F4 hi4 ?_
  walk_at "s3"
  rename_i z5 t5 F5 ht5
  refine Cf F5 (by decide) ?_
  walk_at " z6 t6 F6 ht6"
  obtain⟨hb0,hb9⟩:=Bv (i:Int) (b:=9) (by decide)
  generalize ((i:Int)).fmod 9=j at *
  have hlen:=e2.length
  have hjl:j.toNat<vc.length:=by lia
  have e6:z6.heap.get? lc=some (A6 vc k):=F6.old e1 hlc3 hlcL
  obtain⟨v,hv⟩:∃ v,vc[j.toNat]?=some v:=⟨_,List.getElem?_eq_getElem hjl⟩
  walk_at "c v"
  obtain⟨c,tc,rfl,hc⟩:=e2.at _ _ hv
  walk_at "c c tc"
  refine wpAny_getItem_list (Al e6) hb0 (by lia) (by simpa using hv) ?_
  refine Ai F6 hx4 ?_
  refine n_iadd F6 ?_
  walk_at " z7 t7 F7 ht7"
  have e7:z7.heap.get? lc=some (A6 vc k):=F7.old e1 hlc3 hlcL
  refine l_setAt e7 hb0 hjl (by lia) ?_
  walk_at " h8 n8 hs8 hg8"
  have F8:=F7.mut hlc0 hlcL hlc3 hs8
  refine wpAny_execs_nil ?_
  refine⟨_,_,_,F8,⟨hc4,_,n8,cs.set j.toNat (c+xi),hg8,?_,by simpa using e3⟩,?_⟩
  ·exact ints_set e2 _ _ _
  ·walk_at " b hb o e"
   have hb':b≠lc∧b≠L∧@LE.le Nat _ 317 b:=by
    rcases List.mem_cons.mp hb with rfl|hb
    ·exact⟨Nat.ne_of_gt (Nat.lt_succ_of_lt hlc_lt),Nat.ne_of_gt (Nat.lt_succ_of_lt hL1),Nat.le_succ_of_le D3.good.vol.c⟩
    rcases List.mem_cons.mp hb with rfl|hb
    ·exact⟨Nat.ne_of_gt hlc_lt,Nat.ne_of_gt hL1,D3.good.vol.c⟩
    rw[List.mem_singleton.mp hb]
    exact⟨(λ q=>by rw[← q,hsc] at hlc0;cases hlc0),hnl,hsc3⟩
   exact (hs8.2 b hb'.1).trans (F7.old e hb'.2.2 hb'.2.1)
 ·rintro m' z Dz ⟨em,vc,k,cs,e1,e2,e3⟩
  walk_at "c m' z Dz em vc k cs"
  refine wpAny_execs_nil ?_
  exact h m' z lc vc k cs Dz em e1 hlc3 hlc0 e2 e3
theorem Ff {a b:Int} (h0:0≤a) (h1:a<1000000):IntMulOk a b:=by
 refine IntMulOk.of_left ?_
 unfold Builtin.Int.intBits
 split
 ·lia
 ·rename_i hne
  have hne':a≠0:=by simpa using hne
  have:a.natAbs.log2<30:=(Nat.log2_lt (by lia)).mpr (by lia)
  lia
theorem Bo:∀ (p:Int),
  3≤S0 p∧S0 p≤4∧S0 p≤S1 p∧S1 p≤8∧S1 p≤S2 p∧S2 p≤24∧S2 p≤S3 p∧S3 p≤48:=by
 walk_at " p"
 have h1:=Bv p (b:=2) (by decide)
 have h2:=Bv (p.fdiv 2) (b:=2) (by decide)
 have h3:=Bv (p.fdiv 4) (b:=3) (by decide)
 have h4:=Bv (p.fdiv 12) (b:=2) (by decide)
 unfold S3 S2 S1 S0
 generalize p.fmod 2=a at *
 generalize (p.fdiv 2).fmod 2=b at *
 generalize (p.fdiv 4).fmod 3=c at *
 generalize (p.fdiv 12).fmod 2=d at *
 have ha:a=0∨a=1:=by lia
 have hb:b=0∨b=1:=by lia
 have hc:c=0∨c=1∨c=2:=by lia
 have hd:d=0∨d=1:=by lia
 rcases ha with rfl|rfl<;>rcases hb with rfl|rfl<;>rcases hc with rfl|rfl|rfl<;>rcases hd with rfl|rfl<;>decide
theorem draw2:∀ (w:World) {A:Around} {s z:Shared} {L lc:Addr} {m:SV} {vc:List Value} {k:Nat} {cs:List Int} (R:A3 (A.deeper (fenv Az 289 L)) 8) (D:Cl w [] s L z.heap m [] z) (em:m "cells" = some (.ref lc)) (hlc:z.heap.get? lc=some (A6 vc k)) (hlc3:@LE.le Nat _ 317 lc) (hlc0:s.heap.get? lc=none) (hcs:IntsAre vc cs) (h9:cs.length=9) {Q:FP} (h:∀ m z ls vs k2 tp,Cl w [] s L z.heap m [] z→m "cells" = some (.ref lc)→m "sizes" = some (.ref ls)→m "plan" = some (.int (cs.getD 0 0) tp)→z.heap.get? lc=some (A6 vc k)→z.heap.get? ls=some (A6 vs k2)→@LE.le Nat _ 317 ls→s.heap.get? ls=none→ls≠L→IntsAre vs (Cp (cs.getD 0 0)) →
   wpAny (MD w) (A.deeper (fenv Az 289 L)) (execs (Bq.drop 7) (fenv Az 289 L)) Q (λ _ _=>False) z),
  wpAny (MD w) (A.deeper (fenv Az 289 L)) (execs (Bq.drop 2) (fenv Az 289 L)) Q (λ _ _=>False) z:=by
 walk_at " w A s z L lc m vc k cs R D em hlc hlc3 hlc0 hcs h9 Q h"
 have hlcL:lc≠L:=by
  rintro rfl
  obtain⟨o,es,ep,e,hd,_⟩:=D.ns
  walk_at "c o es ep"
  rw[hlc] at e;cases e;cases hd
 have hlen:=hcs.length
 obtain⟨v,hv⟩:∃ v,vc[0]?=some v:=⟨_,List.getElem?_eq_getElem (by lia)⟩
 walk_at "c v"
 obtain⟨p,tp,rfl,hp⟩:=hcs.at _ _ hv
 walk_at "c p tp"
 have hp0:cs.getD 0 0=p:=by simp[List.getD,hp]
 rw[hp0] at h
 have hS:=Bo p
 refine wpAny_execs_cons ?_
 walk_at "s3"
 refine Aj ?_
 refine Ai D em ?_
 walk_at "s3"
 rename_i z2 t2 D2 ht2
 have hl2:=D2.old hlc hlc3 hlcL
 refine Dp hl2 (by decide) (by simpa using hv) (by lia) ?_
 walk_at "s3"
 refine Cf (by assumption) (by decide) ?_
 walk_at " z3 t3 D3 ht3"
 walk_at "s3"
 rename_i z4 t4 D4 ht4 z5 ls D5 hls3 hls0 z6 D6
 have hls6:z6.heap.get? ls=some (A6 [.int (S0 p) t4] 0):=D6.at 0 rfl
 have hlsL:ls≠L:=(D6.nw _ (.head _)).2.1
 have hlc6:=D6.old hlc hlc3 hlcL
 have hne:lc≠ls:=by
  rintro rfl
  rw[hlc6] at hls6
  injection hls6 with q
  injection q with _ _ q
  injection q with q
  have:vc.length=1:=by have:=congrArg Array.size q;simpa using this
  lia
 have hiv6:IntsAre [.int (S0 p) t4] [S0 p]:=.cons _ _ .nil
 have E6:=D6.rebase
 refine Ak ?_
 walk_at "s3"
 walk_at " pl"
 refine Calls.getMethod_list_append hls6 rfl rfl ?_
 refine Co (spliced_more ?_)
 walk_at "s3"
 refine Aj ?_
 walk_at "s3"
 rename_i za6 ta6 Da6 hta6
 refine Dp (Da6.old hls6 hls3 hlsL) (by decide) (by rfl) (by simp) ?_
 walk_at "s3"
 refine Cg (by assumption) (by decide) (PyProof.noPylong_small (by decide)) ?_
 walk_at " zb6 tb6 Db6 htb6"
 walk_at "s3"
 refine Cf (by assumption) (by decide) ?_
 walk_at " zc6 tc6 Dc6 htc6"
 walk_at "s3"
 refine Jz (by assumption) (Ff (by lia) (by lia)) ?_
 walk_at " zd6 td6 Dd6 htd6"
 refine spliced_none ⟨Bh,Fe (Dd6.old hls6 hls3 hlsL) (by simp) ?_⟩
 walk_at " h6 hs6 hg6"
 have hlc7:=(hs6.2 lc hne).trans (Dd6.old hlc6 hlc3 hlcL)
 have hls7:h6.get? ls=some (A6 [.int (S0 p) t4,.int (S1 p) td6] _):=hg6
 have hiv7:IntsAre [.int (S0 p) t4,.int (S1 p) td6] [S0 p,S1 p]:=ksk_snoc hiv6
 have E7:=Dd6.mut hls0 hlsL hls3 hs6
 walk_at "s3"
 refine Ak ?_
 walk_at "s3"
 walk_at " pl"
 refine Calls.getMethod_list_append hls7 rfl rfl ?_
 refine Co (spliced_more ?_)
 walk_at "s3"
 refine Aj ?_
 walk_at "s3"
 rename_i za7 ta7 Da7 hta7
 refine Dp (Da7.old hls7 hls3 hlsL) (by decide) (by rfl) (by simp) ?_
 walk_at "s3"
 refine Cg (by assumption) (by decide) (PyProof.noPylong_small (by decide)) ?_
 walk_at " zb7 tb7 Db7 htb7"
 walk_at "s3"
 refine Cf (by assumption) (by decide) ?_
 walk_at " zc7 tc7 Dc7 htc7"
 walk_at "s3"
 refine Jz (by assumption) (Ff (by lia) (by lia)) ?_
 walk_at " zd7 td7 Dd7 htd7"
 refine spliced_none ⟨Bh,Fe (Dd7.old hls7 hls3 hlsL) (by simp) ?_⟩
 walk_at " h7 hs7 hg7"
 have hlc8:=(hs7.2 lc hne).trans (Dd7.old hlc7 hlc3 hlcL)
 have hls8:h7.get? ls=some (A6 [.int (S0 p) t4,.int (S1 p) td6,.int (S2 p) td7] _):=hg7
 have hiv8:IntsAre [.int (S0 p) t4,.int (S1 p) td6,.int (S2 p) td7] [S0 p,S1 p,S2 p]:=ksk_snoc hiv7
 have E8:=Dd7.mut hls0 hlsL hls3 hs7
 walk_at "s3"
 refine Ak ?_
 walk_at "s3"
 walk_at " pl"
 refine Calls.getMethod_list_append hls8 rfl rfl ?_
 refine Co (spliced_more ?_)
 walk_at "s3"
 refine Aj ?_
 walk_at "s3"
 rename_i za8 ta8 Da8 hta8
 refine Dp (Da8.old hls8 hls3 hlsL) (by decide) (by rfl) (by simp) ?_
 walk_at "s3"
 refine Cg (by assumption) (by decide) (PyProof.noPylong_small (by decide)) ?_
 walk_at " zb8 tb8 Db8 htb8"
 walk_at "s3"
 refine Cf (by assumption) (by decide) ?_
 walk_at " zc8 tc8 Dc8 htc8"
 walk_at "s3"
 refine Jz (by assumption) (Ff (by lia) (by lia)) ?_
 walk_at " zd8 td8 Dd8 htd8"
 refine spliced_none ⟨Bh,Fe (Dd8.old hls8 hls3 hlsL) (by simp) ?_⟩
 walk_at " h8 hs8 hg8"
 have hlc9:=(hs8.2 lc hne).trans (Dd8.old hlc8 hlc3 hlcL)
 have hls9:h8.get? ls=some (A6 [.int (S0 p) t4,.int (S1 p) td6,.int (S2 p) td7,.int (S3 p) td8] _):=hg8
 have hiv9:IntsAre [.int (S0 p) t4,.int (S1 p) td6,.int (S2 p) td7,.int (S3 p) td8] [S0 p,S1 p,S2 p,S3 p]:=ksk_snoc hiv8
 have E9:=Dd8.mut hls0 hlsL hls3 hs8
 exact h _ _ ls _ _ tp E9 em rfl rfl hlc9 hls9 hls3 hls0 hlsL hiv9
theorem abc_item:∀ (i:Nat) (h:i<8),
  (seqIndex? (0+(i:Int)) (Str.ofString "abcdefgh").length).bind ((Str.ofString "abcdefgh").cps[·]?)=some (97+i):=by
 walk_at " i h"
 have:i=0∨i=1∨i=2∨i=3∨i=4∨i=5∨i=6∨i=7:=by lia
 rcases this with rfl|rfl|rfl|rfl|rfl|rfl|rfl|rfl<;>decide +kernel
theorem Qr:∀ (p c:Int),
  ∃ z,(Cp p)[(c.fmod 4).toNat]?=some z∧I8 p c=z∧3≤z∧z≤48∧z∈Cp p:=by
 walk_at " p c"
 obtain⟨h0,h4⟩:=Bv c (b:=4) (by decide)
 have hS:=Bo p
 have hl:(c.fmod 4).toNat<(Cp p).length:=by show _<4;lia
 refine⟨(Cp p)[(c.fmod 4).toNat],List.getElem?_eq_getElem hl,by simp[I8,List.getD,hl],?_⟩
 have hm:(Cp p)[(c.fmod 4).toNat]∈Cp p:=List.getElem_mem hl
 generalize (Cp p)[(c.fmod 4).toNat]=z at *
 refine⟨?_,?_,hm⟩<;>(simp[Cp] at hm;rcases hm with rfl|rfl|rfl|rfl<;>omega)
theorem Gn {w:World} {S:List Addr} {s₀ s:Shared} {L:Addr} {ref:Heap} {m:SV} {news:AO} {A:Around} {E:VP} {x y:Str} {t u:Tok} {Q:VP} (D:Cl w S s₀ L ref m news s) (hsz:x.length+y.length≤100000)
  (h:∀ s' t',Cl w S s₀ L ref m news s'→Q (.str (x++y) t') s'):wpAny (MD w) A (binaryOp .Add (.str x t) (.str y u)) Q E s:=by
 refine wpAny_with_toks (Nat.le_refl s.toks) (PyProof.Rows.add_str (λ t' k hk=>?_) (Nat.le_trans hsz (by decide +kernel)))
 have:=D.grow (h':=s.heap) (t:=k) (λ _ _ e=>e) hk
 exact h _ t' this
noncomputable def I6 (h:Heap) (p:Int) (cs:List Int) (ys:List A0):Prop:=∀ j y,ys[j]?=some y→Ar h y∧(y.b,y.p)=Fd p (cs.getD (j+1) 0) j
theorem draw3:∀ (w:World) {A:Around} {s z:Shared} {L lc ls:Addr} {m:SV} {vc vs:List Value} {k k2:Nat} {cs:List Int} {tp:Tok} (R:A3 (A.deeper (fenv Az 289 L)) 8) (D:Cl w [] s L z.heap m [] z) (em:m "cells" = some (.ref lc)) (es:m "sizes" = some (.ref ls)) (ep:m "plan" = some (.int (cs.getD 0 0) tp)) (hlc:z.heap.get? lc=some (A6 vc k)) (hls:z.heap.get? ls=some (A6 vs k2)) (hlc3:@LE.le Nat _ 317 lc) (hls3:@LE.le Nat _ 317 ls) (hcs:IntsAre vc cs) (h9:cs.length=9) (hvs:IntsAre vs (Cp (cs.getD 0 0))) {Q:FP} (h:∀ m z lw ys k3,Cl w [] s L z.heap m [] z→m "sizes" = some (.ref ls)→m "plan" = some (.int (cs.getD 0 0) tp)→m "words" = some (.ref lw)→z.heap.get? ls=some (A6 vs k2)→z.heap.get? lw=some (A6 (ys.map λ y=>Value.ref y.a) k3)→@LE.le Nat _ 317 lw→s.heap.get? lw=none→lw≠L→ys.length=8→I6 z.heap (cs.getD 0 0) cs ys →
   wpAny (MD w) (A.deeper (fenv Az 289 L)) (execs (Bq.drop 9) (fenv Az 289 L)) Q (λ _ _=>False) z),
  wpAny (MD w) (A.deeper (fenv Az 289 L)) (execs (Bq.drop 7) (fenv Az 289 L)) Q (λ _ _=>False) z:=by
 walk_at " w A s z L lc ls m vc vs k k2 cs tp R D em es ep hlc hls hlc3 hls3 hcs h9 hvs Q h"
 have neL:∀ {b:Addr} {o:Obj},z.heap.get? b=some o→(∀ es n,o.data≠.dict es n)→b≠L:=λ e hd=>D.neSeq e hd
 have hlcL:=neL hlc λ _ _ h=>by cases h
 have hlsL:=neL hls λ _ _ h=>by cases h
 have hlenc:=hcs.length
 have hlens:=hvs.length
 generalize hpp:cs.getD 0 0=p at *
 have hls4:(Cp p).length=4:=rfl
 refine wpAny_execs_cons ?_
 refine wpAny_Assign_Name ?_ (by kernel_rfl)
 walk_at "s3"
 rename_i z2 lw D2 hlw3 hlw0 z3 D3
 have hlwL:lw≠L:=(D3.nw _ (.head _)).2.1
 have hlw3':z3.heap.get? lw=some (A6 [] 0):=D3.at 0 rfl
 have hc3:=D3.old hlc hlc3 hlcL
 have hs3:=D3.old hls hls3 hlsL
 have nesl:∀ {l l2:Addr} {v v2:List Value} {n n2:Nat},z3.heap.get? l=some (A6 v n)→z3.heap.get? l2=some (A6 v2 n2)→v.length≠v2.length→l≠l2:=by
  rintro l l2 v v2 n n2 e1 e2 hn rfl
  walk_at "c l v v2 n n2"
  rw[e1] at e2
  injection e2 with q
  injection q with _ _ q
  injection q with q
  exact hn (by have:=congrArg Array.size q;simpa using this)
 have hnc:lc≠lw:=nesl hc3 hlw3' (by rw[hlenc,h9];decide)
 have hns:ls≠lw:=nesl hs3 hlw3' (by rw[hlens,hls4];decide)
 have D4:=D3.rebase
 refine wpAny_For ?_
 refine Am ?_
 walk_at "t range"
 refine Co (spliced_more ?_)
 walk_at "s3"
 rename_i z5 t5 D5 ht5
 refine⟨Gk,Mi D5 ?_⟩
 walk_at " z6 r t6 v6 D6"
 have hsm:=Im 0 8 (by decide) (by decide) (by decide) (by decide)
 refine Jy (n:=8) R.hd D6 hsm.1 hsm.2 (λ I i m' z'=>m' "cells" = some (.ref lc)∧m' "sizes" = some (.ref ls)∧m' "plan" = some (.int p tp)∧m' "words" = some (.ref lw)∧z'.heap.get? lc=some (A6 vc k)∧z'.heap.get? ls=some (A6 vs k2)∧lc≠I∧ls≠I∧lw≠I ∧
  ∃ ys k3,z'.heap.get? lw=some (A6 (ys.map λ y=>Value.ref y.a) k3)∧ys.length=i∧I6 z'.heap p cs ys∧∀ y∈ys,y.a≠I) ?_ ?_ ?_ ?_
 ·rintro I i m z z' hk ht ⟨e1,e2,e3,e4,e5,e6,n1,n2,n3,ys,k3,e7,e8,e9,e10⟩
  walk_at "c I i m z z' hk ht e1 e2 e3 e4 e5 e6 n1 n2 n3 ys k3"
  refine⟨e1,e2,e3,e4,hk _ _ n1 e5,hk _ _ n2 e6,n1,n2,n3,ys,k3,hk _ _ n3 e7,e8,λ j y hy=>⟨⟨hk _ _ (e10 y (List.mem_of_getElem? hy)) (e9 j y hy).1.1,(e9 j y hy).1.2⟩,(e9 j y hy).2⟩,e10⟩
 ·walk_at " I s' hI F"
  have g1:=D6.old hc3 hlc3 hlcL
  have g2:=D6.old hs3 hls3 hlsL
  have g3:=D6.old hlw3' hlw3 hlwL
  have ne:∀ {b:Addr} {o:Obj},z6.heap.get? b=some o→b≠I:=λ e q=>by rw[q,hI] at e;cases e
  exact⟨em,es,ep,rfl,F.old g1 hlc3 hlcL,F.old g2 hls3 hlsL,ne g1,ne g2,ne g3,[],0,F.old g3 hlw3 hlwL,rfl,λ j y hy=>by simp at hy,λ _ h=>(nomatch h)⟩
 ·rintro I i m' z' tk hi hI3 hIL hI0 hIz ⟨e1,e2,e3,e4,e5,e6,n1,n2,n3,ys,k3,e7,e8,e9,e10⟩ Dz
  walk_at "c I i m' z' tk hi hI3 hIL hI0 hIz e1 e2 e3 e4 e5 e6 n1 n2 n3 ys k3"
  refine assign_Name ?_
  refine An Dz ?_ (by kernel_rfl) (by kernel_rfl)
  walk_at " z1 D1"
  have ec:(λ y=>if y=Str.ofString "k" then some (Value.int (0+(i:Int)) tk) else m' y) "cells" = some (.ref lc):=e1
  have es':(λ y=>if y=Str.ofString "k" then some (Value.int (0+(i:Int)) tk) else m' y) "sizes" = some (.ref ls):=e2
  have ep':(λ y=>if y=Str.ofString "k" then some (Value.int (0+(i:Int)) tk) else m' y) "plan" = some (.int p tp):=e3
  have ew':(λ y=>if y=Str.ofString "k" then some (Value.int (0+(i:Int)) tk) else m' y) "words" = some (.ref lw):=e4
  have ek':(λ y=>if y=Str.ofString "k" then some (Value.int (0+(i:Int)) tk) else m' y) "k" = some (Value.int (0+(i:Int)) tk):=if_pos rfl
  generalize (λ y=>if y=Str.ofString "k" then some (Value.int (0+(i:Int)) tk) else m' y)=m1 at *
  have c1:=D1.old e5 hlc3 hlcL
  have s1:=D1.old e6 hls3 hlsL
  have w1:=D1.old e7 hlw3 hlwL
  obtain⟨vcell,hvcell⟩:∃ v,vc[i+1]?=some v:=⟨_,List.getElem?_eq_getElem (by lia)⟩
  walk_at "c vcell"
  obtain⟨cell,tcell,rfl,hcell⟩:=hcs.at _ _ hvcell
  walk_at "c cell tcell"
  have hcg:cs.getD (i+1) 0=cell:=by simp[List.getD,hcell]
  obtain⟨size,hsz1,hsz2,hsz3,hsz4,_⟩:=Qr p cell
  walk_at "c size"
  obtain⟨hm0,hm4⟩:=Bv cell (b:=4) (by decide)
  have hltv:(cell.fmod 4).toNat<vs.length:=by rw[hlens,hls4];lia
  obtain⟨vsz,hvsz⟩:∃ v,vs[(cell.fmod 4).toNat]?=some v:=⟨_,List.getElem?_eq_getElem hltv⟩
  walk_at "c vsz"
  obtain⟨size',tsz,rfl,hsz'⟩:=hvs.at _ _ hvsz
  walk_at "c size' tsz"
  rw[hsz1] at hsz';cases hsz'
  walk_at "s3"
  refine Aj ?_
  refine Ai D1 ec ?_
  walk_at "s3"
  refine Ai D1 ek' ?_
  walk_at "s3"
  rename_i za ta Da hta zb tb Db htb
  have q1:(0+(i:Int)+1).toNat=i+1:=by simp
  refine Dp (Db.old e5 hlc3 hlcL) (by lia) (by rw[q1];exact hvcell) (by lia) ?_
  walk_at "s3"
  refine Aj ?_
  walk_at "s3"
  rename_i zc Dc
  refine Ai Dc es' ?_
  walk_at "s3"
  rename_i zd td Dd htd
  refine Cf Dd (by decide) ?_
  walk_at " ze te De hte"
  refine Dp (De.old e6 hls3 hlsL) hm0 hvsz (by lia) ?_
  walk_at "s3"
  rename_i zf Df zg tg Dg htg zh th Dh hth
  refine Cg Dh (by decide) (PyProof.noPylong_small (by decide)) ?_
  walk_at " zi ti Di hti"
  walk_at "s3"
  rename_i zj tj Dj htj zk tk' Dk htk
  refine Cf Dk (by lia) ?_
  walk_at " zl tl Dl htl"
  obtain⟨hb0,hb1⟩:=Bv (cell.fdiv 4) (b:=size-2) (by lia)
  have hbl:Et p cell=1+(cell.fdiv 4).fmod (size-2):=by unfold Et;rw[hsz2]
  generalize hbb:(cell.fdiv 4).fmod (size-2)=bb at *
  walk_at "s3"
  refine Ak ?_
  walk_at "s3"
  rename_i zm tm Dm htm zn Dn
  refine Ai Dn ew' ?_
  walk_at " pl"
  refine Calls.getMethod_list_append (Dn.old e7 hlw3 hlwL) rfl rfl ?_
  refine Co (spliced_more ?_)
  walk_at "s3"
  rename_i zo to' Do hto
  rw[show Str.ofString " " = (⟨#[32]⟩:Str) from by decide +kernel]
  refine Mg Do (by lia) (by lia) ?_
  walk_at " zp tp' Dp"
  walk_at "s3"
  refine Aj ?_
  walk_at "s3"
  rename_i zq tq Dq htq
  refine Ai Dq ek' ?_
  refine Kx (by simp;lia) (abc_item i hi) ?_
  have Dr:=Dq.toks 1
  walk_at "s3"
  rename_i zs ts Ds hts zt tt Dt htt zu tu Du htu
  refine Mg Du (by lia) (by lia) ?_
  walk_at " zv tv Dv"
  walk_at "s3"
  rename_i zw tw Dw htw
  have hsl:(Str.ofString ";").length=1:=by decide +kernel
  refine Gn Dw (by rw[Jc,hsl];lia) ?_
  walk_at " zx tx Dx"
  refine spliced_none ?_
  refine Ca Dx ?_ (by simp)
  walk_at " zy a Dy ha3"
  have hga:zy.heap.get? a=some (A0.obj ⟨a,Fc 32 (1+bb).toNat,tp',Fc (97+i) (size-1-(1+bb)).toNat++Str.ofString ";", tx⟩):=Dy.at 0 rfl
  have haw:a≠lw:=by
   rintro rfl
   rw[Dy.old e7 hlw3 hlwL] at hga
   injection hga with q
   injection q with q _ _
   injection q with q
   exact absurd q (by decide)
  refine spliced_none ⟨Bh,Fe (Dy.old e7 hlw3 hlwL) (by rw[List.length_map];lia) ?_⟩
  walk_at " hz hsz' hgz"
  have Dz':=Dy.mut hlw0 hlwL hlw3 hsz'
  have up:∀ {b:Addr} {o:Obj},b≠lw→@LE.le Nat _ 317 b→b≠L→z'.heap.get? b=some o→hz.get? b=some o:=λ h1 h3 hL e=>(hsz'.2 _ h1).trans (Dy.old e h3 hL)
  have hIlw:I≠lw:=Ne.symm n3
  refine wpAny_execs_nil ?_
  refine⟨_,_,_,Dz',⟨ec,es',ep',ew',up hnc hlc3 hlcL e5,up hns hls3 hlsL e6,n1,n2,n3,ys++[⟨a,Fc 32 (1+bb).toNat,tp',Fc (97+i) (size-1-(1+bb)).toNat++Str.ofString ";", tx⟩],_,by rw[List.map_append];exact hgz,by simp[e8],?_,?_⟩,?_⟩
  ·walk_at " j y hy"
   by_cases hj:j<ys.length
   ·rw[List.getElem?_append_left hj] at hy
    have z1:=e9 j y hy
    exact⟨⟨up (λ q=>by
     have h1:=z1.1.1
     rw[q,e7] at h1
     injection h1 with h1
     injection h1 with h1 _ _
     injection h1 with h1
     exact absurd h1 (by decide)) z1.1.2.1 (Dz.neSeq z1.1.1 λ _ _ h=>by cases h) z1.1.1,z1.1.2⟩,z1.2⟩
   ·have hje:j=ys.length:=by
     have:=(List.getElem?_eq_some_iff.mp hy).1
     rw[List.length_append,List.length_singleton] at this
     lia
    subst hje
    simp at hy
    subst hy
    refine⟨⟨(hsz'.2 _ haw).trans hga,ha3,?_,?_⟩,?_⟩
    ·show (Fc _ _).length≤1000
     rw[Jc];lia
    ·show (Fc _ _++Str.ofString ";").length≤1000
     rw[Str.length_append,Jc,hsl];lia
    ·show (_,_)=Fd p (cs.getD (ys.length+1) 0) ys.length
     rw[e8,hcg]
     unfold Fd
     rw[hsz2,hbl]
  ·walk_at " y hy"
   rcases List.mem_append.mp hy with hy|hy
   ·exact e10 y hy
   ·rw[List.mem_singleton.mp hy]
    rintro rfl
    obtain⟨oI,hoI,hcI⟩:=hIz
    walk_at "c oI"
    have q:=Dy.old hoI hI3 hIL
    rw[hga] at q
    injection q with q
    subst q
    injection hcI with q
    exact absurd q (by decide)
  ·walk_at " b hb o e"
   rw[List.mem_singleton.mp hb] at e ⊢
   exact up hIlw hI3 hIL e
 ·rintro I m' z' Dz ⟨e1,e2,e3,e4,e5,e6,n1,n2,n3,ys,k3,e7,e8,e9,e10⟩
  walk_at "c I m' z' Dz e1 e2 e3 e4 e5 e6 n1 n2 n3 ys k3"
  refine wpAny_execs_nil ?_
  exact h m' z' lw ys k3 Dz e2 e3 e4 e6 e7 hlw3 hlw0 hlwL e8 e9
structure Np (h:Heap) (P:Addr→Prop) (p:Int) (cs:List Int) (tu ls lw lwd:Addr) (ys:List A0) (th tsg:Tok):Prop where
 tup:h.get? tu=some {cls:=.type "tuple", data:=.seq #[.ref ls,.ref lw,.ref lwd,.int (B0 p) th,.str (As p) tsg]}
 siz:∃ vs k,h.get? ls=some (A6 vs k)∧IntsAre vs (Cp p)
 wrd:∃ k,h.get? lw=some (A6 (ys.map λ y=>Value.ref y.a) k)
 wid:∃ vs k,h.get? lwd=some (A6 vs k)∧IntsAre vs [W0 p,W1 p]
 eight:ys.length=8
 words:I6 h p cs ys
 hth:th≠0
 fresh:P ls∧P lw∧P lwd
 tu3:@LE.le Nat _ 317 tu
theorem sign_get:∀ (p:Int) (t0 t1 t2 t3:Tok),
  ∃ t,([Value.str " " t0,.str ";" t1,.str ",; " t2,.str "; " t3]:List Value)[((p.fdiv 960).fmod 4).toNat]?=some (.str (As p) t):=by
 walk_at " p t0 t1 t2 t3"
 obtain⟨h0,h4⟩:=Bv (p.fdiv 960) (b:=4) (by decide)
 unfold As
 generalize hj:((p.fdiv 960).fmod 4).toNat=j
 have:j=0∨j=1∨j=2∨j=3:=by lia
 rcases this with rfl|rfl|rfl|rfl<;>exact⟨_,rfl⟩
theorem draw4:∀ (w:World) {A:Around} {s z:Shared} {L ls lw:Addr} {m:SV} {vs:List Value} {k2 k3:Nat} {p:Int} {cs:List Int} {ys:List A0} {tp:Tok} (R:A3 (A.deeper (fenv Az 289 L)) 8) (D:Cl w [] s L z.heap m [] z) (es:m "sizes" = some (.ref ls)) (ep:m "plan" = some (.int p tp)) (ew:m "words" = some (.ref lw)) (hls:z.heap.get? ls=some (A6 vs k2)) (hlw:z.heap.get? lw=some (A6 (ys.map λ y=>Value.ref y.a) k3)) (hlw3:@LE.le Nat _ 317 lw) (hls3:@LE.le Nat _ 317 ls) (hls0:s.heap.get? ls=none) (hlw0:s.heap.get? lw=none) (h8:ys.length=8) (hw:I6 z.heap p cs ys) (hvs:IntsAre vs (Cp p)),
  wpAny (MD w) (A.deeper (fenv Az 289 L)) (execs (Bq.drop 9) (fenv Az 289 L)) (λ fl s'=>(∃ tu lwd th tsg,Ej fl=.ref tu∧Np s'.heap (λ a=>s.heap.get? a=none∧@LE.le Nat _ 317 a) p cs tu ls lw lwd ys th tsg)∧A4 [] s s') (λ _ _=>False) z:=by
 walk_at " w A s z L ls lw m vs k2 k3 p cs ys tp R D es ep ew hls hlw hlw3 hls3 hls0 hlw0 h8 hw hvs"
 have neL:∀ {b:Addr} {o:Obj},z.heap.get? b=some o→(∀ es n,o.data≠.dict es n)→b≠L:=λ e hd=>D.neSeq e hd
 have hlsL:=neL hls λ _ _ h=>by cases h
 have hlwL:=neL hlw λ _ _ h=>by cases h
 have hS:=Bo p
 have hlens:=hvs.length
 have hls4:(Cp p).length=4:=rfl
 obtain⟨v3,hv3⟩:∃ v,vs[3]?=some v:=⟨_,List.getElem?_eq_getElem (by lia)⟩
 walk_at "c v3"
 obtain⟨s3,t3,rfl,hs3⟩:=hvs.at _ _ hv3
 walk_at "c s3 t3"
 have hs3':s3=S3 p:=by simpa [Cp] using hs3.symm
 subst hs3'
 refine wpAny_execs_cons ?_
 walk_at "s3"
 refine Aj ?_
 refine Ai D es ?_
 walk_at "s3"
 rename_i za ta Da hta
 refine Dp (Da.old hls hls3 hlsL) (by decide) hv3 (by lia) ?_
 walk_at "s3"
 rename_i zb tb Db htb
 refine Ai Db ep ?_
 walk_at "s3"
 refine Cg (by assumption) (by decide) (PyProof.noPylong_small (by decide)) ?_
 walk_at " zc tc Dc htc"
 walk_at "s3"
 refine Cf (by assumption) (by decide) ?_
 walk_at " zd td Dd htd"
 walk_at "s3"
 refine Jz (by assumption) (Ff (by lia) (by lia)) ?_
 walk_at " ze te De hte"
 walk_at "s3"
 refine Aj ?_
 refine Ai De es ?_
 walk_at "s3"
 rename_i zf tf Df htf
 refine Dp (Df.old hls hls3 hlsL) (by decide) hv3 (by lia) ?_
 walk_at "s3"
 refine Ai Df ep ?_
 walk_at "s3"
 refine Cg (by assumption) (by decide) (PyProof.noPylong_small (by decide)) ?_
 walk_at " zg tg Dg htg"
 walk_at "s3"
 refine Cf (by assumption) (by decide) ?_
 walk_at " zh th Dh hth"
 walk_at "s3"
 rename_i zi ti Di hti zj lwd Dj hlwd3 hlwd0 zk Dk
 refine Ai Dk es ?_
 walk_at "s3"
 refine Ai Dk ew ?_
 walk_at "s3"
 refine Aj ?_
 refine Ai Dk es ?_
 walk_at "s3"
 rename_i zl tl Dl htl
 refine Dp (Dl.old hls hls3 hlsL) (by decide) hv3 (by lia) ?_
 walk_at "s3"
 refine Ai Dl ep ?_
 walk_at "s3"
 refine Cg (by assumption) (by decide) (PyProof.noPylong_small (by decide)) ?_
 walk_at " zm tm Dm htm"
 walk_at "s3"
 refine Cf (by assumption) (by decide) ?_
 walk_at " zn tn Dn htn"
 refine Jz (by assumption) (Ff (by lia) (by lia)) ?_
 walk_at " zo to' Do hto"
 walk_at "s3"
 refine Aj ?_
 walk_at "s3"
 rename_i z0 t0 D0 ht0 z1 t1 D1 ht1 z2 t2 D2 ht2 z4 t4 D4 ht4 z5 lsg D5 hlsg3 hlsg0
 refine Ai D5 ep ?_
 walk_at "s3"
 refine Cg (by assumption) (by decide) (PyProof.noPylong_small (by decide)) ?_
 walk_at " zm tm' Dm' htm'"
 walk_at "s3"
 refine Cf (by assumption) (by decide) ?_
 walk_at " zq tq Dq htq"
 obtain⟨h0,h4⟩:=Bv (p.fdiv 960) (b:=4) (by decide)
 obtain⟨tsg,hsg⟩:=sign_get p t0 t1 t2 t4
 walk_at "c tsg"
 refine Dp (vs:=[Value.str " " t0,.str ";" t1,.str ",; " t2,.str "; " t4]) (Dq.at 0 rfl) h0 hsg (by simp) ?_
 walk_at "s3"
 rename_i zr tu Dr htu3
 have g1:=Dr.at 0 rfl
 have g2:=Dr.at 2 rfl
 have hiv:IntsAre [.int (S3 p*(1+(p.fdiv 24).fmod 2)) te,.int (S3 p+(p.fdiv 48).fmod 10) ti] [S3 p*(1+(p.fdiv 24).fmod 2),S3 p+(p.fdiv 48).fmod 10]:=.cons _ _ (.cons _ _ .nil)
 have O:Np zr.heap (λ a=>s.heap.get? a=none∧@LE.le Nat _ 317 a) p cs tu ls lw lwd ys to' tsg:=by
  refine⟨g1,⟨vs,k2,Dr.old hls hls3 hlsL,hvs⟩,⟨k3,Dr.old hlw hlw3 hlwL⟩,⟨_,0,g2,hiv⟩,h8,λ j y hy=>⟨Dr.piece (hw j y hy).1,(hw j y hy).2⟩,hto,⟨⟨hls0,hls3⟩,⟨hlw0,hlw3⟩,⟨hlwd0,hlwd3⟩⟩,htu3⟩
 exact⟨⟨tu,lwd,to',tsg,rfl,O⟩,Dr.st⟩
theorem s_draw:∀ (w:World) {A:Around} {s:Shared} {lsc:Addr} {vsc:List Value} {nsc:Nat} {scr:List Int} (G:A5 w s) (R:A3 A 9) (hsc:s.heap.get? lsc=some (A6 vsc nsc)) (hsc3:@LE.le Nat _ 317 lsc) (hvs:IntsAre vsc scr) (hn:vsc.length≤500),
  wpAny (MD w) A (call (.ref 289) [.ref lsc]) (λ r s'=>(∃ p cs tu ls lw lwd ys th tsg,cs.length=9∧p=cs.getD 0 0∧r=.ref tu∧Np s'.heap (λ a=>s.heap.get? a=none∧@LE.le Nat _ 317 a) p cs tu ls lw lwd ys th tsg)∧A4 [] s s') no s:=by
 walk_at " w A s lsc vsc nsc scr G R hsc hsc3 hvs hn"
 refine Bw (binds:=[("script", .ref lsc)]) [] (Px w) G R (by kernel_rfl) (by kernel_rfl) ?_
 walk_at " L s₁ D"
 have R':=R.deeper (fenv Az 289 L)
 have h1:=@draw1 w A s L lsc vsc nsc scr R' s₁ hsc hsc3 hvs hn D
 refine @h1 _ ?_
 walk_at " m z lc vc k cs Dz em hlc hlc3 hlc0 hcs h9"
 have h2:=@draw2 w A s z L lc m vc k cs R' Dz em hlc hlc3 hlc0 hcs h9
 refine @h2 _ ?_
 walk_at " m2 z2 ls vs k2 tp D2 em2 es2 ep2 hlc2 hls2 hls3 hls0 hlsL hvs2"
 have h3:=@draw3 w A s z2 L lc ls m2 vc vs k k2 cs tp R' D2 em2 es2 ep2 hlc2 hls2 hlc3 hls3 hcs h9 hvs2
 refine @h3 _ ?_
 walk_at " m3 z3 lw ys k3 D3 es3 ep3 ew3 hls4 hlw4 hlw3 hlw0 hlwL h8 hw"
 have h4:=@draw4 w A s z3 L ls lw m3 vs k2 k3 (cs.getD 0 0) cs ys tp R' D3 es3 ep3 ew3 hls4 hlw4 hlw3 hls3 hls0 hlw0 h8 hw hvs2
 refine wpAny_mono h4 ?_ λ _ _ e=>e
 walk_at " fl s' h"
 obtain⟨⟨tu,lwd,th,tsg,e,o⟩,st⟩:=h
 walk_at "c tu lwd th tsg"
 exact⟨⟨_,cs,tu,ls,lw,lwd,ys,th,tsg,h9,rfl,e,o⟩,st⟩
noncomputable def Fb (f:Int→Bool):List Int→Nat
 | []=>0
 | x::r=>if f x=true then Fb f r+1 else 0
noncomputable def Hf (v:Int):List Int→Nat:=Fb (λ x=>decide (x<v))
noncomputable def Ie (W t:Int):List Int→Nat:=Fb (λ x=>decide (x≤W-t))
noncomputable def Hv (v:Int) (ls:List Int):List Int:=ls.take (Hf v ls)++v::ls.drop (Hf v ls)
noncomputable def Ey (W:Int) (ls:List Int) (t:Int):List Int :=
 if Ie W t ls=0 then Hv t ls else Hv (ls.getD (Ie W t ls-1) 0+t) (ls.eraseIdx (Ie W t ls-1))
theorem J9 (f:Int→Bool) (ls:List Int):Fb f ls≤ls.length:=by
 induction ls with
 | nil=>exact Nat.le_refl _
 | cons x r this =>
  unfold Fb
  split
  ·simpa using this
  ·exact Nat.zero_le _
theorem Ja {f:Int→Bool} (ls:List Int) (i:Nat) (a:Int) (h:i<Fb f ls) (e:ls[i]?=some a):f a=true:=by
 induction ls generalizing i with
 | nil=>simp[Fb] at h
 | cons x r ih =>
  unfold Fb at h
  split at h
  ·rename_i hx
   cases i with
   | zero=>simp at e;subst e;exact hx
   | succ i=>exact ih i (Nat.le_of_lt_succ h) (by simpa using e)
  ·exact absurd h (Nat.not_lt_zero _)
theorem Li {f:Int→Bool} (hf:∀ a b,a≤b→f b=true→f a=true) (ls:List Int) (hp:ls.Pairwise (·≤·)) (i:Nat) (a:Int) (h:Fb f ls≤i) (e:ls[i]?=some a):f a=false:=by
 induction ls generalizing i with
 | nil=>simp at e
 | cons x r ih =>
  rw[List.pairwise_cons] at hp
  unfold Fb at h
  by_cases hx:f x=true
  ·rw[if_pos hx] at h
   cases i with
   | zero=>exact absurd (by assumption) (Nat.not_lt_zero _)
   | succ i=>exact ih hp.2 i (Nat.le_of_succ_le_succ h) (by simpa using e)
  ·cases i with
   | zero=>simp at e;subst e;simpa using hx
   | succ i =>
    have hm:a∈r:=List.mem_of_getElem? (by simpa using e)
    cases q:f a with
    | false=>rfl
    | true=>exact absurd (hf x a (hp.1 a hm) q) hx
theorem lt_mono (v:Int):∀ a b:Int,a≤b→(λ x=>decide (x<v)) b=true→(λ x=>decide (x<v)) a=true:=λ a b h hb=>by
 simp at hb ⊢;lia
theorem le_mono (v:Int):∀ a b:Int,a≤b→(λ x=>decide (x≤v)) b=true→(λ x=>decide (x≤v)) a=true:=λ a b h hb=>by
 simp at hb ⊢;lia
theorem Js (v:Int) (ls:List Int):(Hv v ls).Perm (v::ls):=by
 unfold Hv
 refine List.perm_middle.trans (List.Perm.cons v ?_)
 rw[List.take_append_drop]
theorem N9 (v:Int) {ls:List Int} (h:ls.Pairwise (·≤·)):(Hv v ls).Pairwise (·≤·):=by
 induction ls with
 | nil=>simp[Hv,Hf,Fb]
 | cons x r ih =>
  have h':=List.pairwise_cons.mp h
  have ih:=ih h'.2
  unfold Hv Hf Fb
  by_cases hx:x<v
  ·rw[if_pos (by simpa using hx)]
   show List.Pairwise (·≤·) (x::Hv v r)
   refine List.pairwise_cons.mpr ⟨λ a ha=>?_,ih⟩
   rcases List.mem_cons.mp ((Js v r).mem_iff.mp ha) with rfl|ha
   ·exact Int.le_of_lt hx
   ·exact h'.1 a ha
  ·rw[if_neg (by simpa using hx)]
   show List.Pairwise (·≤·) (v::x::r)
   refine List.pairwise_cons.mpr ⟨λ a ha=>?_,h⟩
   rcases List.mem_cons.mp ha with rfl|ha
   ·lia
   ·have:=h'.1 a ha;lia
theorem Gu (W t:Int) {ls:List Int} (h:ls.Pairwise (·≤·)):(Ey W ls t).Pairwise (·≤·):=by
 unfold Ey
 split
 ·exact N9 _ h
 ·exact N9 _ (h.sublist (List.eraseIdx_sublist ..))
noncomputable def L8 (h h':Heap):Prop:=∀ b o,@LE.le Nat _ 317 b→o.cls≠.type "list_iterator" → o.cls≠.type "range_iterator" → h.get? b=some o→h'.get? b=some o
theorem Ar.keepX {h h':Heap} {y:A0} (k:L8 h h') (q:Ar h y):Ar h' y:=⟨k _ _ q.2.1 (by intro e;injection e with e;exact absurd e (by decide)) (by intro e;injection e with e;exact absurd e (by decide)) q.1,q.2⟩
theorem Kw {h h':Heap} (k:L8 h h') {a:Addr} {vs:List Value} {n:Nat} (h3:@LE.le Nat _ 317 a) (e:h.get? a=some (A6 vs n)):h'.get? a=some (A6 vs n) :=
 k _ _ h3 (by intro e;injection e with e;exact absurd e (by decide)) (by intro e;injection e with e;exact absurd e (by decide)) e
theorem A2.keepX {P:Params} {h h':Heap} {x d:Addr} {init:Int} {ps:List A0} (k:L8 h h') (q:A2 P h x d init ps):A2 P h' x d init ps:=by
 obtain⟨n,hx⟩:=q.ox
 obtain⟨t,ti,hd,hti⟩:=q.od
 refine⟨⟨n,k _ _ q.x3 ?_ ?_ hx⟩,⟨t,ti,k _ _ q.d3 ?_ ?_ hd,hti⟩,λ y hy=>?_,q.x3,q.d3,q.few⟩
 ·intro e;cases e
 ·intro e;cases e
 ·intro e;injection e with e;exact absurd e (by decide)
 ·intro e;injection e with e;exact absurd e (by decide)
 ·exact Ar.keepX k (q.tup y hy)
theorem A2.steps {P:Params} {s s':Shared} {S:List Addr} {x d:Addr} {init:Int} {ps:List A0} (q:A2 P s.heap x d init ps) (st:A4 S s s') (hx:x∉S) (hd:d∉S) (hp:∀ y∈ps,y.a∉S):A2 P s'.heap x d init ps:=by
 obtain⟨n,ex⟩:=q.ox
 obtain⟨t,ti,ed,hti⟩:=q.od
 exact⟨⟨n,st.get q.x3 hx ex⟩,⟨t,ti,st.get q.d3 hd ed,hti⟩,λ y hy=>⟨st.get (q.tup y hy).2.1 (hp y hy) (q.tup y hy).1,(q.tup y hy).2⟩,q.x3,q.d3,q.few⟩
structure A7 where
 x:Addr
 d:Addr
 init:Int
 ps:List A0
noncomputable def A7.len (r:A7):Int:=Au r.init r.ps
noncomputable def A7.At (P:Params) (h:Heap) (r:A7):Prop:=A2 P h r.x r.d r.init r.ps
noncomputable def A7.Dis (r r':A7):Prop:=r.x≠r'.x∧r.x≠r'.d∧r.d≠r'.x∧r.d≠r'.d
theorem A7.Dis.symm {r r':A7} (h:r.Dis r'):r'.Dis r:=⟨h.1.symm,h.2.2.1.symm,h.2.1.symm,h.2.2.2.symm⟩
section
variable {w:World} {S:List Addr} {s₀:Shared} {L:Addr} {ref:Heap} {m:SV} {news:AO} {s:Shared} {A:Around} {E E':VP} {env:Env}
theorem n_forWX {target:PySem.Expr} {body orelse:List Stmt} {I:Addr} {fp wr:List Addr} {n:Nat} {P:Nat→Value→Prop} {St:Nat→Heap→Prop} {Q:FP}
  (W:Walks PySem.Challenge.pw_wv0051_01 w A I fp wr n P St) (go:Iy w A target I (λ i h=>St (i+1) h)) (D:Cl w S s₀ L ref m news s) (hst:St 0 s.heap)
  (hwr:∀ b∈wr,s₀.heap.get? b=none∧b≠L∧@LE.le Nat _ 317 b)
  (Inv:Nat→(SV)→Shared→Prop) (stable:∀ i i' m z z',St i' z.heap→(∀ b o,b∉wr→z.heap.get? b=some o→z'.heap.get? b=some o)→z.toks≤z'.toks→Inv i m z→Inv i m z') (h0:Inv 0 m s)
  (turn:∀ i m' z v,i<n→P i v→Inv i m' z→St (i+1) z.heap→Cl w S s₀ L z.heap m' [] z→wpAny (MD w) A (assign target env v) (λ _ s₂=>wpAny (MD w) A (execs body env) (Ac w S s₀ L fp Inv Q i z) (λ _ _=>False) s₂) (λ _ _=>False) z)
  (done:∀ m' z,Cl w S s₀ L z.heap m' [] z→Inv n m' z→wpAny (MD w) A (execs orelse env) Q (λ _ _=>False) z) :
  codeAny (MD w) A (.forLoop target (.ref I) body orelse env) (λ r s'=>match r with|.ok f=>Q f s'|.error e=>E e s') s:=by
 refine for_gen W go (λ i z=>∃ m',Cl w S s₀ L z.heap m' [] z∧Inv i m' z∧St i z.heap) (λ i z h=>by obtain⟨_,_,_,h⟩:=h;exact h) ?_ ?_ ⟨m,D.rebase,h0,hst⟩
 ·rintro i z hi ⟨m',Dz,hI,hS⟩ v h' tk hP hst' hk ht
  have D1:=Dz.outs hwr hk ht
  refine wpAny_mono (turn i m' _ v hi hP (stable i i m' z _ hS hk ht hI) hst' D1) (λ _ s₂ h₂=>wpAny_mono h₂ (λ f s₃ h₃=>?_) λ _ _ e=>e) λ _ _ e=>e
  cases f with
  | next =>
   obtain⟨m'',r'',n'',D3,hI3,hf⟩:=h₃
   exact⟨m'',D3.rebase,hI3,W.frame _ _ _ hst' hf⟩
  | cont =>
   obtain⟨m'',r'',n'',D3,hI3,hf⟩:=h₃
   exact⟨m'',D3.rebase,hI3,W.frame _ _ _ hst' hf⟩
  | brk=>exact h₃
  | ret v=>exact h₃
 ·rintro z ⟨m',Dz,hI,hS⟩ h' tk hk ht
  exact done m' _ (Dz.outs hwr hk ht) (stable n n m' z _ hS hk ht hI)
theorem Ss {l:Addr} {vs:List Value} {k:Nat} {target:PySem.Expr} {body orelse:List Stmt} {Q:FP} (hh:A.handled=none)
  (D:Cl w S s₀ L ref m news s) (hl:s.heap.get? l=some (A6 vs k)) (hl3:@LE.le Nat _ 317 l)
  (Inv:Nat→(SV)→Shared→Prop) (stable:∀ i m z z',L8 z.heap z'.heap→z.toks≤z'.toks→Inv i m z→Inv i m z') (h0:Inv 0 m s)
  (turn:∀ I i m' z v,vs[i]?=some v→@LE.le Nat _ 317 I→I≠L→s₀.heap.get? I=none→(∃ o,z.heap.get? I=some o∧o.cls=.type "list_iterator")→z.heap.get? l=some (A6 vs k)→Inv i m' z→Cl w S s₀ L z.heap m' [] z→wpAny (MD w) A (assign target env v) (λ _ s₂=>wpAny (MD w) A (execs body env) (Ac w S s₀ L [I,l] Inv Q i z) (λ _ _=>False) s₂) (λ _ _=>False) z)
  (done:∀ m' z,Cl w S s₀ L z.heap m' [] z→Inv vs.length m' z→wpAny (MD w) A (execs orelse env) Q (λ _ _=>False) z) :
  wpAny (MD w) A (pyIter (.ref l)) (λ it s₂=>codeAny (MD w) A (.forLoop target it body orelse env) (λ r s'=>match r with|.ok f=>Q f s'|.error e=>E' e s') s₂) E s:=by
 have hlI:l≠s.heap.objs.size:=Nat.ne_of_lt (Heap.lt_size hl)
 refine wpAny_pyIter_list (Al hl) ?_
 have D1:=D.rebase.push {cls:=.type "list_iterator", data:=.fields #[.ref l,.int 0 0]} rfl
 have hI0:s₀.heap.get? s.heap.objs.size=none:=Bc D.st.size
 have hIL:s.heap.objs.size≠L:=Nat.ne_of_gt D.ns.lt
 have hI3:@LE.le Nat _ 317 s.heap.objs.size:=D.good.vol.c
 have hsz:vs.toArray.size=vs.length:=by simp
 have kx:∀ {z z':Heap},(∃ o,z.get? s.heap.objs.size=some o∧o.cls=.type "list_iterator")→(∀ b o,b∉[s.heap.objs.size]→z.get? b=some o→z'.get? b=some o)→L8 z z':=by
  rintro z z' ⟨oI,hoI,hc⟩ hk b o _ h1 _ e
  refine hk b o (λ q=>?_) e
  rw[List.mem_singleton.mp q,hoI] at e
  cases e
  exact h1 hc
 refine n_forWX (Walks.list hh s.heap.objs.size l hlI vs.toArray) (λ i v s Q E st h=>J7 st.1 h) D1 ⟨⟨_,D1.at 0 rfl,rfl,rfl⟩,(Al hl).push _⟩ (λ b hb=>?_) (λ i m z=>Inv i m z∧z.heap.get? l=some (A6 vs k)) ?_ ⟨?_,?_⟩ ?_ ?_
 ·rw[List.mem_singleton.mp hb];exact⟨hI0,hIL,hI3⟩
 ·rintro i i' m z z' hS hk ht ⟨h1,h2⟩
  obtain⟨oI,hoI,hc,_⟩:=hS.1
  exact⟨stable i m z z' (kx ⟨oI,hoI,hc⟩ hk) ht h1,hk _ _ (λ q=>hlI (List.mem_singleton.mp q)) h2⟩
 ·exact stable 0 m s _ (λ b o _ _ _ e=>Heap.get?_push_of_some _ e) (Nat.le_refl _) h0
 ·exact Heap.get?_push_of_some _ hl
 ·rintro i m' z v hi hP ⟨hI,hlz⟩ hst Dz
  obtain⟨oI,hoI,hcI,_⟩:=hst.1
  refine wpAny_mono (turn _ i m' z v (by simpa using hP) hI3 hIL hI0 ⟨_,hoI,hcI⟩ hlz hI Dz) (λ _ s₂ h₂=>wpAny_mono h₂ (λ f s₃ h₃=>?_) λ _ _ e=>e) λ _ _ e=>e
  cases f with
  | next=>obtain⟨m'',r'',n'',D3,hI3,hf⟩:=h₃;exact⟨m'',r'',n'',D3,⟨hI3,hf l (.tail _ (.head _)) _ hlz⟩,hf⟩
  | cont=>obtain⟨m'',r'',n'',D3,hI3,hf⟩:=h₃;exact⟨m'',r'',n'',D3,⟨hI3,hf l (.tail _ (.head _)) _ hlz⟩,hf⟩
  | brk=>exact h₃
  | ret v=>exact h₃
 ·rintro m' z Dz ⟨hI,_⟩
  rw[hsz] at hI
  exact done m' z Dz hI
end
noncomputable def Bf:Stmt→List Stmt
 | .For _ _ b _ _=>b
 | _=>[]
noncomputable def Bx:List Stmt:=Bf (Bs.getD 2 (.Pass default))
structure E5 (P:Params) (s₀h:Heap) (L:Addr) (pr:AO) (h:Heap) (lr ll:Addr) (rows:List A7) (lla:List Addr) (lv:List (List Int)):Prop where
 er:∃ k,h.get? lr=some (A6 (rows.map λ r=>Value.ref r.x) k)
 el:∃ k,h.get? ll=some (A6 (lla.map Value.ref) k)
 ev:∀ (j:Nat) (a:Addr) (ns:List Int),lla[j]?=some a→lv[j]?=some ns→∃ vs k,h.get? a=some (A6 vs k)∧IntsAre vs ns
 len:lla.length=lv.length
 acc:∀ r∈rows,r.At P h
 dis:rows.Pairwise A7.Dis
 fr:∀ r∈rows,s₀h.get? r.x=none∧s₀h.get? r.d=none
 nl:∀ r∈rows,r.d≠L
 lr3:@LE.le Nat _ 317 lr
 ll3:@LE.le Nat _ 317 ll
 lr0:s₀h.get? lr=none
 ll0:s₀h.get? ll=none
 lne:lr≠ll
 lv3:∀ a∈lla,@LE.le Nat _ 317 a∧a≠lr∧a≠ll
 pro:∀ q∈pr,h.get? q.1=some q.2∧@LE.le Nat _ 317 q.1∧q.1≠L∧q.1≠lr∧q.1≠ll∧∀ r∈rows,q.1≠r.x∧q.1≠r.d
theorem E5.keepX {P:Params} {s₀h h h':Heap} {L lr ll:Addr} {rows:List A7} {lla:List Addr}  {lv:List (List Int)} (B:E5 P s₀h L [] h lr ll rows lla lv) (k:L8 h h'):E5 P s₀h L [] h' lr ll rows lla lv :=
 ⟨B.er.elim λ n e=>⟨n,Kw k B.lr3 e⟩,B.el.elim λ n e=>⟨n,Kw k B.ll3 e⟩,λ j a ns h1 h2=>(B.ev j a ns h1 h2).elim λ vs qq=>qq.elim λ n qq=>qq.elim λ e i=>⟨vs,n,Kw k (B.lv3 a (List.mem_of_getElem? h1)).1 e,i⟩,
  B.len,λ r hr=>A2.keepX k (B.acc r hr),B.dis,B.fr,B.nl,B.lr3,B.ll3,B.lr0,B.ll0,B.lne,B.lv3,λ _ h=>(nomatch h)⟩
theorem E5.now {w:World} {S:List Addr} {s₀ s:Shared} {L:Addr} {ref:Heap} {m:SV} {news:AO} {s₀h:Heap} {lr ll:Addr} {rows:List A7} {lla:List Addr} {pr:AO} {lv:List (List Int)} (D:Cl w S s₀ L ref m news s) (B:E5 w.params s₀h L pr ref lr ll rows lla lv):E5 w.params s₀h L pr s.heap lr ll rows lla lv:=by
 have lst:∀ {a:Addr} {vs:List Value} {n:Nat},@LE.le Nat _ 317 a→ref.get? a=some (A6 vs n)→s.heap.get? a=some (A6 vs n):=λ h3 e=>D.old e h3 (D.neSeq e λ _ _ h=>by cases h)
 exact⟨B.er.elim λ n e=>⟨n,lst B.lr3 e⟩,B.el.elim λ n e=>⟨n,lst B.ll3 e⟩,λ j a ns h1 h2=>(B.ev j a ns h1 h2).elim λ vs qq=>qq.elim λ n qq=>qq.elim λ e i=>⟨vs,n,lst (B.lv3 a (List.mem_of_getElem? h1)).1 e,i⟩,
  B.len,λ r hr=>D.acc (B.acc r hr) (B.nl r hr),B.dis,B.fr,B.nl,B.lr3,B.ll3,B.lr0,B.ll0,B.lne,B.lv3,λ q hq=>⟨D.old (B.pro q hq).1 (B.pro q hq).2.1 (B.pro q hq).2.2.1,(B.pro q hq).2⟩⟩
structure BNm (m:SV) (lr ll:Addr) (W:Int) (tW:Tok) (y:A0):Prop where
 rows:m "rows" = some (.ref lr)
 lens:m "lens" = some (.ref ll)
 width:m "width" = some (.int W tW)
 blanks:m "blanks" = some (.str y.b y.tb)
 part:m "part" = some (.str y.p y.tp)
theorem Ht {α:Type} (f:Int→Bool) (g:α→Int) (rows:List α):Fb f (rows.map g)≤rows.length:=by
 have:=J9 f (rows.map g)
 simpa using this
theorem keyRows {w:World} {h:Heap} {rows:List A7} (acc:∀ r∈rows,r.At w.params h) (hb:∀ r∈rows,0≤r.len∧r.len<100000):∀ (i:Nat) (v:Value),(rows.map λ r=>Value.ref r.x)[i]?=some v→Eu w 268 h v ((rows.map A7.len).getD i 0):=by
 intro i v hv
 rw[List.getElem?_map] at hv
 obtain⟨r,hr,rfl⟩:=Option.map_eq_some_iff.mp hv
 have hm:=List.mem_of_getElem? hr
 have e:(rows.map A7.len).getD i 0=r.len:=by simp[List.getD,hr]
 rw[e]
 exact Q9 w (acc r hm) (hb r hm).1 (hb r hm).2
theorem best1:∀ (w:World) {A:Around} {s z:Shared} {L lr ll:Addr} {m:SV} {rows:List A7} {lla:List Addr} {pr:AO} {lv:List (List Int)} {W:Int} {tW:Tok} {y:A0} (R:A3 (A.deeper (fenv Ao 301 L)) 12) (D:Cl w [] s L z.heap m [] z) (M:BNm m lr ll W tW y) (B:E5 w.params s.heap L pr z.heap lr ll rows lla lv) (hs:(rows.map A7.len).Pairwise (·≤·)) (hb:∀ r∈rows,0≤r.len∧r.len<100000) (hn:rows.length≤100) (hyb:y.b.length≤1000) (hyp:y.p.length≤1000) {Q:FP} (h:∀ m z tp,Cl w [] s L z.heap m [] z→BNm m lr ll W tW y→E5 w.params s.heap L pr z.heap lr ll rows lla lv→m "place" = some (.int (Ie W ((y.b.length:Int)+y.p.length) (rows.map A7.len):Nat) tp) →
   wpAny (MD w) (A.deeper (fenv Ao 301 L)) (execs (Bx.drop 1) (fenv Ao 301 L)) Q (λ _ _=>False) z),
  wpAny (MD w) (A.deeper (fenv Ao 301 L)) (execs (Bx.drop 0) (fenv Ao 301 L)) Q (λ _ _=>False) z:=by
 walk_at " w A s z L lr ll m rows lla pr lv W tW y R D M B hs hb hn hyb hyp Q h"
 refine wpAny_execs_cons ?_
 refine wpAny_Assign_Name ?_ (by kernel_rfl)
 refine Am ?_
 walk_at "g 39"
 refine cwk (spliced_more ?_)
 refine Ai D M.rows ?_
 walk_at "s3"
 refine Am ?_
 walk_at "g 282"
 refine Co (spliced_more ?_)
 refine Ai D M.width ?_
 walk_at "s3"
 refine Am ?_
 walk_at "b len"
 refine Co (spliced_more ?_)
 walk_at "s3"
 refine Ai D M.blanks ?_
 refine Ai D M.part ?_
 refine Gn D (by lia) ?_
 walk_at " z1 t1 D1"
 refine spliced_none ⟨Bh,len_str (by rw[Str.length_append];lia) ?_⟩
 have D2:=D1.toks 2
 refine spliced_none ⟨Cr D2.k (by kernel_rfl),wpAny_mono (s_isub w D2.good (R.mono (by decide))) ?_ λ _ _ e=>e.elim⟩
 walk_at " r z3 q"
 obtain⟨⟨t3,ht3,rfl⟩,st3⟩:=q
 walk_at "c t3"
 have D3:=D2.step0 st3
 walk_at "s3"
 walk_at "g 268"
 have B3:=B.now D3
 obtain⟨k3,er3⟩:=B3.er
 walk_at "c k3"
 have hlen:(rows.map A7.len).length=rows.length:=List.length_map ..
 refine⟨Cr D3.k (by kernel_rfl),wpAny_mono (Nj w (ks:=λ i=>(rows.map A7.len).getD i 0) (p:=Ie W ((y.b.length:Int)+y.p.length) (rows.map A7.len)) D3.good (R.mono (by decide)) er3 B3.lr3 (by rw[List.length_map];exact Nat.le_trans (by assumption) (by decide)) (by kernel_rfl) (keyRows B3.acc hb) (by rw[List.length_map];exact Ht _ _ _) ?_ ?_) ?_ λ _ _ e=>e.elim⟩
 ·walk_at " i hi"
  have hi':i<(rows.map A7.len).length:=Nat.lt_of_lt_of_le hi (J9 _ _)
  have q:=Ja _ i _ hi (List.getElem?_eq_getElem hi')
  have e:(rows.map A7.len).getD i 0=(rows.map A7.len)[i]:=by rw[List.getD_eq_getElem?_getD,List.getElem?_eq_getElem hi'];rfl
  rw[e,Str.length_append]
  have q':=of_decide_eq_true q
  push_cast;omega
 ·walk_at " i hi hlt"
  have hi':i<(rows.map A7.len).length:=by rw[List.length_map] at hlt ⊢;exact hlt
  have q:=Li (le_mono _) _ hs i _ hi (List.getElem?_eq_getElem hi')
  have e:(rows.map A7.len).getD i 0=(rows.map A7.len)[i]:=by rw[List.getD_eq_getElem?_getD,List.getElem?_eq_getElem hi'];rfl
  rw[e,Str.length_append]
  have q':=of_decide_eq_false q
  push_cast;lia
 ·walk_at " r z4 q"
  obtain⟨⟨t4,ht4,rfl⟩,st4⟩:=q
  walk_at "c t4"
  have D4:=D3.step0 st4
  refine An D4 ?_ (by kernel_rfl) (by kernel_rfl)
  walk_at " z5 D5"
  exact h _ z5 t4 D5.rebase ⟨M.rows,M.lens,M.width,M.blanks,M.part⟩ (B.now D5) (if_pos rfl)
theorem E5.setRows {P:Params} {s₀h:Heap} {s s':Shared} {L lr ll:Addr} {rows rows':List A7} {lla:List Addr} {pr:AO} {lv:List (List Int)} (B:E5 P s₀h L pr s.heap lr ll rows lla lv) (st:A4 [lr] s s') {k:Nat} (hg:s'.heap.get? lr=some (A6 (rows'.map λ r=>Value.ref r.x) k)) (hA:∀ r∈rows',r.At P s.heap) (hfr:∀ r∈rows',s₀h.get? r.x=none∧s₀h.get? r.d=none) (hnl:∀ r∈rows',r.d≠L) (hpr:∀ q∈pr,∀ r∈rows',q.1≠r.x∧q.1≠r.d) (hd:rows'.Pairwise A7.Dis):E5 P s₀h L pr s'.heap lr ll rows' lla lv:=by
 obtain⟨n,er⟩:=B.er
 have lst:∀ {a:Addr} {vs:List Value} {n:Nat},@LE.le Nat _ 317 a→a≠lr→s.heap.get? a=some (A6 vs n)→s'.heap.get? a=some (A6 vs n):=λ h3 hne e=>st.get h3 (Gf hne) e
 have acc:∀ r∈rows',r.At P s'.heap:=λ r hr=>by
  have q:=hA r hr
  refine A2.steps q st (Gf ?_) (Gf ?_) λ y hy=>Gf ?_
  ·obtain⟨n',ex⟩:=q.ox
   intro e;rw[e,er] at ex
   injection ex with ex;injection ex with ex;cases ex
  ·obtain⟨t,ti,ed,_⟩:=q.od
   intro e;rw[e,er] at ed
   injection ed with ed;injection ed with ed;injection ed with ed;exact absurd ed (by decide)
  ·intro e
   have ey:=(q.tup y hy).1
   rw[e,er] at ey
   injection ey with ey;injection ey with ey;injection ey with ey;exact absurd ey (by decide)
 exact⟨⟨k,hg⟩,B.el.elim λ n e=>⟨n,lst B.ll3 (Ne.symm B.lne) e⟩,λ j a ns h1 h2=>(B.ev j a ns h1 h2).elim λ vs qq=>qq.elim λ n qq=>qq.elim λ e i=>⟨vs,n,lst (B.lv3 a (List.mem_of_getElem? h1)).1 (B.lv3 a (List.mem_of_getElem? h1)).2.1 e,i⟩,
  B.len,acc,hd,hfr,hnl,B.lr3,B.ll3,B.lr0,B.ll0,B.lne,B.lv3,λ q hq=>let z:=B.pro q hq;⟨st.get z.2.1 (Gf z.2.2.2.1) z.1,z.2.1,z.2.2.1,z.2.2.2.1,z.2.2.2.2.1,hpr q hq⟩⟩
structure Rest (P:Params) (s₀h:Heap) (L:Addr) (pr:AO) (h:Heap) (rows rest:List A7) (p:Nat) (r0:A7):Prop where
 at_:r0.At P h
 dis:∀ r∈rest,r0.Dis r
 fr:s₀h.get? r0.x=none∧s₀h.get? r0.d=none
 nl:r0.d≠L
 pro:∀ q∈pr,q.1≠r0.x∧q.1≠r0.d
 new:p=0→rest=rows∧r0.init=0∧r0.ps=[]
 old:p≠0→rows[p-1]?=some r0∧rest=rows.eraseIdx (p-1)
theorem dis_erase {rows:List A7} {i:Nat} {r:A7} (h:rows.Pairwise A7.Dis) (e:rows[i]?=some r):∀ r'∈rows.eraseIdx i,r.Dis r':=by
 induction rows generalizing i with
 | nil=>simp at e
 | cons x t ih=>cases i with
 | zero =>
  simp at e;subst e
  intro r' hr'
  exact (List.pairwise_cons.mp h).1 r' (by simpa using hr')
 | succ i =>
  have h':=List.pairwise_cons.mp h
  intro r' hr'
  have e':t[i]?=some r:=by simpa using e
  rcases List.mem_cons.mp (by simpa using hr') with rfl|hr'
  ·exact (h'.1 r (List.mem_of_getElem? e')).symm
  ·exact ih h'.2 e' r' hr'
theorem Ol {α β:Type} (f:α→β) (l:List α) (i:Nat):(l.map f).eraseIdx i=(l.eraseIdx i).map f:=by
 induction l generalizing i with
 | nil=>rfl
 | cons x r ih=>cases i with
 | zero=>rfl
 | succ i=>exact congrArg (f x::·) (ih i)
theorem best2:∀ (w:World) {A:Around} {s z:Shared} {L lr ll:Addr} {m:SV} {rows:List A7} {lla:List Addr} {pr:AO} {lv:List (List Int)} {W:Int} {tW:Tok} {y:A0} {p:Nat} {tp:Tok} (R:A3 (A.deeper (fenv Ao 301 L)) 12) (D:Cl w [] s L z.heap m [] z) (M:BNm m lr ll W tW y) (B:E5 w.params s.heap L pr z.heap lr ll rows lla lv) (hn:rows.length≤100) (hp:p≤rows.length) (mp:m "place" = some (.int (p:Int) tp)) {Q:FP} (h:∀ m z rest r0,Cl w [] s L z.heap m [] z→BNm m lr ll W tW y→E5 w.params s.heap L pr z.heap lr ll rest lla lv→Rest w.params s.heap L pr z.heap rows rest p r0→m "row" = some (.ref r0.x) →
   wpAny (MD w) (A.deeper (fenv Ao 301 L)) (execs (Bx.drop 2) (fenv Ao 301 L)) Q (λ _ _=>False) z),
  wpAny (MD w) (A.deeper (fenv Ao 301 L)) (execs (Bx.drop 1) (fenv Ao 301 L)) Q (λ _ _=>False) z:=by
 walk_at " w A s z L lr ll m rows lla pr lv W tW y p tp R D M B hn hp mp Q h"
 obtain⟨k,er⟩:=B.er
 walk_at "c k"
 have hlrL:lr≠L:=D.neSeq er λ _ _ h=>by cases h
 refine wpAny_execs_cons ?_
 refine wpAny_If ?_
 walk_at "s3"
 refine Ai D mp ?_
 walk_at "s3"
 rename_i z1 t1 D1 ht1
 by_cases h0:p=0
 ·subst h0
  refine Be (by simp) ?_
  walk_at "s3"
  refine Am ?_
  walk_at "g 214"
  refine Ha ⟨Cr D1.k (by kernel_rfl),wpAny_mono (M1 w D1.good (R.mono (by decide)) (.inl ⟨rfl,rfl⟩)) ?_ λ _ _ e=>e.elim⟩
  walk_at " r z2 q"
  obtain⟨x,d,n,t,rfl,hd1,hx1,st2,gx,gd⟩:=q
  walk_at "c x d n t"
  have D2:=D1.step0 st2
  have B2:=B.now D2
  refine An D2.rebase ?_ (by kernel_rfl) (by kernel_rfl)
  walk_at " z3 D3"
  refine wpAny_execs_nil ?_
  have fresh:∀ {a:Addr},@LE.le Nat _ z1.heap.objs.size a→s.heap.get? a=none:=λ ha=>Bc (Nat.le_trans D1.st.size ha)
  have hdL:d≠L:=Nat.ne_of_gt (Nat.lt_of_lt_of_le D1.ns.lt hd1)
  have hz1:@LE.le Nat _ 317 z1.heap.objs.size:=D1.good.vol.c
  have q0:A2 w.params z2.heap x d 0 []:=⟨⟨n,gx⟩,⟨t,376,gd,by decide⟩,λ _ h=>(nomatch h),Nat.le_trans hz1 hx1,Nat.le_trans hz1 hd1,Nat.zero_le _⟩
  have B1:=B.now D1
  refine h _ z3 rows ⟨x,d,0,[]⟩ D3.rebase ⟨M.rows,M.lens,M.width,M.blanks,M.part⟩ (B2.now D3) ⟨D3.acc q0 hdL,?_,⟨fresh hx1,fresh hd1⟩,hdL,(λ q hq=>⟨Nat.ne_of_lt (Nat.lt_of_lt_of_le (Heap.lt_size (B1.pro q hq).1) hx1),Nat.ne_of_lt (Nat.lt_of_lt_of_le (Heap.lt_size (B1.pro q hq).1) hd1)⟩),λ _=>⟨rfl,rfl,rfl⟩,λ h=>absurd rfl h⟩ (if_pos rfl)
  walk_at " r hr"
  have q:=B1.acc r hr
  obtain⟨n',ex⟩:=q.ox
  walk_at "c n'"
  obtain⟨t',ti',ed,_⟩:=q.od
  walk_at "c t' ti'"
  have lx:=Heap.lt_size ex
  have ld:=Heap.lt_size ed
  exact⟨Nat.ne_of_gt (Nat.lt_of_lt_of_le lx hx1),Nat.ne_of_gt (Nat.lt_of_lt_of_le ld hx1),Nat.ne_of_gt (Nat.lt_of_lt_of_le lx hd1),Nat.ne_of_gt (Nat.lt_of_lt_of_le ld hd1)⟩
 ·have hp1:p-1<rows.length:=by lia
  obtain⟨r0,hr0⟩:∃ r,rows[p-1]?=some r:=⟨_,List.getElem?_eq_getElem hp1⟩
  walk_at "c r0"
  have hm0:=List.mem_of_getElem? hr0
  refine Bk (by simp;exact Nat.pos_of_ne_zero (by assumption)) ?_
  walk_at "s3"
  refine Am ?_
  walk_at "g 253"
  refine Co (spliced_more ?_)
  refine Ai D1 M.rows ?_
  walk_at "s3"
  refine Ai D1 mp ?_
  walk_at "s3"
  rename_i z2 t2 D2 ht2 z3 t3 D3 ht3
  have e1:((p:Int)-1).toNat=p-1:=by simp
  obtain⟨k3,er3⟩:=(B.now D3).er
  walk_at "c k3"
  refine⟨Cr D3.k (by kernel_rfl),wpAny_mono (Ou w D3.good (R.mono (by decide)) er3 B.lr3 (by lia) (v:=.ref r0.x) (by rw[e1,List.getElem?_map,hr0];rfl) (by rw[List.length_map];exact Nat.le_trans (by assumption) (by decide))) (λ r z4 q=>?_) λ _ _ e=>e.elim⟩
  obtain⟨rfl,st4⟩:=q
  have D4:=D3.step0 st4
  refine An D4 ?_ (by kernel_rfl) (by kernel_rfl)
  walk_at " z5 D5"
  walk_at "s3"
  refine wpAny_If ?_
  walk_at "s3"
  refine Am ?_
  walk_at "g 225"
  refine Co (spliced_more ?_)
  refine Am ?_
  walk_at "g 246"
  refine Co (spliced_more ?_)
  refine Ai D5 M.rows ?_
  walk_at "s3"
  refine Ai D5 mp ?_
  walk_at "s3"
  rename_i z6 t6 D6 ht6 z7 t7 D7 ht7
  have B7:=B.now D7
  obtain⟨k7,er7⟩:=B7.er
  walk_at "c k7"
  refine⟨Cr D7.k (by kernel_rfl),wpAny_mono (s_delitem w D7.good (R.mono (by decide)) er7 B.lr3 (by lia) (by rw[e1,List.length_map];assumption) (by rw[List.length_map];exact Nat.le_trans (by assumption) (by decide))) ?_ λ _ _ e=>e.elim⟩
  walk_at " r z8 q"
  obtain⟨rfl,st8,n8,g8⟩:=q
  walk_at "c n8"
  have D8:=D7.step st8 (λ q hq=>by rw[List.mem_singleton.mp hq];exact⟨.inr B.lr0,hlrL,B.lr3⟩)
  have g8':z8.heap.get? lr=some (A6 ((rows.eraseIdx (p-1)).map λ r=>Value.ref r.x) n8):=by
   rw[g8,e1]
   rw[Ol]
  have B8:=B7.setRows st8 g8' (λ r hr=>B7.acc r (List.eraseIdx_subset hr)) (λ r hr=>B7.fr r (List.eraseIdx_subset hr)) (λ r hr=>B7.nl r (List.eraseIdx_subset hr)) (λ q hq r hr=>(B7.pro q hq).2.2.2.2.2 r (List.eraseIdx_subset hr)) (B7.dis.sublist (List.eraseIdx_sublist ..))
  walk_at "s3"
  refine⟨Cr D8.k (by kernel_rfl),wpAny_mono (Mm w D8.good (R.mono (by decide))) ?_ λ _ _ e=>e.elim⟩
  walk_at " r z9 q"
  obtain⟨rfl,st9⟩:=q
  have D9:=D8.step0 st9
  refine wpAny_truthy_bool ?_
  refine Be (by decide) ?_
  refine wpAny_execs_nil ?_
  refine wpAny_execs_nil ?_
  have q0:=B7.acc r0 hm0
  have B9:=B8.now D9
  have q9:r0.At w.params z9.heap:=by
   have c1:A2 w.params z8.heap r0.x r0.d r0.init r0.ps:=by
    refine A2.steps q0 st8 (Gf ?_) (Gf ?_) ?_
    ·obtain⟨n',ex⟩:=q0.ox
     walk_at "c n'"
     intro e;rw[e,er7] at ex
     injection ex with ex;injection ex with ex;cases ex
    ·obtain⟨t,ti,ed,_⟩:=q0.od
     walk_at "c t ti"
     intro e;rw[e,er7] at ed
     injection ed with ed;injection ed with ed;injection ed with ed;exact absurd ed (by decide)
    ·walk_at " y hy"
     refine Gf ?_
     walk_at " e"
     have ey:=(q0.tup y hy).1
     rw[e,er7] at ey
     injection ey with ey;injection ey with ey;injection ey with ey;exact absurd ey (by decide)
   exact c1.step st9
  exact h _ z9 (rows.eraseIdx (p-1)) r0 D9.rebase ⟨M.rows,M.lens,M.width,M.blanks,M.part⟩ B9 ⟨q9,dis_erase B.dis hr0,B.fr r0 hm0,B.nl r0 hm0,λ q hq=>(B.pro q hq).2.2.2.2.2 r0 hm0,λ e=>absurd e h0,λ _=>⟨hr0,rfl⟩⟩ (if_pos rfl)
theorem ne_accO {h:Heap} {a b:Addr} {d:Addr} {its vs:List Value} {n k:Nat} (ea:h.get? a=some (A8 d its n)) (eb:h.get? b=some (A6 vs k)):b≠a:=λ e=>by
 rw[e,ea] at eb;injection eb with eb;injection eb with eb;cases eb
theorem ne_iniO {h:Heap} {a b:Addr} {P:Params} {t:Tok} {v:Value} {vs:List Value} {k:Nat} (ea:h.get? a=some (A9 P t v)) (eb:h.get? b=some (A6 vs k)):b≠a:=λ e=>by
 rw[e,ea] at eb;injection eb with eb;injection eb with eb;injection eb with eb;exact absurd eb (by decide)
theorem ne_pcAcc {h:Heap} {a:Addr} {y:A0} {d:Addr} {its:List Value} {n:Nat} (ea:h.get? a=some (A8 d its n)) (ey:h.get? y.a=some y.obj):y.a≠a:=λ e=>by
 rw[e,ea] at ey;injection ey with ey;injection ey with ey;cases ey
theorem ne_pcIni {h:Heap} {a:Addr} {y:A0} {P:Params} {t:Tok} {v:Value} (ea:h.get? a=some (A9 P t v)) (ey:h.get? y.a=some y.obj):y.a≠a:=λ e=>by
 rw[e,ea] at ey;injection ey with ey;injection ey with ey;injection ey with ey;exact absurd ey (by decide)
theorem E5.onRow {P:Params} {s₀h:Heap} {s s':Shared} {L lr ll:Addr} {rows:List A7} {lla:List Addr} {pr:AO} {lv:List (List Int)} (B:E5 P s₀h L pr s.heap lr ll rows lla lv) {r0:A7} (q:r0.At P s.heap) (hd:∀ r∈rows,r0.Dis r) (hpr:∀ q∈pr,q.1≠r0.x∧q.1≠r0.d) (st:A4 [r0.x,r0.d] s s'):E5 P s₀h L pr s'.heap lr ll rows lla lv:=by
 obtain⟨n0,ex0⟩:=q.ox
 obtain⟨t0,ti0,ed0,_⟩:=q.od
 have lst:∀ {a:Addr} {vs:List Value} {n:Nat},@LE.le Nat _ 317 a→s.heap.get? a=some (A6 vs n)→s'.heap.get? a=some (A6 vs n):=λ h3 e=>st.get h3 (λ hm=>by
  rcases List.mem_cons.mp hm with rfl|hm
  ·exact ne_accO ex0 e rfl
  ·exact ne_iniO ed0 e (List.mem_singleton.mp hm)) e
 have acc:∀ r∈rows,r.At P s'.heap:=λ r hr=>by
  have z:=hd r hr
  refine A2.steps (B.acc r hr) st (λ hm=>?_) (λ hm=>?_) λ y hy hm=>?_
  ·rcases List.mem_cons.mp hm with e|hm
   ·exact z.1 e.symm
   ·exact z.2.2.1 (List.mem_singleton.mp hm).symm
  ·rcases List.mem_cons.mp hm with e|hm
   ·exact z.2.1 e.symm
   ·exact z.2.2.2 (List.mem_singleton.mp hm).symm
  ·have ey:=((B.acc r hr).tup y hy).1
   rcases List.mem_cons.mp hm with e|hm
   ·exact ne_pcAcc ex0 ey e
   ·exact ne_pcIni ed0 ey (List.mem_singleton.mp hm)
 exact⟨B.er.elim λ n e=>⟨n,lst B.lr3 e⟩,B.el.elim λ n e=>⟨n,lst B.ll3 e⟩,λ j a ns h1 h2=>(B.ev j a ns h1 h2).elim λ vs qq=>qq.elim λ n qq=>qq.elim λ e i=>⟨vs,n,lst (B.lv3 a (List.mem_of_getElem? h1)).1 e,i⟩,
  B.len,acc,B.dis,B.fr,B.nl,B.lr3,B.ll3,B.lr0,B.ll0,B.lne,B.lv3,λ q hq=>let z:=B.pro q hq;⟨st.get z.2.1 (λ hm=>by
   rcases List.mem_cons.mp hm with e|hm
   ·exact (hpr q hq).1 e
   ·exact (hpr q hq).2 (List.mem_singleton.mp hm)) z.1,z.2⟩⟩
noncomputable def Ek (r:A7) (rest:List A7):List A7:=rest.take (Hf r.len (rest.map A7.len))++r::rest.drop (Hf r.len (rest.map A7.len))
theorem insR_lens (r:A7) (rest:List A7):(Ek r rest).map A7.len=Hv r.len (rest.map A7.len):=by
 unfold Ek Hv
 rw[List.map_append,List.map_cons,List.map_take,List.map_drop]
theorem Kr (r:A7) (rest:List A7):(Ek r rest).Perm (r::rest):=by
 unfold Ek
 refine List.perm_middle.trans (List.Perm.cons r ?_)
 rw[List.take_append_drop]
theorem best3:∀ (w:World) {A:Around} {s z:Shared} {L lr ll:Addr} {m:SV} {rows rest:List A7} {r0:A7} {lla:List Addr} {pr:AO} {lv:List (List Int)} {W:Int} {tW:Tok} {y:A0} {p:Nat} (R:A3 (A.deeper (fenv Ao 301 L)) 12) (D:Cl w [] s L z.heap m [] z) (M:BNm m lr ll W tW y) (B:E5 w.params s.heap L pr z.heap lr ll rest lla lv) (C:Rest w.params s.heap L pr z.heap rows rest p r0) (hn:rest.length≤100) (hps:r0.ps.length≤100) (mr:m "row" = some (.ref r0.x)) (hs:(rest.map A7.len).Pairwise (·≤·)) (hb:∀ r∈rest,0≤r.len∧r.len<100000) (hb0:0≤r0.len∧r0.len<90000) (hyb:y.b.length≤1000) (hyp:y.p.length≤1000) {Q:FP} (h:∀ m z a,Cl w [] s L z.heap m [] z→BNm m lr ll W tW y→E5 w.params s.heap L pr z.heap lr ll (Ek {r0 with ps:=r0.ps++[⟨a,y.b,y.tb,y.p,y.tp⟩]} rest) lla lv→m "row" = some (.ref r0.x) →
   wpAny (MD w) (A.deeper (fenv Ao 301 L)) (execs (Bx.drop 3) (fenv Ao 301 L)) Q (λ _ _=>False) z),
  wpAny (MD w) (A.deeper (fenv Ao 301 L)) (execs (Bx.drop 2) (fenv Ao 301 L)) Q (λ _ _=>False) z:=by
 walk_at " w A s z L lr ll m rows rest r0 lla pr lv W tW y p R D M B C hn hps mr hs hb hb0 hyb hyp Q h"
 obtain⟨k,er⟩:=B.er
 walk_at "c k"
 have hlrL:lr≠L:=D.neSeq er λ _ _ h=>by cases h
 obtain⟨n0,ex0⟩:=C.at_.ox
 walk_at "c n0"
 have hxL:r0.x≠L:=D.neSeq ex0 λ _ _ h=>by cases h
 refine wpAny_execs_cons ?_
 refine wpAny_If ?_
 walk_at "s3"
 refine Am ?_
 walk_at "g 225"
 refine Co (spliced_more ?_)
 refine Ak ?_
 refine Ai D mr ?_
 walk_at " pl"
 refine am (.ref 158) D.k C.at_ (by kernel_rfl) (by kernel_rfl) (by intros;kernel_rfl) ?_
 refine Co (spliced_more ?_)
 refine Ai D M.blanks ?_
 walk_at "s3"
 refine Ai D M.part ?_
 walk_at "s3"
 refine⟨Cr D.k (by kernel_rfl),wpAny_mono (Lj w D.good (R.mono (by decide)) C.at_ hyb hyp (by exact Nat.le_trans (by assumption) (by decide))) ?_ λ _ _ e=>e.elim⟩
 walk_at " r z1 q"
 obtain⟨rfl,st1,a,q1⟩:=q
 walk_at "c a"
 have D1:=D.step st1 (in2 (.inr C.fr.1) (.inr C.fr.2) hxL C.nl C.at_.x3 C.at_.d3)
 have B1:=B.onRow C.at_ C.dis C.pro st1
 walk_at "s3"
 refine⟨Cr D1.k (by kernel_rfl),wpAny_mono (Mm w D1.good (R.mono (by decide))) ?_ λ _ _ e=>e.elim⟩
 walk_at " r z2 q"
 obtain⟨rfl,st2⟩:=q
 have D2:=D1.step0 st2
 refine wpAny_truthy_bool ?_
 refine Be (by decide) ?_
 walk_at "s3"
 refine Am ?_
 walk_at "g 225"
 refine Co (spliced_more ?_)
 refine Am ?_
 walk_at "g 48"
 refine cwk (spliced_more ?_)
 refine Ai D2 M.rows ?_
 walk_at "s3"
 refine Ai D2 mr ?_
 walk_at "s3"
 walk_at "g 268"
 have B2:=B1.now D2
 have q2:A2 w.params z2.heap r0.x r0.d r0.init _:=q1.step st2
 obtain⟨k2,er2⟩:=B2.er
 walk_at "c k2"
 generalize hr1:({r0 with ps:=r0.ps++[⟨a,y.b,y.tb,y.p,y.tp⟩]}:A7)=r1
 have hr1x:r1.x=r0.x:=by rw[← hr1]
 have hr1d:r1.d=r0.d:=by rw[← hr1]
 have q2':r1.At w.params z2.heap:=by rw[← hr1];exact q2
 have hlen1:r1.len=r0.len+((y.b.length:Int)+y.p.length):=by
  rw[← hr1];unfold A7.len Au;simp[A0.len,Int.add_assoc]
 have hr1b:0≤r1.len∧r1.len<100000:=by rw[hlen1];lia
 have hlm:(rest.map A7.len).length=rest.length:=List.length_map ..
 refine⟨Cr D2.k (by kernel_rfl),wpAny_mono (Pf w (v:=.ref r0.x) (k:=r1.len) (ks:=λ i=>(rest.map A7.len).getD i 0) (p:=Hf r1.len (rest.map A7.len)) D2.good (R.mono (by decide)) er2 B2.lr3 (by rw[List.length_map];exact Nat.le_trans (by assumption) (by decide)) (by kernel_rfl) (by rw[← hr1x];exact Q9 w q2' hr1b.1 hr1b.2) (keyRows B2.acc hb) (by rw[List.length_map];exact Ht _ _ _) ?_ ?_) ?_ λ _ _ e=>e.elim⟩
 ·walk_at " i hi"
  have hi':i<(rest.map A7.len).length:=Nat.lt_of_lt_of_le hi (J9 _ _)
  have q:=Ja _ i _ hi (List.getElem?_eq_getElem hi')
  have e:(rest.map A7.len).getD i 0=(rest.map A7.len)[i]:=by rw[List.getD_eq_getElem?_getD,List.getElem?_eq_getElem hi'];rfl
  rw[e]
  exact of_decide_eq_true q
 ·walk_at " i hi hlt"
  have hi':i<(rest.map A7.len).length:=by rw[List.length_map] at hlt ⊢;exact hlt
  have q:=Li (lt_mono _) _ hs i _ hi (List.getElem?_eq_getElem hi')
  have e:(rest.map A7.len).getD i 0=(rest.map A7.len)[i]:=by rw[List.getD_eq_getElem?_getD,List.getElem?_eq_getElem hi'];rfl
  rw[e]
  have q':=of_decide_eq_false q
  lia
 walk_at " r z3 q"
 obtain⟨rfl,st3,n3,g3⟩:=q
 walk_at "c n3"
 have D3:=D2.step st3 (λ q hq=>by rw[List.mem_singleton.mp hq];exact⟨.inr B.lr0,hlrL,B.lr3⟩)
 have g3':z3.heap.get? lr=some (A6 ((Ek r1 rest).map λ r=>Value.ref r.x) n3):=by
  rw[g3]
  unfold Ek
  rw[List.map_append,List.map_cons,List.map_take,List.map_drop,hr1x]
 have hmem:∀ r∈Ek r1 rest,r=r1∨r∈rest:=λ r hr=>List.mem_cons.mp ((Kr r1 rest).mem_iff.mp hr)
 have hdis1:∀ r∈rest,r1.Dis r:=λ r hr=>by
  have:=C.dis r hr
  unfold A7.Dis at this ⊢
  rw[hr1x,hr1d];exact this
 have hpw:(Ek r1 rest).Pairwise A7.Dis:=((Kr r1 rest).symm.pairwise (List.pairwise_cons.mpr ⟨hdis1,B.dis⟩) λ {a b} h=>A7.Dis.symm h)
 have B3:=B2.setRows st3 g3' (λ r hr=>(hmem r hr).elim (λ e=>e ▸ q2') (B2.acc r)) (λ r hr=>(hmem r hr).elim (λ e=>by rw[e,hr1x,hr1d];exact C.fr) (B2.fr r)) (λ r hr=>(hmem r hr).elim (λ e=>by rw[e,hr1d];exact C.nl) (B2.nl r)) (λ q hq r hr=>(hmem r hr).elim (λ e=>by rw[e,hr1x,hr1d];exact C.pro q hq) ((B2.pro q hq).2.2.2.2.2 r)) hpw
 walk_at "s3"
 refine⟨Cr D3.k (by kernel_rfl),wpAny_mono (Mm w D3.good (R.mono (by decide))) ?_ λ _ _ e=>e.elim⟩
 walk_at " r z4 q"
 obtain⟨rfl,st4⟩:=q
 have D4:=D3.step0 st4
 refine wpAny_truthy_bool ?_
 refine Be (by decide) ?_
 walk_at "s3"
 refine Be (by simp) ?_
 refine wpAny_execs_nil ?_
 exact h m z4 a D4.rebase M (hr1 ▸ B3.now D4) mr
theorem E5.addLens {P:Params} {s₀h:Heap} {h h':Heap} {L lr ll acc:Addr} {rows:List A7} {lla:List Addr} {pr:AO} {lv:List (List Int)} {vs:List Value} {n k:Nat} {ns:List Int} (B:E5 P s₀h L pr h lr ll rows lla lv) (hs:Heap.SameBut ll h h') (hg:h'.get? ll=some (A6 ((lla++[acc]).map Value.ref) k)) (ha:h.get? acc=some (A6 vs n)) (hi:IntsAre vs ns) (ha3:@LE.le Nat _ 317 acc) (h1:acc≠lr) (h2:acc≠ll) :
  E5 P s₀h L pr h' lr ll rows (lla++[acc]) (lv++[ns]):=by
 obtain⟨n0,el⟩:=B.el
 have lst:∀ {a:Addr} {vs:List Value} {n:Nat},a≠ll→h.get? a=some (A6 vs n)→h'.get? a=some (A6 vs n):=λ hne e=>(hs.2 _ hne).trans e
 have hacc:∀ r∈rows,r.At P h':=λ r hr=>by
  have q:=B.acc r hr
  obtain⟨n1,ex⟩:=q.ox
  obtain⟨t,ti,ed,hti⟩:=q.od
  exact⟨⟨n1,(hs.2 _ (Ne.symm (ne_accO ex el))).trans ex⟩,⟨t,ti,(hs.2 _ (Ne.symm (ne_iniO ed el))).trans ed,hti⟩,λ y hy=>⟨(hs.2 _ λ e=>by
   have ey:=(q.tup y hy).1
   rw[e,el] at ey;injection ey with ey;injection ey with ey;injection ey with ey;exact absurd ey (by decide)).trans (q.tup y hy).1,(q.tup y hy).2⟩,q.x3,q.d3,q.few⟩
 refine⟨B.er.elim λ n e=>⟨n,lst B.lne e⟩,⟨k,hg⟩,λ j a ns' e1 e2=>?_,by simp[B.len],hacc,B.dis,B.fr,B.nl,B.lr3,B.ll3,B.lr0,B.ll0,B.lne,λ a hm=>?_,λ q hq=>let z:=B.pro q hq;⟨(hs.2 _ z.2.2.2.2.1).trans z.1,z.2⟩⟩
 ·by_cases hj:j<lla.length
  ·rw[List.getElem?_append_left hj] at e1
   rw[List.getElem?_append_left (by rw[← B.len];exact hj)] at e2
   obtain⟨vs',n',e,i⟩:=B.ev j a ns' e1 e2
   exact⟨vs',n',lst (B.lv3 a (List.mem_of_getElem? e1)).2.2 e,i⟩
  ·have hj':j=lla.length:=by
    have:=(List.getElem?_eq_some_iff.mp e1).1
    rw[List.length_append,List.length_singleton] at this;lia
   subst hj'
   rw[List.getElem?_append_right (Nat.le_refl _),Nat.sub_self] at e1
   rw[B.len,List.getElem?_append_right (Nat.le_refl _),Nat.sub_self] at e2
   simp at e1 e2
   subst e1;subst e2
   exact⟨vs,n,lst h2 ha,hi⟩
 ·rcases List.mem_append.mp hm with hm|hm
  ·exact B.lv3 a hm
  ·rw[List.mem_singleton.mp hm];exact⟨ha3,h1,h2⟩
theorem best4:∀ (w:World) {A:Around} {s z:Shared} {L lr ll:Addr} {m:SV} {rows:List A7} {r1:Addr} {lla:List Addr} {pr:AO} {lv:List (List Int)} {W:Int} {tW:Tok} {y:A0} (R:A3 (A.deeper (fenv Ao 301 L)) 12) (D:Cl w [] s L z.heap m [] z) (M:BNm m lr ll W tW y) (B:E5 w.params s.heap L pr z.heap lr ll rows lla lv) (hn:rows.length≤100) (hn2:lla.length≤100) (mr:m "row" = some (.ref r1)) (hb:∀ r∈rows,0≤r.len∧r.len<100000) {Q:FP} (h:∀ z acc ks k,Cl w [] s L z.heap m [] z→E5 w.params s.heap L pr z.heap lr ll rows (lla++[acc]) (lv++[rows.map A7.len])→z.heap.get? acc=some (A6 (Hy ks) k)→ks.map (·.1)=rows.map A7.len→(∀ q∈ks,q.2≠0∧q.2<z.toks) →
   wpAny (MD w) (A.deeper (fenv Ao 301 L)) (execs (Bx.drop 4) (fenv Ao 301 L)) Q (λ _ _=>False) z),
  wpAny (MD w) (A.deeper (fenv Ao 301 L)) (execs (Bx.drop 3) (fenv Ao 301 L)) Q (λ _ _=>False) z:=by
 walk_at " w A s z L lr ll m rows r1 lla pr lv W tW y R D M B hn hn2 mr hb Q h"
 obtain⟨k,er⟩:=B.er
 walk_at "c k"
 obtain⟨kl,el⟩:=B.el
 walk_at "c kl"
 have hlrL:lr≠L:=D.neSeq er λ _ _ h=>by cases h
 have hllL:ll≠L:=D.neSeq el λ _ _ h=>by cases h
 refine wpAny_execs_cons ?_
 refine wpAny_Expr ?_ (by kernel_rfl) (by kernel_rfl)
 refine Ak ?_
 refine Ai D M.lens ?_
 walk_at " pl"
 refine Calls.getMethod_list_append el rfl rfl ?_
 refine Co (spliced_more ?_)
 refine Fn [] (by kernel_rfl) (by kernel_rfl) (by decide +kernel) ?_
 refine Ai D M.rows ?_
 refine G0 R.hd D.good er B.lr3 (by rw[List.length_map];exact Nat.le_trans (by assumption) (by decide)) (by intro C;kernel_rfl) (λ (i:Nat) (rs:List Value) (t:Tok)=>∃ ks:List (Int×Tok),rs=Hy ks∧ks.map (·.1)=(rows.map A7.len).take i∧∀ q∈ks,q.2≠0∧q.2<t) (λ _=>⟨[],rfl,by simp,λ _ h=>(nomatch h)⟩)
  (λ i rs t t' ht qq=>qq.elim λ ks qq=>qq.elim λ e1 qq=>qq.elim λ e2 e3=>⟨ks,e1,e2,λ q hq=>⟨(e3 q hq).1,Nat.lt_of_lt_of_le (e3 q hq).2 ht⟩⟩) ?_ ?_
 ·rintro C i v z1 m1 rs hv hlen D1 ⟨ks,rfl,e2,e3⟩
  walk_at "c C i v z1 m1 hv D1 ks"
  rw[List.getElem?_map] at hv
  obtain⟨r,hr,rfl⟩:=Option.map_eq_some_iff.mp hv
  walk_at "c r"
  have hm:=List.mem_of_getElem? hr
  refine assign_Name ?_
  refine wpAny_with_toks (Nat.le_refl z1.toks) ?_
  refine An D1 ?_ (by kernel_rfl) (by kernel_rfl)
  walk_at " z2 D2 ht2"
  refine wpAny_tests_nil ?_
  rw[if_pos rfl]
  refine Am ?_
  walk_at "g 268"
  refine Co (spliced_more ?_)
  walk_at "s3"
  refine⟨Cr D2.k (by kernel_rfl),wpAny_mono (Af w D2.good (R.mono (by decide)) ((B.acc r hm).step D2.st) (hb r hm).1 (hb r hm).2) ?_ λ _ _ e=>e.elim⟩
  walk_at " v z3 q"
  obtain⟨⟨t3,⟨h31,h32⟩,rfl⟩,st3⟩:=q
  walk_at "c t3"
  have D3:=D2.step0 st3
  refine⟨⟨_,_,D3⟩,ks++[(r.len,t3)],?_,?_,?_⟩
  ·unfold Hy;rw[List.map_append];rfl
  ·rw[List.map_append,e2,List.take_add_one,List.getElem?_map,hr];rfl
  ·walk_at " q hq"
   rcases List.mem_append.mp hq with hq|hq
   ·refine⟨(e3 q hq).1,Nat.lt_of_lt_of_le (e3 q hq).2 (Nat.le_trans ht2 st3.calm.toks)⟩
   ·rw[List.mem_singleton.mp hq]
    exact⟨Nat.ne_of_gt (Nat.lt_of_lt_of_le D2.good.tk h31),h32⟩
 ·rintro acc z1 rs k1 hacc st1 g1 ⟨ks,rfl,e2,e3⟩
  walk_at "c acc z1 k1 hacc st1 ks"
  rw[List.take_of_length_le (by simp)] at e2
  have D1:=D.step0 st1
  have B1:=B.now D1
  have lt1:=Heap.lt_size er
  have lt2:=Heap.lt_size el
  have ha3:@LE.le Nat _ 317 acc:=Nat.le_trans D.good.vol.c hacc
  have n1:acc≠lr:=Nat.ne_of_gt (Nat.lt_of_lt_of_le lt1 hacc)
  have n2:acc≠ll:=Nat.ne_of_gt (Nat.lt_of_lt_of_le lt2 hacc)
  obtain⟨k2,el2⟩:=B1.el
  walk_at "c k2"
  refine spliced_none ⟨Bh,Fe el2 (by rw[List.length_map];exact Nat.le_trans (by assumption) (by decide)) ?_⟩
  walk_at " h3 hs3 hg3"
  have D3:=D1.mut B.ll0 hllL B.ll3 hs3
  have hi:IntsAre (Hy ks) (rows.map A7.len):=e2 ▸ intsAre ks
  have B3:=B1.addLens (acc:=acc) hs3 (by rw[List.map_append];exact hg3) g1 hi ha3 n1 n2
  exact h _ acc ks k1 D3 B3 ((hs3.2 _ n2).trans g1) e2 e3
theorem best5:∀ (w:World) {A:Around} {s z:Shared} {L lr ll acc:Addr} {m:SV} {rows:List A7} {r1:A7} {lla:List Addr} {pr:AO} {lv:List (List Int)} {W:Int} {tW:Tok} {y:A0} {ks:List (Int×Tok)} {k p:Nat} (R:A3 (A.deeper (fenv Ao 301 L)) 12) (D:Cl w [] s L z.heap m [] z) (M:BNm m lr ll W tW y) (B:E5 w.params s.heap L pr z.heap lr ll rows (lla++[acc]) lv) (hn:rows.length≤100) (mr:m "row" = some (.ref r1.x)) (ha:z.heap.get? acc=some (A6 (Hy ks) k)) (hks:ks.map (·.1)=rows.map A7.len) (htk:∀ q∈ks,q.2≠0∧q.2<z.toks) (hb1:0≤r1.len∧r1.len<100000) (hp:rows[p]?=some r1) (hlt:∀ i<p,∀ r,rows[i]?=some r→r.len≠r1.len) {Q:FP} (h:∀ z,Cl w [] s L z.heap m [] z→E5 w.params s.heap L pr z.heap lr ll rows (lla++[acc]) lv→Q .next z),
  wpAny (MD w) (A.deeper (fenv Ao 301 L)) (execs (Bx.drop 4) (fenv Ao 301 L)) Q (λ _ _=>False) z:=by
 walk_at " w A s z L lr ll acc m rows r1 lla pr lv W tW y ks k p R D M B hn mr ha hks htk hb1 hp hlt Q h"
 have hm1:=List.mem_of_getElem? hp
 have hacc3:@LE.le Nat _ 317 acc:=(B.lv3 acc (List.mem_append_right _ (.head _))).1
 have haccL:acc≠L:=D.neSeq ha λ _ _ h=>by cases h
 refine wpAny_execs_cons ?_
 refine wpAny_If ?_
 walk_at "s3"
 refine Am ?_
 walk_at "g 225"
 refine Co (spliced_more ?_)
 refine Am ?_
 walk_at "g 253"
 refine Co (spliced_more ?_)
 refine Ai D M.rows ?_
 walk_at "s3"
 refine Am ?_
 walk_at "g 260"
 refine Co (spliced_more ?_)
 refine Aj ?_
 refine Ai D M.lens ?_
 refine wpAny_with_toks (Nat.le_refl z.toks) ?_
 walk_at "s3"
 rename_i z1 t1 D1 ht1 z2 t2 D2 ht2
 walk_at " ht"
 obtain⟨k2,el2⟩:=(B.now D2).el
 walk_at "c k2"
 rw[List.map_append] at el2
 refine Fa (T := "list") (id := "list.__getitem__") ⟨_,el2,rfl⟩ F.slot_list_getitem.lookup ⟨rfl,?_⟩
 refine Kt el2 ?_
 walk_at "s3"
 refine Am ?_
 walk_at "g 268"
 refine Co (spliced_more ?_)
 refine Ai D2 mr ?_
 walk_at "s3"
 have B2:=B.now D2
 refine⟨Cr D2.k (by kernel_rfl),wpAny_mono (Af w D2.good (R.mono (by decide)) (B2.acc r1 hm1) hb1.1 hb1.2) ?_ λ _ _ e=>e.elim⟩
 walk_at " v z3 q"
 obtain⟨⟨t3,⟨h31,h32⟩,rfl⟩,st3⟩:=q
 walk_at "c t3"
 have D3:=D2.step0 st3
 walk_at "s3"
 refine⟨Cr D3.k (by kernel_rfl),wpAny_mono (s_indexOf w (p:=p) D3.good (R.mono (by decide)) (D3.old ha hacc3 haccL) hacc3 (Nat.ne_of_gt (Nat.lt_of_lt_of_le D2.good.tk h31)) ?_ ?_ ?_ ?_) ?_ λ _ _ e=>e.elim⟩
 ·walk_at " q hq"
  refine⟨(htk q hq).1,λ _ e=>?_⟩
  exact absurd (htk q hq).2 (Nat.not_lt.mpr (e ▸ Nat.le_trans ht h31))
 ·have e1:ks.length=rows.length:=by have:=congrArg List.length hks;simpa using this
  rw[e1];exact (List.getElem?_eq_some_iff.mp hp).1
 ·rw[hks,List.getElem?_map,hp];rfl
 ·walk_at " i hi q hq e"
  have e2:(ks.map (·.1))[i]?=some q.1:=by rw[List.getElem?_map,hq];rfl
  rw[hks,List.getElem?_map] at e2
  obtain⟨r,hr,e3⟩:=Option.map_eq_some_iff.mp e2
  walk_at "c r"
  exact hlt i hi r hr (e3.trans e)
 walk_at " v z4 q"
 obtain⟨⟨t4,rfl⟩,st4⟩:=q
 walk_at "c t4"
 have D4:=D3.step0 st4
 obtain⟨k4,er4⟩:=(B.now D4).er
 walk_at "c k4"
 walk_at "s3"
 refine⟨Cr D4.k (by kernel_rfl),wpAny_mono (Ou w (v:=.ref r1.x) D4.good (R.mono (by decide)) er4 B.lr3 (by simp) (by rw[Int.toNat_natCast,List.getElem?_map,hp];rfl) (by rw[List.length_map];exact Nat.le_trans (by assumption) (by decide))) (λ v z5 q=>?_) λ _ _ e=>e.elim⟩
 obtain⟨rfl,st5⟩:=q
 have D5:=D4.step0 st5
 walk_at "s3"
 refine Ai D5 mr ?_
 walk_at "s3"
 refine⟨Cr D5.k (by kernel_rfl),wpAny_mono (s_is_same w D5.good (R.mono (by decide))) ?_ λ _ _ e=>e.elim⟩
 walk_at " v z6 q"
 obtain⟨rfl,st6⟩:=q
 have D6:=D5.step0 st6
 refine wpAny_truthy_bool ?_
 refine Be (by decide) ?_
 refine wpAny_execs_nil ?_
 refine wpAny_execs_nil ?_
 exact h z6 D6.rebase (B.now D6)
noncomputable def Cn (q:Str×Str):Int:=(q.1.length:Int)+(q.2.length:Int)
noncomputable def Gp (W hd:Int) (ts:List Int):List Int:=ts.foldl (Ey W) (if hd=0 then [] else [hd])
theorem So (W hd:Int) (ts:List Int):(Gp W hd ts).Pairwise (·≤·):=by
 unfold Gp
 have:∀ (ts:List Int) (ls:List Int),ls.Pairwise (·≤·)→(ts.foldl (Ey W) ls).Pairwise (·≤·):=by
  intro ts
  induction ts with
  | nil=>intro ls h;exact h
  | cons t r ih=>intro ls h;exact ih _ (Gu W t h)
 exact this ts _ (by split<;>simp)
structure BPl (W hd:Int) (qs:LS) (rows:List A7) (lv:List (List Int)):Prop where
 lens:rows.map A7.len=Gp W hd (qs.map Cn)
 lv:lv=(List.range qs.length).map (λ j=>Gp W hd ((qs.take (j+1)).map Cn))
 pcs:(rows.flatMap (λ r=>T r.ps)).Perm qs
 ini:(rows.map (·.init)).Perm (if hd=0 then List.replicate rows.length 0 else hd::List.replicate (rows.length-1) 0)
 bnd:∀ r∈rows,0≤r.len∧r.len≤hd+2000*qs.length∧r.ps.length≤qs.length
 cnt:rows.length≤qs.length+1
 pos:hd≠0→rows≠[]
theorem BPl.start {W hd:Int} (h0:0≤hd) {rows:List A7} (hr:(hd=0∧rows=[])∨(hd≠0∧∃ x d,rows=[⟨x,d,hd,[]⟩])):BPl W hd [] rows []:=by
 rcases hr with ⟨rfl,rfl⟩|⟨hne,x,d,rfl⟩
 ·exact⟨by simp[Gp],rfl,.refl _,by simp,λ _ h=>(nomatch h),by simp,λ h=>absurd rfl h⟩
 ·refine⟨by simp[Gp,hne,A7.len,Au],rfl,.refl _,by simp[hne],λ r hr=>?_,by simp,λ _=>by simp⟩
  rw[List.mem_singleton.mp hr]
  simp[A7.len,Au,h0]
theorem Kp {α:Type} {l:List α} {i:Nat} {a:α} (h:l[i]?=some a):l.Perm (a::l.eraseIdx i):=by
 induction l generalizing i with
 | nil=>simp at h
 | cons x r ih=>cases i with
 | zero=>simp at h;subst h;exact .refl _
 | succ i=>exact (List.Perm.cons x (ih (by simpa using h))).trans (List.Perm.swap ..)
theorem BPl.turn:∀ {W hd:Int} {qs:LS} {rows rest:List A7} {lv:List (List Int)} {r0 r1:A7} {y:A0} {a:Addr} (B:BPl W hd qs rows lv) (h0:0≤hd) (hyb:y.b.length≤1000) (hyp:y.p.length≤1000) (new:Ie W (Cn (y.b,y.p)) (rows.map A7.len)=0→rest=rows∧r0.init=0∧r0.ps=[]) (old:Ie W (Cn (y.b,y.p)) (rows.map A7.len)≠0→rows[Ie W (Cn (y.b,y.p)) (rows.map A7.len)-1]?=some r0∧rest=rows.eraseIdx (Ie W (Cn (y.b,y.p)) (rows.map A7.len)-1)) (hr1:r1={r0 with ps:=r0.ps++[⟨a,y.b,y.tb,y.p,y.tp⟩]}),
  BPl W hd (qs++[(y.b,y.p)]) (Ek r1 rest) (lv++[(Ek r1 rest).map A7.len]):=by
 walk_at " W hd qs rows rest lv r0 r1 y a B h0 hyb hyp new old hr1"
 have hlen1:r1.len=r0.len+Cn (y.b,y.p):=by
  rw[hr1];unfold A7.len Au Cn;simp[A0.len,Int.add_assoc]
 have hl:(Ek r1 rest).map A7.len=Gp W hd ((qs++[(y.b,y.p)]).map Cn):=by
  rw[insR_lens,hlen1]
  unfold Gp
  rw[List.map_append,List.foldl_append]
  show _=Ey W (Gp W hd (qs.map Cn)) (Cn (y.b,y.p))
  rw[← B.lens]
  unfold Ey
  by_cases hp:Ie W (Cn (y.b,y.p)) (rows.map A7.len)=0
  ·rw[if_pos hp]
   obtain⟨e1,e2,e3⟩:=new hp
   have:r0.len=0:=by unfold A7.len Au;rw[e2,e3];rfl
   rw[e1,this,Int.zero_add]
  ·rw[if_neg hp]
   obtain⟨e1,e2⟩:=old hp
   have:(rows.map A7.len).getD (Ie W (Cn (y.b,y.p)) (rows.map A7.len)-1) 0=r0.len:=by
    rw[List.getD_eq_getElem?_getD,List.getElem?_map,e1];rfl
   rw[this,e2,Ol]
 have hpr:(Ek r1 rest).Perm (r1::rest):=Kr r1 rest
 have hT1:T r1.ps=T r0.ps++[(y.b,y.p)]:=by rw[hr1];simp[T]
 have hi1:r1.init=r0.init:=by rw[hr1]
 have hrest:(rest.flatMap (λ r=>T r.ps)++T r0.ps).Perm qs∧(r0.init::rest.map (·.init)).Perm (if hd=0 then List.replicate (rest.length+1) 0 else hd::List.replicate rest.length 0)∧(∀ r∈rest,r∈rows)∧rest.length≤qs.length+1∧(0≤r0.len∧r0.len≤hd+2000*qs.length∧r0.ps.length≤qs.length):=by
  by_cases hp:Ie W (Cn (y.b,y.p)) (rows.map A7.len)=0
  ·obtain⟨e1,e2,e3⟩:=new hp
   have e4:r0.len=0:=by unfold A7.len Au;rw[e2,e3];rfl
   refine⟨by rw[e1,e3];simpa [T] using B.pcs,?_,λ r hr=>e1 ▸ hr,by rw[e1];exact B.cnt,by rw[e4];simp,by rw[e4];lia,by rw[e3];exact Nat.zero_le _⟩
   rw[e1,e2]
   by_cases hh:hd=0
   ·rw[if_pos hh]
    have:=B.ini
    rw[if_pos hh] at this
    exact List.Perm.cons 0 this
   ·rw[if_neg hh]
    have:=B.ini
    rw[if_neg hh] at this
    have hpos:0<rows.length:=List.length_pos_iff.mpr (B.pos hh)
    refine (List.Perm.cons 0 this).trans ((List.Perm.swap ..).trans ?_)
    have:rows.length=rows.length-1+1:=by lia
    rw[this,List.replicate_succ]
    simp
  ·obtain⟨e1,e2⟩:=old hp
   have pm:=Kp e1
   rw[← e2] at pm
   have hm:=List.mem_of_getElem? e1
   have hlen:rows.length=rest.length+1:=by have:=pm.length_eq;simpa using this
   refine⟨?_,?_,λ r hr=>pm.mem_iff.mpr (List.mem_cons_of_mem _ hr),by have:=B.cnt;lia,B.bnd r0 hm⟩
   ·have h1:=(pm.flatMap_right (λ r=>T r.ps)).symm.trans B.pcs
    rw[List.flatMap_cons] at h1
    exact List.perm_append_comm.trans h1
   ·have h1:=(pm.map (·.init)).symm.trans B.ini
    rw[List.map_cons] at h1
    rw[hlen] at h1
    simpa using h1
 obtain⟨g1,g2,g3,g4,g5,g6,g7⟩:=hrest
 have hq:Cn (y.b,y.p)≤2000∧0≤Cn (y.b,y.p):=by
  show (y.b.length:Int)+(y.p.length:Int)≤2000∧0≤(y.b.length:Int)+(y.p.length:Int)
  lia
 refine⟨hl,?_,?_,?_,?_,?_,?_⟩
 ·rw[hl,B.lv,List.length_append,List.length_singleton,List.range_succ]
  refine Eq.trans ?_ (List.map_append ..).symm
  congr 1
  ·refine List.map_congr_left ?_
   walk_at " j hj"
   rw[List.take_append_of_le_length (by have:=List.mem_range.mp hj;assumption)]
  ·have e:(qs++[(y.b,y.p)]).take (qs.length+1)=qs++[(y.b,y.p)]:=List.take_of_length_le (by simp)
   show [Gp W hd ((qs++[(y.b,y.p)]).map Cn)]=[Gp W hd (((qs++[(y.b,y.p)]).take (qs.length+1)).map Cn)]
   rw[e]
 ·refine (hpr.flatMap_right (λ r=>T r.ps)).trans ?_
  rw[List.flatMap_cons,hT1,List.append_assoc]
  refine (List.perm_append_comm (l₁:=T r0.ps)).trans ?_
  rw[List.append_assoc]
  refine List.perm_append_comm.trans ?_
  exact List.Perm.append_right _ g1
 ·refine (hpr.map (·.init)).trans ?_
  rw[List.map_cons,hi1]
  have e:(Ek r1 rest).length=rest.length+1:=by have:=hpr.length_eq;simpa using this
  rw[e]
  exact g2
 ·walk_at " r hr"
  rw[List.length_append,List.length_singleton]
  rcases List.mem_cons.mp (hpr.mem_iff.mp hr) with rfl|hr
  ·rw[hlen1]
   refine⟨by lia,by push_cast;lia,?_⟩
   rw[hr1];simp;omega
  ·have:=B.bnd r (g3 r hr)
   refine⟨this.1,by push_cast;lia,by lia⟩
 ·have e:(Ek r1 rest).length=rest.length+1:=by have:=hpr.length_eq;simpa using this
  rw[e,List.length_append,List.length_singleton]
  by_cases hp:Ie W (Cn (y.b,y.p)) (rows.map A7.len)=0
  ·rw[(new hp).1];have:=B.cnt;exact Nat.lt_succ_of_le (by assumption)
  ·have pm:=Kp (old hp).1
   rw[← (old hp).2] at pm
   have:=pm.length_eq
   have:=B.cnt
   simp at *
   omega
 ·walk_at " _ e"
  have:=hpr.length_eq
  rw[e] at this
  simp at this
structure BSrc (w:World) (s:Shared) (lt:Addr) (ys:List A0) (n:Nat) (hd:Int):Prop where
 elt:s.heap.get? lt=some (A6 (ys.map λ y=>Value.ref y.a) n)
 lt3:@LE.le Nat _ 317 lt
 pcs:∀ y∈ys,Ar s.heap y
 len:ys.length≤20
 h0:0≤hd
 h1:hd≤1000
theorem C8 {w:World} {S:List Addr} {s₀ s:Shared} {L:Addr} {ref:Heap} {m:SV} {news:AO} {A:Around} {E:VP} {vs:List Value} {Q:VP} (D:Cl w S s₀ L ref m news s) (h:∀ s' a,Cl w S s₀ L ref m ((a,{cls:=.type "list", data:=.seq vs.toArray})::news) s'→@LE.le Nat _ 317 a→s₀.heap.get? a=none→s.heap.get? a=none→Q (.ref a) s')
  (hsz:vs.length≤1000):wpAny (MD w) A (newList vs) Q E s :=
 wpAny_newObj_type (h _ _ (D.push _ rfl) D.good.vol.c (Bc D.st.size) (Bc (Nat.le_refl _))) (by show vs.toArray.size≤sizeLine;rw[List.size_toArray];exact Nat.le_trans hsz (by decide +kernel))
theorem E5.addPro {P:Params} {s₀h h:Heap} {L lr ll:Addr} {rows:List A7} {lla:List Addr} {lv:List (List Int)} {pr:AO} (B:E5 P s₀h L [] h lr ll rows lla lv) (hp:∀ q∈pr,h.get? q.1=some q.2∧@LE.le Nat _ 317 q.1∧q.1≠L∧q.1≠lr∧q.1≠ll∧∀ r∈rows,q.1≠r.x∧q.1≠r.d):E5 P s₀h L pr h lr ll rows lla lv :=
 ⟨B.er,B.el,B.ev,B.len,B.acc,B.dis,B.fr,B.nl,B.lr3,B.ll3,B.lr0,B.ll0,B.lne,B.lv3,hp⟩
theorem E5.noPro {P:Params} {s₀h h:Heap} {L lr ll:Addr} {rows:List A7} {lla:List Addr} {lv:List (List Int)} {pr:AO} (B:E5 P s₀h L pr h lr ll rows lla lv):E5 P s₀h L [] h lr ll rows lla lv :=
 ⟨B.er,B.el,B.ev,B.len,B.acc,B.dis,B.fr,B.nl,B.lr3,B.ll3,B.lr0,B.ll0,B.lne,B.lv3,λ _ h=>(nomatch h)⟩
theorem best_rest:∀ (w:World) {A:Around} {s z:Shared} {L lt lr:Addr} {ys:List A0} {n k:Nat} {hd W:Int} {tW:Tok} {m:SV} {rows:List A7} (X:BSrc w s lt ys n hd) (R:A3 (A.deeper (fenv Ao 301 L)) 12) (D:Cl w [] s L z.heap m [] z) (hr:m "rows" = some (.ref lr)) (hw:m "words" = some (.ref lt)) (hW:m "width" = some (.int W tW)) (er:z.heap.get? lr=some (A6 (rows.map λ r=>Value.ref r.x) k)) (lr3:@LE.le Nat _ 317 lr) (lr0:s.heap.get? lr=none) (hacc:∀ r∈rows,r.At w.params z.heap) (hdis:rows.Pairwise A7.Dis) (hfr:∀ r∈rows,s.heap.get? r.x=none∧s.heap.get? r.d=none) (hnl:∀ r∈rows,r.d≠L) (hst:(hd=0∧rows=[])∨(hd≠0∧∃ x d,rows=[⟨x,d,hd,[]⟩])),
  wpAny (MD w) (A.deeper (fenv Ao 301 L)) (execs (Bs.drop 1) (fenv Ao 301 L)) (λ fl s'=>(∃ L tu lr ll rows lla lv,Ej fl=.ref tu∧s'.heap.get? tu=some (Je (.ref lr) (.ref ll))∧E5 w.params s.heap L [] s'.heap lr ll rows lla lv∧BPl W hd (T ys) rows lv)∧A4 [] s s') (λ _ _=>False) z:=by
 walk_at " w A s z L lt lr ys n k hd W tW m rows X R D hr hw hW er lr3 lr0 hacc hdis hfr hnl hst"
 have hlrL:lr≠L:=D.neSeq er λ _ _ h=>by cases h
 have hltL:lt≠L:=D.ne0 X.elt
 refine wpAny_execs_cons ?_
 refine wpAny_Assign_Name ?_ (by kernel_rfl)
 refine Gv ?_
 refine spliced_none ?_
 refine C8 D ?_ (Nat.zero_le _)
 walk_at " z1 ll D1 ll3 ll0 llz"
 refine An D1 ?_ (by kernel_rfl) (by kernel_rfl)
 walk_at " z2 D2"
 refine wpAny_execs_cons ?_
 have el2:z2.heap.get? ll=some (A6 [] 0):=D2.at 0 rfl
 have hllL:ll≠L:=(D2.nw _ (.head _)).2.1
 have hne:lr≠ll:=λ e=>by rw[e,llz] at er;cases er
 have B2:E5 w.params s.heap L [] z2.heap lr ll rows [] [] :=
  ⟨⟨k,D2.old er lr3 hlrL⟩,⟨0,el2⟩,λ j a ns e=>by simp at e,rfl,λ r hr=>D2.acc (hacc r hr) (hnl r hr),hdis,hfr,hnl,lr3,ll3,lr0,ll0,hne,λ _ h=>(nomatch h),λ _ h=>(nomatch h)⟩
 refine wpAny_For ?_
 refine Ai D2 hw ?_
 have hlt2:=D2.st.get X.lt3 (λ h=>nomatch h) X.elt
 refine Ss R.hd D2 hlt2 X.lt3 (λ i m' z'=>m' "rows" = some (.ref lr)∧m' "lens" = some (.ref ll)∧m' "width" = some (.int W tW)∧∃ rows lla lv,E5 w.params s.heap L [] z'.heap lr ll rows lla lv∧BPl W hd (T (ys.take i)) rows lv) ?_ ?_ ?_ ?_
 ·rintro i m z z' hk ht ⟨e1,e2,e3,rows,lla,lv,B,P⟩
  walk_at "c i m z z' hk ht e1 e2 e3 rows lla lv"
  exact⟨e1,e2,e3,rows,lla,lv,B.keepX hk,P⟩
 ·exact⟨hr,rfl,hW,rows,[],[],B2,by simpa [T] using BPl.start X.h0 hst⟩
 ·rintro I i m' z' v hv hI3 hIL hI0 ⟨oI,hoI,hcI⟩ hltz ⟨e1,e2,e3,rows,lla,lv,B,P⟩ Dz
  walk_at "c I i m' z' v hv hI3 hIL hI0 oI hoI hcI hltz e1 e2 e3 rows lla lv"
  rw[List.getElem?_map] at hv
  obtain⟨y,hy,rfl⟩:=Option.map_eq_some_iff.mp hv
  walk_at "c y"
  have hym:=List.mem_of_getElem? hy
  have hyz:Ar z'.heap y:=by
   have q:=X.pcs y hym
   exact⟨Dz.st.get q.2.1 (λ h=>nomatch h) q.1,q.2⟩
  refine Ch Dz R.hd ⟨_,hyz.1,rfl,0,rfl⟩ rfl rfl ?_
  walk_at " z2 F2"
  refine assignInOrder_cons (assign_Name ?_)
  refine An F2 ?_ (by kernel_rfl) (by kernel_rfl)
  walk_at " z3 F3"
  refine assignInOrder_cons (assign_Name ?_)
  refine An F3 ?_ (by kernel_rfl) (by kernel_rfl)
  walk_at " z4 F4"
  refine assignInOrder_nil ?_
  have M4:BNm (λ y'=>if y'=Str.ofString "part" then some (.str y.p y.tp) else (λ y'=>if y'=Str.ofString "blanks" then some (.str y.b y.tb) else m' y') y') lr ll W tW y:=⟨e1,e2,e3,(if_neg (by decide)).trans (if_pos rfl),if_pos rfl⟩
  generalize (λ y'=>if y'=Str.ofString "part" then some (.str y.p y.tp) else (λ y'=>if y'=Str.ofString "blanks" then some (.str y.b y.tb) else m' y') y')=m4 at M4 F4
  have Bp:E5 w.params s.heap L [(I,oI),(lt,A6 (ys.map λ y=>Value.ref y.a) n)] z'.heap lr ll rows lla lv:=by
   obtain⟨kr,er'⟩:=B.er
   walk_at "c kr"
   obtain⟨kl,el'⟩:=B.el
   walk_at "c kl"
   refine B.addPro ?_
   walk_at " q hq"
   rcases List.mem_cons.mp hq with rfl|hq
   ·refine⟨hoI,hI3,hIL,?_,?_,λ r hr=>⟨?_,?_⟩⟩
    ·rintro rfl;rw[er'] at hoI;cases hoI;injection hcI with e;exact absurd e (by decide)
    ·rintro rfl;rw[el'] at hoI;cases hoI;injection hcI with e;exact absurd e (by decide)
    ·obtain⟨n',ex⟩:=(B.acc r hr).ox
     walk_at "c n'"
     intro e;simp only at e;rw[e,ex] at hoI;cases hoI;cases hcI
    ·obtain⟨t',ti',ed,_⟩:=(B.acc r hr).od
     walk_at "c t' ti'"
     intro e;simp only at e;rw[e,ed] at hoI;cases hoI;injection hcI with e;exact absurd e (by decide)
   ·rw[List.mem_singleton.mp hq]
    refine⟨hltz,X.lt3,hltL,λ e=>?_,λ e=>?_,λ r hr=>⟨λ e=>?_,λ e=>?_⟩⟩<;>simp only at e
    ·have:=X.elt;rw[e,B.lr0] at this;cases this
    ·have:=X.elt;rw[e,B.ll0] at this;cases this
    ·have:=X.elt;rw[e,(B.fr r hr).1] at this;cases this
    ·have:=X.elt;rw[e,(B.fr r hr).2] at this;cases this
  have hl20:=X.len
  have hi20:i<ys.length:=(List.getElem?_eq_some_iff.mp hy).1
  have hTl:(T (ys.take i)).length=i:=by simp[T];lia
  have hbnd:∀ r∈rows,0≤r.len∧r.len<90000∧r.ps.length≤100:=λ r hr=>by
   have:=P.bnd r hr;rw[hTl] at this;have:=X.h1;lia
  have hcnt:rows.length≤100:=by have:=P.cnt;rw[hTl] at this;lia
  have hsrt:(rows.map A7.len).Pairwise (·≤·):=by rw[P.lens];exact So ..
  have hlv:lla.length≤100:=by rw[B.len,P.lv];simp[hTl];lia
  have c1:=@best1 w A s z4 L lr ll m4 rows lla _ lv W tW y R F4.rebase M4 (Bp.now F4) hsrt (λ r hr=>⟨(hbnd r hr).1,by have:=(hbnd r hr).2.1;lia⟩) hcnt hyz.2.2.1 hyz.2.2.2
  refine @c1 _ ?_
  walk_at " m5 z5 tp D5 M5 B5 mp"
  have c2:=@best2 w A s z5 L lr ll m5 rows lla _ lv W tW y _ tp R D5 M5 B5 hcnt (Ht _ _ _) mp
  refine @c2 _ ?_
  walk_at " m6 z6 rest r0 D6 M6 B6 C6 mr6"
  have hsub:(rest.Sublist rows)∧(0≤r0.len∧r0.len<90000)∧r0.ps.length≤100:=by
   by_cases hp:Ie W ((y.b.length:Int)+y.p.length) (rows.map A7.len)=0
   ·obtain⟨e1,e2,e3⟩:=C6.new hp
    have e4:r0.len=0:=by unfold A7.len Au;rw[e2,e3];rfl
    exact⟨e1 ▸ List.Sublist.refl _,by rw[e4];decide,by rw[e3];exact Nat.zero_le _⟩
   ·obtain⟨e1,e2⟩:=C6.old hp
    have:=hbnd r0 (List.mem_of_getElem? e1)
    exact⟨e2 ▸ List.eraseIdx_sublist ..,⟨this.1,this.2.1⟩,this.2.2⟩
  obtain⟨hs1,hr0b,hr0p⟩:=hsub
  have hb6:∀ r∈rest,0≤r.len∧r.len<100000:=λ r hr=>⟨(hbnd r (hs1.subset hr)).1,by have:=(hbnd r (hs1.subset hr)).2.1;lia⟩
  have hn6:rest.length≤100:=Nat.le_trans hs1.length_le hcnt
  have c3:=@best3 w A s z6 L lr ll m6 rows rest r0 lla _ lv W tW y _ R D6 M6 B6 C6 hn6 hr0p mr6 (hsrt.sublist (hs1.map _)) hb6 hr0b hyz.2.2.1 hyz.2.2.2
  refine @c3 _ ?_
  walk_at " m7 z7 a D7 M7 B7 mr7"
  generalize hr1:({r0 with ps:=r0.ps++[⟨a,y.b,y.tb,y.p,y.tp⟩]}:A7)=r1 at B7
  have hr1x:r1.x=r0.x:=by rw[← hr1]
  have hqs:T (ys.take (i+1))=T (ys.take i)++[(y.b,y.p)]:=by
   rw[List.take_add_one,hy];simp[T]
  have P7:BPl W hd (T (ys.take (i+1))) (Ek r1 rest) (lv++[(Ek r1 rest).map A7.len]):=by
   rw[hqs]
   exact P.turn X.h0 hyz.2.2.1 hyz.2.2.2 C6.new C6.old hr1.symm
  have hTl':(T (ys.take (i+1))).length=i+1:=by simp[T];lia
  have hbnd7:∀ r∈Ek r1 rest,0≤r.len∧r.len<100000:=λ r hr=>by
   have:=P7.bnd r hr;rw[hTl'] at this;have:=X.h1;lia
  have hcnt7:(Ek r1 rest).length≤100:=by have:=P7.cnt;rw[hTl'] at this;lia
  have c4:=@best4 w A s z7 L lr ll m7 (Ek r1 rest) r1.x lla _ lv W tW y R D7 M7 B7 hcnt7 hlv (hr1x ▸ mr7) hbnd7
  refine @c4 _ ?_
  walk_at " z8 acc ks k8 D8 B8 ha8 hks htk"
  have hpos:(Ek r1 rest)[Hf r1.len (rest.map A7.len)]?=some r1:=by
   unfold Ek
   have hle:Hf r1.len (rest.map A7.len)≤rest.length:=Ht _ _ _
   rw[List.getElem?_append_right (by rw[List.length_take];lia),List.length_take,Nat.min_eq_left hle,Nat.sub_self]
   rfl
  have hlow:∀ j<Hf r1.len (rest.map A7.len),∀ r,(Ek r1 rest)[j]?=some r→r.len≠r1.len:=by
   walk_at " j hj r hr"
   have hle:Hf r1.len (rest.map A7.len)≤rest.length:=Ht _ _ _
   unfold Ek at hr
   rw[List.getElem?_append_left (by rw[List.length_take];lia),List.getElem?_take,if_pos hj] at hr
   have e:(rest.map A7.len)[j]?=some r.len:=by rw[List.getElem?_map,hr];rfl
   have:=of_decide_eq_true (Ja _ j _ hj e)
   lia
  have c5:=@best5 w A s z8 L lr ll acc m7 (Ek r1 rest) r1 lla _ _ W tW y ks k8 _ R D8 M7 B8 hcnt7 (hr1x ▸ mr7) ha8 hks htk (hbnd7 r1 (List.mem_of_getElem? hpos)) hpos hlow
  refine @c5 _ ?_
  walk_at " z9 D9 B9"
  refine⟨_,_,_,D9,⟨M7.rows,M7.lens,M7.width,_,_,_,B9.noPro,P7⟩,?_⟩
  walk_at " b hb o e"
  rcases List.mem_cons.mp hb with rfl|hb
  ·rw[hoI] at e;cases e
   exact (B9.pro _ (.head _)).1
  ·rw[List.mem_singleton.mp hb] at e ⊢
   rw[hltz] at e;cases e
   exact (B9.pro _ (.tail _ (.head _))).1
 ·rintro m' z' Dz ⟨e1,e2,e3,rows,lla,lv,B,P⟩
  walk_at "c m' z' Dz e1 e2 e3 rows lla lv"
  refine wpAny_execs_nil ?_
  rw[List.take_of_length_le (by simp)] at P
  walk_at "s3"
  refine Ai Dz e1 ?_
  walk_at "s3"
  refine Ai Dz e2 ?_
  walk_at "s3"
  rename_i zf tu Df htu
  exact⟨⟨L,tu,lr,ll,rows,lla,lv,rfl,Df.at 0 rfl,B.now Df,P⟩,Df.st⟩
theorem s_best:∀ (w:World) {A:Around} {s:Shared} {lt:Addr} {ys:List A0} {n:Nat} {hd W:Int} {th tW:Tok} (G:A5 w s) (R:A3 A 14) (X:BSrc w s lt ys n hd) (hth:th≠0),
  wpAny (MD w) A (call (.ref 301) [.ref lt,.int hd th,.int W tW]) (λ r s'=>(∃ L tu lr ll rows lla lv,r=.ref tu∧s'.heap.get? tu=some (Je (.ref lr) (.ref ll))∧E5 w.params s.heap L [] s'.heap lr ll rows lla lv∧BPl W hd (T ys) rows lv)∧A4 [] s s') no s:=by
 walk_at " w A s lt ys n hd W th tW G R X hth"
 refine Bw (binds:=[("words", .ref lt),("head", .int hd th),("width", .int W tW)]) [] (Pw w) G R (by kernel_rfl) (by kernel_rfl) ?_
 walk_at " L s₁ D"
 have R':=R.deeper (fenv Ao 301 L)
 have R12:A3 (A.deeper (fenv Ao 301 L)) 12:=R'.mono (by decide)
 have rest:=λ (lr:Addr) (k:Nat) (m:SV) (rows:List A7) (z:Shared)=>@best_rest w A s z L lt lr ys n k hd W tW m rows X R12
 refine wpAny_execs_cons ?_
 walk_at "s3"
 refine P.truthy_int ?_
 by_cases h0:hd=0
 ·refine Be (by simp[h0]) ?_
  refine Gv ?_
  refine spliced_none ?_
  refine C8 D ?_ (Nat.zero_le _)
  walk_at " z1 lr D1 lr3 lr0 lrz"
  refine An D1 ?_ (by kernel_rfl) (by kernel_rfl)
  walk_at " z2 D2"
  exact rest lr 0 _ [] z2 D2.rebase rfl rfl rfl (D2.at 0 rfl) lr3 lr0 (λ _ h=>(nomatch h)) .nil (λ _ h=>(nomatch h)) (λ _ h=>(nomatch h)) (.inl ⟨h0,rfl⟩)
 ·refine Bk (by simp[h0]) ?_
  refine Gv ?_
  refine spliced_more ?_
  refine Am ?_
  walk_at "g 214"
  refine Co (spliced_more ?_)
  walk_at "s3"
  refine⟨Cr D.k (by kernel_rfl),wpAny_mono (M1 w D.good (R'.mono (by decide)) (.inr rfl)) ?_ λ _ _ e=>e.elim⟩
  walk_at " r z2 q"
  obtain⟨x,d,k,t,rfl,hd1,hx1,st2,gx,gd⟩:=q
  walk_at "c x d k t"
  have D2:=(D.step0 st2).rebase
  refine spliced_none ?_
  refine C8 D2 ?_ (Nat.le_of_ble_eq_true rfl)
  walk_at " z3 lr D3 lr3 lr0 lrz"
  refine An D3 ?_ (by kernel_rfl) (by kernel_rfl)
  walk_at " z4 D4"
  have hz1:@LE.le Nat _ 317 s₁.heap.objs.size:=D.good.vol.c
  have q0:A2 w.params z2.heap x d hd []:=⟨⟨k,gx⟩,⟨t,th,gd,hth⟩,λ _ h=>(nomatch h),Nat.le_trans hz1 hx1,Nat.le_trans hz1 hd1,Nat.zero_le _⟩
  have fresh:∀ {a:Addr},@LE.le Nat _ s₁.heap.objs.size a→s.heap.get? a=none:=λ ha=>Bc (Nat.le_trans D.st.size ha)
  have hdL:d≠L:=Nat.ne_of_gt (Nat.lt_of_lt_of_le D.ns.lt hd1)
  refine rest lr 0 _ [⟨x,d,hd,[]⟩] z4 D4.rebase rfl rfl rfl (D4.at 0 rfl) lr3 lr0 ?_ (List.pairwise_singleton ..) ?_ ?_ (.inr ⟨h0,x,d,rfl⟩)
  ·walk_at " r hr"
   rw[List.mem_singleton.mp hr];exact D4.acc q0 hdL
  ·walk_at " r hr"
   rw[List.mem_singleton.mp hr];exact⟨fresh hx1,fresh hd1⟩
  ·walk_at " r hr"
   rw[List.mem_singleton.mp hr];exact hdL
noncomputable def Cm {α:Type} (lt:Nat→Nat→Bool):KasT α→α
 | .ret a=>a
 | .ask i j k=>Cm lt (k (lt i j))
theorem Hs {α β:Type} (lt:Nat→Nat→Bool) (f:α→KasT β) (t:KasT α):Cm lt (t.bind f)=Cm lt (f (Cm lt t)):=by
 induction t with
 | ret _=>rfl
 | ask i j k ih=>exact ih (lt i j)
structure Gh (lt:Nat→Nat→Bool):Prop where
 asym:∀ a b,lt a b=true→lt b a=false
 neg:∀ a b c,lt a b=false→lt b c=false→lt a c=false
theorem Gh.irr {lt:Nat→Nat→Bool} (h:Gh lt) (a:Nat):lt a a=false:=by
 cases q:lt a a with
 | false=>rfl
 | true=>exact (h.asym a a q).symm.trans q ▸ rfl
theorem Gh.t1 {lt:Nat→Nat→Bool} (h:Gh lt) {a b c:Nat} (h1:lt a b=true) (h2:lt c b=false):lt a c=true:=by
 cases q:lt a c with
 | true=>rfl
 | false=>rw[h.neg a c b q h2] at h1;cases h1
theorem Gh.t2 {lt:Nat→Nat→Bool} (h:Gh lt) {a b c:Nat} (h1:lt b a=false) (h2:lt b c=true):lt a c=true:=by
 cases q:lt a c with
 | true=>rfl
 | false=>rw[h.neg b a c h1 q] at h2;cases h2
theorem Gh.trans {lt:Nat→Nat→Bool} (h:Gh lt) {a b c:Nat} (h1:lt a b=true) (h2:lt b c=true):lt a c=true:=h.t1 h1 (h.asym _ _ h2)
noncomputable def SR (lt:Nat→Nat→Bool) (a b:Nat):Prop:=lt a b=true∨(lt b a=false∧a<b)
theorem SR.not {lt:Nat→Nat→Bool} (h:Gh lt) {a b:Nat} (r:SR lt a b):lt b a=false:=r.elim (h.asym a b) (·.1)
noncomputable def PA (p:Array Nat) (i:Nat):Nat:=p.getD i 0
theorem Ia {p q:Array Nat} {i j:Nat} (h:p[i]?=q[j]?):PA p i=PA q j:=by
 unfold PA
 simp only[Array.getD_eq_getD_getElem?,h]
theorem Hp {p:Array Nat} {i j:Nat} (hj:j≤p.size) (k:Nat):PA (kas_rev p i j) k=if i≤k∧k<j then PA p (i+j-1-k) else PA p k:=by
 have e:=getElem?_mirror_all (xs:=p) (i:=i) hj k
 unfold kas_rev
 split
 ·rename_i h;rw[if_pos h] at e;exact Ia e
 ·rename_i h;rw[if_neg h] at e;exact Ia e
theorem PA_bubble {p:Array Nat} {src d:Nat} (hs:src<p.size) (hd:d≤src) (k:Nat):PA (bubble p src d) k=if k=src-d then PA p src else if src-d<k∧k≤src then PA p (k-1) else PA p k:=by
 have e:=getElem?_bubble hs d hd k
 by_cases h:k=src-d
 ·rw[if_pos h] at e ⊢;exact Ia e
 ·rw[if_neg h] at e ⊢
  by_cases h:src-d<k∧k≤src
  ·rw[if_pos h] at e ⊢;exact Ia e
  ·rw[if_neg h] at e ⊢;exact Ia e
structure Tl (p:Array Nat) (n N:Nat):Prop where
 size:p.size=N
 perm:p.toList.Perm (List.range N)
 tail:∀ i,n≤i→i<N→PA p i=i
 bel:∀ i,i<n→PA p i<n
 le:n≤N
theorem Tl.rev {p:Array Nat} {n N i:Nat} (h:Tl p n N):Tl (kas_rev p i n) n N:=by
 have hj:n≤p.size:=by rw[h.size];exact h.le
 refine⟨(kas_rev_size i n).trans h.size,?_,λ k hk hk'=>?_,λ k hk=>?_,h.le⟩
 ·exact (Array.perm_iff_toList_perm.mp (mirror_perm _ _ _ _)).trans h.perm
 ·rw[Hp hj,if_neg (by simp_all)];exact h.tail k hk hk'
 ·rw[Hp hj]
  split
  ·exact h.bel _ (by lia)
  ·exact h.bel _ hk
theorem Tl.succ {p:Array Nat} {n N:Nat} (h:Tl p n N) (hn:n<N):Tl p (n+1) N:=by
 refine⟨h.size,h.perm,λ i hi=>h.tail i (by exact Nat.le_of_lt (by assumption)),λ i hi=>?_,hn⟩
 by_cases q:i<n
 ·exact Nat.lt_succ_of_lt (h.bel i q)
 ·have:i=n:=by lia
  subst this
  rw[h.tail i (Nat.le_refl _) hn];exact Nat.lt_succ_self _
noncomputable def Asc (lt:Nat→Nat→Bool) (p:Array Nat) (n:Nat):Prop:=∀ i j,i<j→j<n→SR lt (PA p i) (PA p j)
theorem asc_ext {lt:Nat→Nat→Bool} (h:Gh lt) {p:Array Nat} {N:Nat}:∀ (d m:Nat),1≤m→m+d≤N→Tl p m N→Asc lt p m→(∀ i,m≤i→i<m+d→lt (PA p i) (PA p (i-1))=false)→Tl p (m+d) N∧Asc lt p (m+d):=by
 intro d
 induction d with
 | zero=>intro _ _ _ t a _;exact⟨t,a⟩
 | succ d ih =>
  intro m h1 hN t a hl
  have e:m+(d+1)=m+1+d:=by simp +arith
  rw[e]
  refine ih (m+1) (by simp_all) (by simp_all) (t.succ (by lia)) (λ i j hij hj=>?_) λ i hi hi'=>hl i (by exact Nat.le_of_lt (by assumption)) (by simp_all)
  by_cases q:j<m
  ·exact a i j hij q
  ·have:j=m:=by lia
   subst this
   have hlj:=hl j (Nat.le_refl _) (by simp_all +arith)
   have hb:=t.bel i hij
   have htl:=t.tail j (Nat.le_refl _) (by lia)
   refine .inr ⟨?_,by rw[htl];exact hb⟩
   by_cases q2:i=j-1
   ·rw[q2];exact hlj
   ·exact h.neg _ _ _ hlj ((a i (j-1) (by lia) (by lia)).not h)
theorem asc_run {lt:Nat→Nat→Bool} (p:Array Nat):∀ (f n:Nat),n≤Cm lt (kas_asc p f n)∧Cm lt (kas_asc p f n)≤n+f∧(∀ i,n≤i→i<Cm lt (kas_asc p f n)→lt (PA p i) (PA p (i-1))=false)∧(Cm lt (kas_asc p f n)<n+f→lt (PA p (Cm lt (kas_asc p f n))) (PA p (Cm lt (kas_asc p f n)-1))=true):=by
 intro f
 induction f with
 | zero=>intro n;exact⟨Nat.le_refl _,Nat.le_refl _,λ i h1 h2=>absurd h2 (Nat.not_lt.mpr h1),λ h=>absurd h (Nat.lt_irrefl _)⟩
 | succ f ih =>
  intro n
  have e:Cm lt (kas_asc p (f+1) n)=if lt (PA p n) (PA p (n-1))=true then n else Cm lt (kas_asc p f (n+1)):=by
   show Cm lt (if lt (PA p n) (PA p (n-1))=true then .ret n else kas_asc p f (n+1))=_
   split<;>rfl
  rw[e]
  by_cases c:lt (PA p n) (PA p (n-1))=true
  ·rw[if_pos c]
   exact⟨Nat.le_refl _,by simp_all,λ i h1 h2=>absurd h2 (Nat.not_lt.mpr h1),λ _=>c⟩
  ·rw[if_neg c]
   obtain⟨a1,a2,a3,a4⟩:=ih (n+1)
   refine⟨by exact Nat.le_of_lt (by assumption),by simp_all +arith,λ i h1 h2=>?_,λ h=>a4 (by simp_all +arith)⟩
   by_cases q:i=n
   ·subst q;simpa using c
   ·exact a3 i (by lia) h2
noncomputable def Dsc (lt:Nat→Nat→Bool) (p:Array Nat) (n:Nat):Prop:=∀ i j,i<j→j<n→SR lt (PA p j) (PA p i)
structure DI (lt:Nat→Nat→Bool) (p:Array Nat) (n q N:Nat):Prop where
 tl:Tl p n N
 q1:q+1≤n
 dsc:Dsc lt p (n-q)
 run:∀ i j,n-q-1≤i→i<j→j<n→SR lt (PA p i) (PA p j)
 eqv:∀ i j,n-q-1≤i→n-q-1≤j→i<n→j<n→lt (PA p i) (PA p j)=false
 crs:∀ i j,i<n-q-1→n-q-1≤j→j<n→lt (PA p j) (PA p i)=true
theorem DI.turned:∀ {lt:Nat→Nat→Bool} {p:Array Nat} {n q N:Nat} (d:DI lt p n q N),
  Tl (kas_rev p (n-(q+1)) n) n N∧Dsc lt (kas_rev p (n-(q+1)) n) n∧(∀ i,i<n→∃ j,j<n∧PA (kas_rev p (n-(q+1)) n) i=PA p j):=by
 walk_at " lt p n q N d"
 have hj:n≤p.size:=by rw[d.tl.size];exact d.tl.le
 have hq:=d.q1
 refine⟨d.tl.rev,?_,?_⟩
 ·walk_at " i j hij hjn"
  rw[Hp hj,Hp hj]
  by_cases h1:n-(q+1)≤i
  ·rw[if_pos ⟨by lia,hjn⟩,if_pos ⟨h1,by lia⟩]
   exact d.run _ _ (by lia) (by lia) (by lia)
  ·rw[if_neg (by lia:¬ (n-(q+1)≤i∧i<n))]
   by_cases h2:n-(q+1)≤j
   ·rw[if_pos ⟨h2,hjn⟩]
    exact .inl (d.crs i _ (by lia) (by lia) (by lia))
   ·rw[if_neg (by lia)]
    exact d.dsc i j hij (by grind)
 ·walk_at " i hi"
  rw[Hp hj]
  by_cases h1:n-(q+1)≤i∧i<n
  ·rw[if_pos h1];exact⟨_,by lia,rfl⟩
  ·rw[if_neg h1];exact⟨i,hi,rfl⟩
theorem DI.less {lt:Nat→Nat→Bool} (h:Gh lt) {p:Array Nat} {n q N:Nat} (d:DI lt p n q N) {a:Nat} (ha:lt a (PA p (n-1))=true):∀ i,i<n→lt a (PA p i)=true:=by
 intro i hi
 have hq:=d.q1
 by_cases h1:n-q-1≤i
 ·exact h.t1 ha (d.eqv i (n-1) h1 (by lia) hi (by lia))
 ·exact h.trans ha (d.crs i (n-1) (by lia) (by grind) (by lia))
theorem desc_run:∀ {lt:Nat→Nat→Bool} (h:Gh lt) {N:Nat},
  ∀ (f:Nat) (p:Array Nat) (n q:Nat),DI lt p n q N→n+f≤N →
  DI lt (Cm lt (kas_desc f p n q)).1 (Cm lt (kas_desc f p n q)).2.1 (Cm lt (kas_desc f p n q)).2.2 N∧(Cm lt (kas_desc f p n q)).2.1≤n+f:=by
 walk_at " lt h N"
 walk_at " f"
 induction f with
 | zero=>intro p n q d _;exact⟨d,Nat.le_refl _⟩
 | succ f ih =>
  intro p n q d hN
  walk_at "c f ih p n q"
  have hq:=d.q1
  have hn:PA p n=n:=d.tl.tail n (Nat.le_refl _) (by lia)
  have e:Cm lt (kas_desc (f+1) p n q)=if lt (PA p n) (PA p (n-1))=true then (if q > 0 then Cm lt (kas_desc f (kas_rev p (n-(q+1)) n) (n+1) 0) else Cm lt (kas_desc f p (n+1) 0))
    else if lt (PA p (n-1)) (PA p n)=true then (p,n,q) else Cm lt (kas_desc f p (n+1) (q+1)):=by
   show Cm lt (if lt (PA p n) (PA p (n-1))=true then (if q > 0 then kas_desc f (kas_rev p (n-(q+1)) n) (n+1) 0 else kas_desc f p (n+1) 0) else .ask (PA p (n-1)) (PA p n) λ d=>if d=true then .ret (p,n,q) else kas_desc f p (n+1) (q+1))=_
   by_cases c:lt (PA p n) (PA p (n-1))=true
   ·rw[if_pos c,if_pos c];split<;>rfl
   ·rw[if_neg c,if_neg c]
    show Cm lt (if lt (PA p (n-1)) (PA p n)=true then .ret (p,n,q) else kas_desc f p (n+1) (q+1))=_
    split<;>rfl
  rw[e]
  by_cases c:lt (PA p n) (PA p (n-1))=true
  ·rw[if_pos c]
   have hless:=d.less h c
   rw[hn] at hless
   by_cases hq0:q > 0
   ·rw[if_pos hq0]
    obtain⟨t1,t2,t3⟩:=d.turned
    have hn':PA (kas_rev p (n-(q+1)) n) n=n:=t1.tail n (Nat.le_refl _) (by lia)
    have d':DI lt (kas_rev p (n-(q+1)) n) (n+1) 0 N:=by
     refine⟨t1.succ (by lia),by simp_all,?_,λ i j h1 h2 h3=>by lia,?_,?_⟩
     ·walk_at " i j hij hj"
      by_cases hjn:j<n
      ·exact t2 i j hij hjn
      ·have:j=n:=by lia
       subst this
       rw[hn']
       obtain⟨k,hk,e⟩:=t3 i hij
       rw[e];exact .inl (hless k hk)
     ·walk_at " i j h1 h2 h3 h4"
      have e1:i=n:=by lia
      have e2:j=n:=by lia
      rw[e1,e2];exact h.irr _
     ·walk_at " i j h1 h2 h3"
      have e2:j=n:=by lia
      rw[e2,hn']
      obtain⟨k,hk,e⟩:=t3 i (by assumption)
      rw[e];exact hless k hk
    have:=ih _ (n+1) 0 d' (by simp_all +arith)
    exact⟨this.1,by simp_all +arith⟩
   ·rw[if_neg hq0]
    have hq0':q=0:=by simp_all
    subst hq0'
    have d':DI lt p (n+1) 0 N:=by
     refine⟨d.tl.succ (by lia),by simp_all +arith,?_,λ i j h1 h2 h3=>by lia,?_,?_⟩
     ·walk_at " i j hij hj"
      by_cases hjn:j<n
      ·exact d.dsc i j hij (by assumption)
      ·have:j=n:=by lia
       subst this
       rw[hn];exact .inl (hless i hij)
     ·walk_at " i j h1 h2 h3 h4"
      have e1:i=n:=by lia
      have e2:j=n:=by lia
      rw[e1,e2];exact h.irr _
     ·walk_at " i j h1 h2 h3"
      have e2:j=n:=by lia
      rw[e2,hn];exact hless i (by assumption)
    have:=ih _ (n+1) 0 d' (by simp_all +arith)
    exact⟨this.1,by simp_all +arith⟩
  ·rw[if_neg c]
   have c':lt (PA p n) (PA p (n-1))=false:=by simpa using c
   by_cases c2:lt (PA p (n-1)) (PA p n)=true
   ·rw[if_pos c2];exact⟨d,by show n≤_;simp⟩
   ·rw[if_neg c2]
    have c2':lt (PA p (n-1)) (PA p n)=false:=by simpa using c2
    have e1:n+1-(q+1)=n-q:=by simp_all
    have d':DI lt p (n+1) (q+1) N:=by
     refine⟨d.tl.succ (by lia),by exact Nat.lt_succ_of_le (by assumption),by rw[e1];exact d.dsc,?_,?_,?_⟩
     ·walk_at " i j h1 h2 h3"
      by_cases hjn:j<n
      ·exact d.run i j (by simp_all) h2 hjn
      ·have:j=n:=by lia
       subst this
       refine .inr ⟨h.neg _ _ _ c' (d.eqv _ _ (by lia) (by simp_all) (by lia) (by assumption)),?_⟩
       rw[hn];exact d.tl.bel i h2
     ·walk_at " i j h1 h2 h3 h4"
      by_cases hin:i<n
      ·by_cases hjn:j<n
       ·exact d.eqv i j (by simp_all) (by simp_all) hin hjn
       ·have:j=n:=by lia
        subst this
        exact h.neg _ _ _ (d.eqv i (j-1) (by simp_all) (by grind) hin (by lia)) c2'
      ·have:i=n:=by lia
       subst this
       by_cases hjn:j<i
       ·exact h.neg _ _ _ c' (d.eqv _ j (by grind) (by simp_all) (by lia) hjn)
       ·have:j=i:=by lia
        subst this;exact h.irr _
     ·walk_at " i j h1 h2 h3"
      by_cases hjn:j<n
      ·exact d.crs i j (by simp_all +arith) (by simp_all) hjn
      ·have:j=n:=by lia
       subst this
       exact h.t2 c2' (d.crs i (j-1) (by simp_all +arith) (by lia) (by lia))
    have:=ih _ (n+1) (q+1) d' (by simp_all +arith)
    exact⟨this.1,by simp_all +arith⟩
theorem P0:∀ {lt:Nat→Nat→Bool} (h:Gh lt) {N n:Nat} {p:Array Nat} (t:Tl p n N) (h1:1≤n) (d:Dsc lt p n),
  Tl (Cm lt (kas_tail3 n N p)).2 (Cm lt (kas_tail3 n N p)).1 N∧Asc lt (Cm lt (kas_tail3 n N p)).2 (Cm lt (kas_tail3 n N p)).1∧1≤(Cm lt (kas_tail3 n N p)).1:=by
 walk_at " lt h N n p t h1 d"
 have hj:n≤p.size:=by rw[t.size];exact t.le
 have hle:=t.le
 have e:Cm lt (kas_tail3 n N p)=(Cm lt (kas_asc (kas_rev p 0 n) (N-n) n),kas_rev p 0 n):=by
  unfold kas_tail3
  rw[Hs];rfl
 rw[e]
 have a0:Asc lt (kas_rev p 0 n) n:=λ i j hij hjn=>by
  rw[Hp hj,Hp hj,if_pos ⟨Nat.zero_le _,by lia⟩,if_pos ⟨Nat.zero_le _,hjn⟩]
  exact d _ _ (by grind) (by grind)
 obtain⟨b1,b2,b3,_⟩:=asc_run (lt:=lt) (kas_rev p 0 n) (N-n) n
 have:=asc_ext h (Cm lt (kas_asc (kas_rev p 0 n) (N-n) n)-n) n h1 (by simp_all) t.rev a0 (λ i hi hi'=>b3 i hi (by simp_all +arith))
 rw[show n+(Cm lt (kas_asc (kas_rev p 0 n) (N-n) n)-n)=Cm lt (kas_asc (kas_rev p 0 n) (N-n) n) by simp_all] at this
 exact⟨this.1,this.2,by show 1≤_;lia⟩
theorem Km:∀ {lt:Nat→Nat→Bool} (h:Gh lt) {N n:Nat} {p:Array Nat} (d:DI lt p (n+1) 0 N),
  Tl (Cm lt (kas_descPart n N p)).2 (Cm lt (kas_descPart n N p)).1 N∧Asc lt (Cm lt (kas_descPart n N p)).2 (Cm lt (kas_descPart n N p)).1∧1≤(Cm lt (kas_descPart n N p)).1:=by
 walk_at " lt h N n p d"
 have hle:=d.tl.le
 have e:Cm lt (kas_descPart n N p)=Cm lt (if (Cm lt (kas_desc (N-(n+1)) p (n+1) 0)).2.2 > 0 then kas_tail3 (Cm lt (kas_desc (N-(n+1)) p (n+1) 0)).2.1 N (kas_rev (Cm lt (kas_desc (N-(n+1)) p (n+1) 0)).1 ((Cm lt (kas_desc (N-(n+1)) p (n+1) 0)).2.1-((Cm lt (kas_desc (N-(n+1)) p (n+1) 0)).2.2+1)) (Cm lt (kas_desc (N-(n+1)) p (n+1) 0)).2.1) else kas_tail3 (Cm lt (kas_desc (N-(n+1)) p (n+1) 0)).2.1 N (Cm lt (kas_desc (N-(n+1)) p (n+1) 0)).1):=by
  unfold kas_descPart
  rw[Hs]
 rw[e]
 obtain⟨d2,_⟩:=desc_run h (N-(n+1)) p (n+1) 0 d (by simp_all)
 generalize Cm lt (kas_desc (N-(n+1)) p (n+1) 0)=r at d2 ⊢
 obtain⟨p',m,q⟩:=r
 walk_at "c p' m q"
 dsimp only at d2 ⊢
 have hq:=d2.q1
 by_cases hq0:q > 0
 ·rw[if_pos hq0]
  obtain⟨t1,t2,_⟩:=d2.turned
  exact P0 h t1 (by grind) t2
 ·rw[if_neg hq0]
  have:q=0:=by simp_all
  subst this
  exact P0 h d2.tl (by assumption) d2.dsc
theorem M0 {N i:Nat} (h:i<N):PA (List.toArray (List.range N)) i=i:=by
 unfold PA
 simp[Array.getD,h]
theorem Tl.range {N n:Nat} (h:n≤N):Tl (List.toArray (List.range N)) n N :=
 ⟨by simp,by simp,λ i _ hi=>M0 hi,λ i hi=>by rw[M0 (by lia)];exact hi,h⟩
theorem count_run:∀ {lt:Nat→Nat→Bool} (h:Gh lt) {N:Nat} (h2:2≤N),
  Tl (Cm lt (kas_count N (List.toArray (List.range N)))).2 (Cm lt (kas_count N (List.toArray (List.range N)))).1 N∧Asc lt (Cm lt (kas_count N (List.toArray (List.range N)))).2 (Cm lt (kas_count N (List.toArray (List.range N)))).1∧1≤(Cm lt (kas_count N (List.toArray (List.range N)))).1:=by
 walk_at " lt h N h2"
 generalize hp:List.toArray (List.range N)=p
 have t:∀ n,n≤N→Tl p n N:=λ n hn=>hp ▸ Tl.range hn
 have hPA:∀ i,i<N→PA p i=i:=λ i hi=>hp ▸ M0 hi
 obtain⟨b1,b2,b3,b4⟩:=asc_run (lt:=lt) p (N-1) 1
 generalize hn:Cm lt (kas_asc p (N-1) 1)=n at b1 b2 b3 b4
 have e:Cm lt (kas_count N p)=if (n == N)=true then (n,p) else if n > 1 then (if lt (PA p 0) (PA p (n-1))=true then (n,p) else Cm lt (kas_descPart n N (kas_rev p 0 n))) else Cm lt (kas_descPart n N p):=by
  unfold kas_count
  rw[Hs,hn]
  split
  ·rfl
  ·split
   ·show Cm lt (if lt (PA p 0) (PA p (n-1))=true then .ret (n,p) else kas_descPart n N (kas_rev p 0 n))=_
    split<;>rfl
   ·rfl
 rw[e]
 have hasc:Asc lt p n:=by
  have:=(asc_ext h (n-1) 1 (Nat.le_refl _) (by grind) (t 1 (by exact Nat.le_of_lt (by assumption))) (λ i j hij hj=>by simp_all) λ i hi hi'=>b3 i hi (by simp_all)).2
  rwa[show 1+(n-1)=n by simp_all] at this
 by_cases hnN:n=N
 ·rw[if_pos (by simpa using hnN)]
  exact⟨t n (by simp_all),hasc,b1⟩
 ·rw[if_neg (by simpa using hnN)]
  have hlt:lt (PA p n) (PA p (n-1))=true:=b4 (by lia)
  rw[hPA n (by lia),hPA (n-1) (by grind)] at hlt
  by_cases hn1:n > 1
  ·rw[if_pos hn1]
   by_cases c:lt (PA p 0) (PA p (n-1))=true
   ·rw[if_pos c];exact⟨t n (by grind),hasc,b1⟩
   ·rw[if_neg c]
    refine Km h ?_
    have hsz:n≤p.size:=by rw[(t n (by grind)).size];grind
    have c':lt 0 (n-1)=false:=by rw[hPA 0 (by exact Nat.le_of_lt (by assumption)),hPA (n-1) (by grind)] at c;simpa using c
    have hge:∀ i j,i<n→j<n→lt i j=false:=by
     walk_at " i j hi hj"
     -- i is not below 0,0 is not below n-1,n-1 is not below j
     have z1:lt i 0=false:=by
      by_cases q:i=0
      ·rw[q];exact h.irr 0
      ·have:=(hasc 0 i (by exact Nat.pos_of_ne_zero (by assumption)) hi).not h
       rwa[hPA 0 (by exact Nat.le_of_lt (by assumption)),hPA i (by grind)] at this
     have z2:lt (n-1) j=false:=by
      by_cases q:j=n-1
      ·rw[q];exact h.irr _
      ·have:=(hasc j (n-1) (by lia) (by grind)).not h
       rwa[hPA j (by grind),hPA (n-1) (by grind)] at this
     exact h.neg _ _ _ (h.neg _ _ _ z1 c') z2
    have hrev:∀ i,i<n→PA (kas_rev p 0 n) i=n-1-i:=λ i hi=>by
     rw[Hp hsz,if_pos ⟨Nat.zero_le _,hi⟩,hPA _ (by grind)];simp_all
    have htr:=(t n (by grind)).rev (i:=0)
    have hn':PA (kas_rev p 0 n) n=n:=htr.tail n (Nat.le_refl _) (by grind)
    have hlow:∀ i,i<n→lt n i=true:=λ i hi=>h.t1 hlt (hge i (n-1) hi (by grind))
    refine⟨htr.succ (by grind),by simp_all,?_,λ i j h1 h2 h3=>by lia,?_,?_⟩
    ·walk_at " i j hij hj"
     by_cases hjn:j<n
     ·rw[hrev i (by lia),hrev j hjn]
      exact .inr ⟨hge _ _ (by grind) (by grind),by grind⟩
     ·have:j=n:=by lia
      subst this
      rw[hn',hrev i hij];exact .inl (hlow _ (by grind))
    ·walk_at " i j h1 h2 h3 h4"
     have e1:i=n:=by lia
     have e2:j=n:=by grind
     rw[e1,e2];exact h.irr _
    ·walk_at " i j h1 h2 h3"
     have e2:j=n:=by grind
     rw[e2,hn',hrev i (by assumption)];exact hlow _ (by grind)
  ·rw[if_neg hn1]
   have:n=1:=by lia
   subst this
   refine Km h ⟨t 2 (by assumption),by decide,?_,λ i j h1 h2 h3=>by lia,?_,?_⟩
   ·walk_at " i j hij hj"
    have e1:i=0:=by grind
    have e2:j=1:=by grind
    rw[e1,e2,hPA 0 (by exact Nat.le_of_lt (by assumption)),hPA 1 (by assumption)];exact .inl hlt
   ·walk_at " i j h1 h2 h3 h4"
    have e1:i=1:=by lia
    have e2:j=1:=by lia
    rw[e1,e2];exact h.irr _
   ·walk_at " i j h1 h2 h3"
    have e1:i=0:=by simp_all
    have e2:j=1:=by grind
    rw[e1,e2,hPA 0 (by exact Nat.le_of_lt (by assumption)),hPA 1 (by assumption)];exact hlt
theorem place_run:∀ {lt:Nat→Nat→Bool} (h:Gh lt) {p:Array Nat} {k:Nat} (a:Asc lt p k),
  ∀ (f l r:Nat),l≤r→r≤k→r-l≤f→(∀ i,i<l→lt (PA p k) (PA p i)=false)→(∀ i,r≤i→i<k→lt (PA p k) (PA p i)=true) →
  Cm lt (kas_place p k f l r)≤k∧(∀ i,i<Cm lt (kas_place p k f l r)→lt (PA p k) (PA p i)=false)∧(∀ i,Cm lt (kas_place p k f l r)≤i→i<k→lt (PA p k) (PA p i)=true):=by
 walk_at " lt h p k a"
 walk_at " f"
 induction f with
 | zero =>
  walk_at " l r h1 h2 h3 h4 h5"
  have:l=r:=by grind
  subst this
  exact⟨h2,h4,h5⟩
 | succ f ih =>
  intro l r h1 h2 h3 h4 h5
  walk_at "c f ih l r"
  have e:Cm lt (kas_place p k (f+1) l r)=if l ≥ r then l else if lt (PA p k) (PA p ((l+r) / 2))=true then Cm lt (kas_place p k f l ((l+r) / 2)) else Cm lt (kas_place p k f ((l+r) / 2+1) r):=by
   show Cm lt (if l ≥ r then .ret l else .ask (PA p k) (PA p ((l+r) / 2)) λ c=>if c=true then kas_place p k f l ((l+r) / 2) else kas_place p k f ((l+r) / 2+1) r)=_
   split
   ·rfl
   ·show Cm lt (if lt (PA p k) (PA p ((l+r) / 2))=true then kas_place p k f l ((l+r) / 2) else kas_place p k f ((l+r) / 2+1) r)=_
    split<;>rfl
  rw[e]
  by_cases hlr:l ≥ r
  ·rw[if_pos hlr]
   have:l=r:=by lia
   subst this
   exact⟨h2,h4,h5⟩
  ·rw[if_neg hlr]
   have hm:l≤(l+r) / 2∧(l+r) / 2<r:=by lia
   generalize (l+r) / 2=md at hm ⊢
   by_cases c:lt (PA p k) (PA p md)=true
   ·rw[if_pos c]
    refine ih l md hm.1 (by lia) (by grind) h4 ?_
    walk_at " i hi hik"
    by_cases q:i=md
    ·rw[q];exact c
    ·exact h.t1 c ((a md i (by lia) hik).not h)
   ·rw[if_neg c]
    have c':lt (PA p k) (PA p md)=false:=by simpa using c
    refine ih (md+1) r (by lia) h2 (by grind) ?_ h5
    walk_at " i hi"
    by_cases q:i=md
    ·rw[q];exact c'
    ·exact h.neg _ _ _ c' ((a i md (by lia) (by lia)).not h)
theorem bin_run:∀ {lt:Nat→Nat→Bool} (h:Gh lt) {N:Nat},
  ∀ (f:Nat) (p:Array Nat) (k:Nat),k+f=N→Tl p k N→Asc lt p k→Tl (Cm lt (kas_bin f p k)) N N∧Asc lt (Cm lt (kas_bin f p k)) N:=by
 walk_at " lt h N"
 walk_at " f"
 induction f with
 | zero =>
  walk_at " p k e t a"
  have:k=N:=by assumption
  subst this
  exact⟨t,a⟩
 | succ f ih =>
  intro p k e t a
  walk_at "c f ih p k"
  have er:Cm lt (kas_bin (f+1) p k)=Cm lt (kas_bin f (bubble p k (k-Cm lt (kas_place p k k 0 k))) (k+1)):=by
   show Cm lt ((kas_place p k k 0 k).bind λ l=>kas_bin f (bubble p k (k-l)) (k+1))=_
   rw[Hs]
  rw[er]
  obtain⟨b1,b2,b3⟩:=place_run h a k 0 k (Nat.zero_le _) (Nat.le_refl _) (by simp_all) (λ i hi=>absurd hi (Nat.not_lt_zero _)) (λ i hi hk=>absurd hk (Nat.not_lt.mpr hi))
  generalize Cm lt (kas_place p k k 0 k)=l at b1 b2 b3 ⊢
  have hs:k<p.size:=by rw[t.size];lia
  have hk:PA p k=k:=t.tail k (Nat.le_refl _) (by grind)
  rw[hk] at b2 b3
  have hP:∀ i,PA (bubble p k (k-l)) i=if i=l then k else if l<i∧i≤k then PA p (i-1) else PA p i:=λ i=>by
   rw[PA_bubble hs (Nat.sub_le _ _),hk,show k-(k-l)=l by grind]
  refine ih _ (k+1) (by simp_all +arith) ⟨(bubble_size _ _ _).trans t.size,(Array.perm_iff_toList_perm.mp (bubble_perm _ _ _)).trans t.perm,?_,?_,by lia⟩ ?_
  ·walk_at " i hi hi'"
   rw[hP,if_neg (by lia),if_neg (by lia)];exact t.tail i (by exact Nat.le_of_lt (by assumption)) hi'
  ·walk_at " i hi"
   rw[hP]
   split
   ·simp_all
   ·split
    ·exact Nat.lt_succ_of_lt (t.bel _ (by grind))
    ·exact Nat.lt_succ_of_lt (t.bel _ (by lia))
  ·walk_at " i j hij hj"
   rw[hP,hP]
   by_cases h1:i=l
   ·rw[if_pos h1,if_neg (by grind),if_pos ⟨by simp_all,by exact Nat.le_of_lt_succ (by assumption)⟩]
    exact .inl (b3 _ (by grind) (by grind))
   ·rw[if_neg h1]
    by_cases h2:j=l
    ·rw[if_pos h2,if_neg (by lia)]
     exact .inr ⟨b2 i (by simp_all),t.bel i (by lia)⟩
    ·rw[if_neg h2]
     by_cases h3:l<i∧i≤k
     ·rw[if_pos h3,if_pos ⟨by lia,by exact Nat.le_of_lt_succ (by assumption)⟩];exact a _ _ (by grind) (by lia)
     ·rw[if_neg h3]
      by_cases h4:l<j∧j≤k
      ·rw[if_pos h4];exact a _ _ (by lia) (by grind)
      ·rw[if_neg h4];exact a _ _ hij (by grind)
theorem Hh:∀ {lt:Nat→Nat→Bool} (h:Gh lt) {N:Nat} (h2:2≤N),
  (Cm lt (kas_sort N)).toList.Perm (List.range N)∧(Cm lt (kas_sort N)).toList.Pairwise (SR lt)∧(Cm lt (kas_sort N)).size=N:=by
 walk_at " lt h N h2"
 have key:Tl (Cm lt (kas_sort N)) N N∧Asc lt (Cm lt (kas_sort N)) N:=by
  obtain⟨t,a,h1⟩:=count_run h h2
  have e:Cm lt (kas_sort N)=if (Cm lt (kas_count N (List.toArray (List.range N)))).1<N then Cm lt (kas_bin (N-max (Cm lt (kas_count N (List.toArray (List.range N)))).1 1) (Cm lt (kas_count N (List.toArray (List.range N)))).2 (max (Cm lt (kas_count N (List.toArray (List.range N)))).1 1)) else (Cm lt (kas_count N (List.toArray (List.range N)))).2:=by
   unfold kas_sort
   rw[Hs]
   split<;>rfl
  rw[e]
  generalize Cm lt (kas_count N (List.toArray (List.range N)))=r at t a h1 ⊢
  obtain⟨m,p⟩:=r
  walk_at "c m p"
  dsimp only at t a h1 ⊢
  have hle:=t.le
  have hm:max m 1=m:=by simp_all
  rw[hm]
  split
  ·exact bin_run h _ p m (by simp_all) t a
  ·have:m=N:=by lia
   subst this
   exact⟨t,a⟩
 obtain⟨t,a⟩:=key
 refine⟨t.perm,?_,t.size⟩
 generalize Cm lt (kas_sort N)=p at t a ⊢
 rw[List.pairwise_iff_getElem]
 walk_at " i j hi hj hij"
 have hi':i<p.size:=by simpa using hi
 have hj':j<p.size:=by simpa using hj
 have q:=a i j hij (by rw[← t.size];exact hj')
 have e1:PA p i=p.toList[i]:=by unfold PA;simp[Array.getD,hi']
 have e2:PA p j=p.toList[j]:=by unfold PA;simp[Array.getD,hj']
 rw[e1,e2] at q
 exact q
noncomputable def Gy:Heap:={objs:=#[]}
theorem I3 (a:Addr):Gy.get? a=none:=by unfold Heap.get? Gy;simp
noncomputable def Kj (h:Heap) (L:Addr):List (Addr×Obj):=(List.range h.objs.size).filterMap λ a=>if a=L then none else (h.get? a).map λ o=>(a,o)
theorem Bu:∀ {h:Heap} {L a:Addr} {o:Obj},
  (a,o)∈Kj h L↔a≠L∧h.get? a=some o:=by
 walk_at " h L a o"
 unfold Kj
 rw[List.mem_filterMap]
 constructor
 ·rintro ⟨b,_,hb⟩
  walk_at "c b"
  by_cases q:b=L
  ·rw[if_pos q] at hb;cases hb
  ·rw[if_neg q] at hb
   obtain⟨o',e,e2⟩:=Option.map_eq_some_iff.mp hb
   walk_at "c o'"
   cases e2
   exact⟨q,e⟩
 ·rintro ⟨h1,h2⟩
  exact⟨a,List.mem_range.mpr (Heap.lt_size h2),by rw[if_neg h1,h2];rfl⟩
theorem Cl.frNo {w:World} {S:List Addr} {s₀ s:Shared} {L:Addr} {ref:Heap} {m:SV} {news:AO} (D:Cl w S s₀ L ref m news s):Fr Gy L s.heap m∧News Gy L s.heap (Kj s.heap L) :=
 ⟨⟨D.ns,λ b o e=>(by rw[I3] at e;cases e),Nat.zero_le _⟩,λ p hp=>⟨(Bu.mp hp).2,(Bu.mp hp).1,I3 _⟩⟩
theorem Cl.back {w:World} {S:List Addr} {s₀ s:Shared} {L:Addr} {ref:Heap} {m m':SV} {news:AO} (D:Cl w S s₀ L ref m news s) {h':Heap} {t:Tok} (hn:h'.Ns L m') (hk:∀ b o,b≠L→s.heap.get? b=some o→h'.get? b=some o) (ht:s.toks≤t):Cl w S s₀ L h' m' [] {s with heap:=h',toks:=t}:=by
 have hz:@LE.le Nat _ 317 h'.objs.size:=Nat.le_of_lt (Nat.lt_of_le_of_lt D.hL hn.lt)
 have hLk:∀ k,k<317→k≠L:=λ k hk=>Nat.ne_of_lt (Nat.lt_of_lt_of_le hk D.hL)
 have low:∀ b ob,@LT.lt Nat _ b 317→s.heap.get? b=some ob→h'.get? b=some ob:=λ b ob hb e=>hk b ob (hLk b hb) e
 have V:Fh h':=by
  refine⟨?_,?_,hz⟩
  ·obtain⟨ps,e⟩:=D.good.vol.a
   exact⟨ps,e.at2 (λ _ e1=>low _ _ (by decide) e1) (λ _ e2=>low _ _ (by decide) e2)⟩
  ·obtain⟨ps,e⟩:=D.good.vol.b
   exact⟨ps,e.at2 (λ _ e1=>low _ _ (by decide) e1) (λ _ e2=>low _ _ (by decide) e2)⟩
 exact⟨hn,λ _ _ _ _ _ e=>e,λ _ h=>(nomatch h),⟨λ b ob h1 h2 h3 e=>hk _ _ (λ q=>by rw[q,D.g0] at e;cases e) (D.st.keep b ob h1 h2 h3 e),Nat.le_of_lt (Nat.lt_of_le_of_lt D.g1 hn.lt),V,D.st.calm.trans (Cx.heap ht)⟩,D.g1,D.hL,
  ⟨D.good.st.low λ b ob hb _ _ e=>low b ob hb e,V,Nat.lt_of_lt_of_le D.good.tk ht⟩,.inr ⟨m',hn⟩⟩
noncomputable def ltS (x y:Str):Bool:=decide (x.cps.toList<y.cps.toList)
noncomputable def ltq (p q:Str×Str):Bool:=if p.1=q.1 then (if p.2=q.2 then false else ltS p.2 q.2) else ltS p.1 q.1
noncomputable def ltI (qs:LS) (i j:Nat):Bool:=ltq (qs.getD i ("", "")) (qs.getD j ("", ""))
theorem str_ext {x y:Str} (h:x.cps.toList=y.cps.toList):x=y:=by
 cases x;cases y;simp at h;simp[h]
theorem Qc {x y:Str} (h:ltS x y=true):ltS y x=false:=by
 unfold ltS at *
 have h':=of_decide_eq_true h
 simpa using List.le_of_lt h'
theorem Ob {x y:Str} (h1:ltS x y=false) (h2:ltS y x=false):x=y:=by
 unfold ltS at *
 have a:=of_decide_eq_false h1
 have b:=of_decide_eq_false h2
 exact str_ext (List.le_antisymm (List.not_lt.mp b) (List.not_lt.mp a))
theorem ltS_neg {x y z:Str} (h1:ltS x y=false) (h2:ltS y z=false):ltS x z=false:=by
 unfold ltS at *
 have a:=List.not_lt.mp (of_decide_eq_false h1)
 have b:=List.not_lt.mp (of_decide_eq_false h2)
 exact decide_eq_false (List.not_lt.mpr (List.le_trans b a))
theorem ltq_asym:∀ {p q:Str×Str} (h:ltq p q=true),
  ltq q p=false:=by
 walk_at " p q h"
 unfold ltq at *
 by_cases h1:p.1=q.1
 ·rw[if_pos h1] at h
  rw[if_pos h1.symm]
  by_cases h2:p.2=q.2
  ·rw[if_pos h2] at h;cases h
  ·rw[if_neg h2] at h
   rw[if_neg (Ne.symm h2)];exact Qc h
 ·rw[if_neg h1] at h
  rw[if_neg (Ne.symm h1)];exact Qc h
theorem ltq_tot {p q:Str×Str} (h1:ltq p q=false) (h2:ltq q p=false):p=q:=by
 unfold ltq at *
 by_cases e1:p.1=q.1
 ·rw[if_pos e1] at h1
  rw[if_pos e1.symm] at h2
  by_cases e2:p.2=q.2
  ·exact Prod.ext e1 e2
  ·rw[if_neg e2] at h1
   rw[if_neg (Ne.symm e2)] at h2
   exact Prod.ext e1 (Ob h1 h2)
 ·rw[if_neg e1] at h1
  rw[if_neg (Ne.symm e1)] at h2
  exact absurd (Ob h1 h2) e1
theorem ltq_neg:∀ {p q r:Str×Str} (h1:ltq p q=false) (h2:ltq q r=false),
  ltq p r=false:=by
 walk_at " p q r h1 h2"
 unfold ltq at *
 by_cases e1:p.1=q.1
 ·by_cases e2:q.1=r.1
  ·rw[if_pos e1] at h1
   rw[if_pos e2] at h2
   rw[if_pos (e1.trans e2)]
   by_cases f1:p.2=q.2
   ·rw[f1];exact h2
   ·rw[if_neg f1] at h1
    by_cases f2:q.2=r.2
    ·rw[← f2,if_neg f1];exact h1
    ·rw[if_neg f2] at h2
     split
     ·rfl
     ·exact ltS_neg h1 h2
  ·rw[if_neg e2] at h2
   rw[e1,if_neg e2];exact h2
 ·rw[if_neg e1] at h1
  by_cases e2:q.1=r.1
  ·rw[← e2,if_neg e1];exact h1
  ·rw[if_neg e2] at h2
   by_cases e3:p.1=r.1
   ·rw[if_pos e3]
    exact absurd (Ob h1 (by rw[e3];exact h2)) e1
   ·rw[if_neg e3];exact ltS_neg h1 h2
theorem Oa (qs:LS):Gh (ltI qs):=⟨λ _ _ h=>ltq_asym h,λ _ _ _ h1 h2=>ltq_neg h1 h2⟩
noncomputable def Bd {α:Type} (N:Nat) (P:α→Prop):KasT α→Prop
 | .ret a=>P a
 | .ask i j k=>i<N∧j<N∧∀ b,Bd N P (k b)
theorem Bd.bind {α β:Type} {N:Nat} {P:α→Prop} {Q:β→Prop} {f:α→KasT β} {t:KasT α} (h:Bd N P t) (hf:∀ a,P a→Bd N Q (f a)):Bd N Q (t.bind f):=by
 induction t with
 | ret a=>exact hf a h
 | ask _ _ _ ih=>exact⟨h.1,h.2.1,λ b=>ih b (h.2.2 b)⟩
theorem Md {α:Type} (lt:Nat→Nat→Bool) {N:Nat} {P:α→Prop} {cmp:Nat→Nat→(Bool→Shared→Prop)→Shared→Prop} {s:Shared} (h:∀ i j C,i<N→j<N→C (lt i j) s→cmp i j C s) {Q:α→Shared→Prop}:∀ {t:KasT α},Bd N P t→Q (Cm lt t) s→t.kasWp cmp Q s
 | .ret _,_,hq=>hq
 | .ask i j k,hb,hq=>h i j _ hb.1 hb.2.1 (Md lt h (hb.2.2 (lt i j)) hq)
structure Gs (N:Nat) (p:Array Nat):Prop where
 pos:0<N
 all:∀ x∈p.toList,x<N
theorem Gs.pa {N:Nat} {p:Array Nat} (h:Gs N p) (i:Nat):p.getD i 0<N:=by
 by_cases hi:i<p.size
 ·have e:p.getD i 0=p.toList[i]'(by simpa using hi):=by simp[Array.getD,hi]
  rw[e];exact h.all _ (List.getElem_mem _)
 ·have e:p.getD i 0=0:=by simp[Array.getD,hi]
  rw[e];exact h.pos
theorem Gs.rev {N:Nat} {p:Array Nat} (h:Gs N p) (i j:Nat):Gs N (kas_rev p i j) :=
 ⟨h.pos,λ x hx=>h.all x ((Array.perm_iff_toList_perm.mp (mirror_perm _ _ _ _)).mem_iff.mp hx)⟩
theorem Gs.bub {N:Nat} {p:Array Nat} (h:Gs N p) (i j:Nat):Gs N (bubble p i j) :=
 ⟨h.pos,λ x hx=>h.all x ((Array.perm_iff_toList_perm.mp (bubble_perm _ _ _)).mem_iff.mp hx)⟩
theorem Pm {N:Nat} {p:Array Nat} (h:Gs N p):∀ f n,Bd N (λ _=>True) (kas_asc p f n)
 | 0,_=>trivial
 | f+1,n=>⟨h.pa n,h.pa (n-1),λ b=>by
  cases b
  ·exact Pm h f (n+1)
  ·exact trivial⟩
theorem Lc {N:Nat}:∀ f (p:Array Nat) n q,Gs N p→Bd N (λ r:Array Nat×Nat×Nat=>Gs N r.1) (kas_desc f p n q)
 | 0,_,_,_,h=>h
 | f+1,p,n,q,h=>⟨h.pa n,h.pa (n-1),λ b=>by
  cases b
  ·refine⟨h.pa (n-1),h.pa n,λ b2=>?_⟩
   cases b2
   ·exact Lc f p (n+1) (q+1) h
   ·exact h
  ·show Bd N _ (if q > 0 then kas_desc f (kas_rev p (n-(q+1)) n) (n+1) 0 else kas_desc f p (n+1) 0)
   split
   ·exact Lc f _ _ _ (h.rev _ _)
   ·exact Lc f _ _ _ h⟩
theorem Pp {N:Nat} (n k:Nat) {p:Array Nat} (h:Gs N p):Bd N (λ r:Nat×Array Nat=>Gs N r.2) (kas_tail3 n k p) :=
 Bd.bind (Pm (h.rev 0 n) _ _) λ _ _=>h.rev 0 n
theorem Ln {N:Nat} (n k:Nat) {p:Array Nat} (h:Gs N p):Bd N (λ r:Nat×Array Nat=>Gs N r.2) (kas_descPart n k p) :=
 Bd.bind (Lc _ _ _ _ h) λ r hr=>by
  show Bd N _ (if r.2.2 > 0 then kas_tail3 r.2.1 k (kas_rev r.1 (r.2.1-(r.2.2+1)) r.2.1) else kas_tail3 r.2.1 k r.1)
  split
  ·exact Pp _ _ (hr.rev _ _)
  ·exact Pp _ _ hr
theorem bd_count {N:Nat} (k:Nat) {p:Array Nat} (h:Gs N p):Bd N (λ r:Nat×Array Nat=>Gs N r.2) (kas_count k p) :=
 Bd.bind (Pm h _ _) λ n _=>by
  show Bd N _ (if (n == k)=true then .ret (n,p) else if n > 1 then .ask (p.getD 0 0) (p.getD (n-1) 0) λ c=>if c=true then .ret (n,p) else kas_descPart n k (kas_rev p 0 n) else kas_descPart n k p)
  split
  ·exact h
  ·split
   ·refine⟨h.pa 0,h.pa _,λ b=>?_⟩
    cases b
    ·exact Ln _ _ (h.rev 0 n)
    ·exact h
   ·exact Ln _ _ h
theorem M2 {N:Nat} {p:Array Nat} (h:Gs N p) (k:Nat):∀ f l r,Bd N (λ _=>True) (kas_place p k f l r)
 | 0,_,_=>trivial
 | f+1,l,r=>by
  show Bd N _ (if l ≥ r then .ret l else .ask (p.getD k 0) (p.getD ((l+r) / 2) 0) λ c=>if c=true then kas_place p k f l ((l+r) / 2) else kas_place p k f ((l+r) / 2+1) r)
  split
  ·exact trivial
  ·refine⟨h.pa k,h.pa _,λ b=>?_⟩
   cases b
   ·exact M2 h k f _ _
   ·exact M2 h k f _ _
theorem bd_bin {N:Nat}:∀ f (p:Array Nat) k,Gs N p→Bd N (λ _=>True) (kas_bin f p k)
 | 0,_,_,_=>trivial
 | f+1,p,k,h=>Bd.bind (M2 h k k 0 k) λ l _=>bd_bin f _ (k+1) (h.bub _ _)
theorem bd_sort {N:Nat} (h:0<N):Bd N (λ _=>True) (kas_sort N) :=
 Bd.bind (bd_count N (p:=List.toArray (List.range N)) ⟨h,λ x hx=>by simpa using hx⟩) λ r hr=>by
  show Bd N _ (if r.1<N then kas_bin (N-max r.1 1) r.2 (max r.1 1) else .ret r.2)
  split
  ·exact bd_bin _ _ _ hr
  ·exact trivial
noncomputable def srt (lt:Nat→Nat→Bool) (N:Nat):List Nat:=(Cm lt (kas_sort N)).toList
section
variable {w:World} {S:List Addr} {s₀:Shared} {L:Addr} {ref:Heap} {m:SV} {news:AO} {s:Shared} {A:Around} {E:VP}
theorem ask_piece {y z:A0} {b:Bool} {C:Bool→Shared→Prop} (hy:Ar s.heap y) (hz:Ar s.heap z) (h:C (ltq (y.b,y.p) (z.b,z.p)) s):wpAny (MD w) A (keyLt' (tuples' true) (.ref y.a) (.ref z.a)) C E s:=by
 refine kat_lt hy.1 rfl hz.1 rfl ?_
 show KatLex PySem.Challenge.pw_wv0051_01 w A true false C [(.str y.b y.tb,.str z.b z.tb),(.str y.p y.tp,.str z.p z.tp)] 0 s
 refine kat_cons (eqBool_str ?_)
 unfold ltq at h
 dsimp only at h
 refine kat_go (λ he=>?_) (λ he=>?_)
 ·rw[if_pos (by simpa using he)] at h
  refine kat_yes (kat_cons (eqBool_str ?_))
  refine kat_go (λ he2=>?_) (λ he2=>?_)
  ·rw[if_pos (by simpa using he2)] at h
   exact kat_yes (kat_nil h)
  ·rw[if_neg (by simpa using he2)] at h
   refine kat_no (kat_one _ _ (PyProof.Rows.lt_str ?_))
   exact h
 ·rw[if_neg (by simpa using he)] at h
  refine kat_no ?_
  exact oneLt_str h
end
section
variable {w:World} {S:List Addr} {s₀:Shared} {L:Addr} {ref:Heap} {m:SV} {news:AO} {s:Shared} {A:Around} {E:VP} {Q:VP}
theorem Sl {h:Heap} {ys:List A0} (H:∀ y∈ys,Ar h y):KatTups h (ys.map λ y=>Value.ref y.a) (ys.map λ y=>Value.str y.b y.tb):=by
 induction ys with
 | nil=>exact KatTups.nil
 | cons y r ih=>exact KatTups.cons (H y (.head _)).1 rfl rfl rfl (ih λ z hz=>H z (.tail _ hz))
theorem Ed {h:Heap} {L b:Addr} {m:SV} {o:Obj} (n:h.Ns L m) (e:h.get? b=some o) (hd:∀ es n,o.data≠.dict es n):b≠L:=λ q=>by
 obtain⟨o',es,ep,e',d,_⟩:=n
 rw[q,e'] at e;cases e
 exact hd _ _ d
noncomputable def Eb (ys:List A0):List (Str×Str):=ys.map λ y=>(y.b,y.p)
noncomputable def Ee (ys:List A0) (is:List Nat):List Value:=is.map λ i=>(ys.map λ y=>Value.ref y.a).getD i Value.none
theorem Or {ys:List A0} {l:Addr} {n:Nat} (D:Cl w S s₀ L ref m news s) (hl:s.heap.get? l=some (A6 (ys.map λ y=>Value.ref y.a) n)) (hp:∀ y∈ys,Ar s.heap y) (h2:2≤ys.length) (h64:ys.length<64)
  (h:∀ s' a e,Cl w S s₀ L s.heap m [(a,A6 (Ee ys (srt (ltI (Eb ys)) ys.length)) e)] s'→s.heap.get? a=none→Q (.ref a) s'):wpAny (MD w) A (call (.builtin "sorted") [.ref l]) Q E s:=by
 walk_at "c w S s₀ L ref m news s A E Q ys l n D hl hp h2 h64 h"
 obtain⟨F,N⟩:=D.frNo
 have hlen:(ys.map λ y=>Value.ref y.a).length=ys.length:=List.length_map _
 refine kat_sorted F N (Al hl) (by rw[hlen];exact h2) (by rw[hlen];exact h64) ?_
 walk_at " a e1 h' F' N' hfresh"
 have kp:∀ b o,b≠L→s.heap.get? b=some o→h'.get? b=some o:=λ b o q e=>(N' (b,o) (.tail _ (Bu.mpr ⟨q,e⟩))).1
 have hPL:∀ y∈ys,Ar h' y:=λ y hy=>⟨kp _ _ (Ed D.ns (hp y hy).1 λ _ _=>nofun) (hp y hy).1,(hp y hy).2⟩
 have hcs:∀ i,i<ys.length→∃ y,ys[i]?=some y∧(ys.map λ y=>Value.ref y.a).getD i Value.none=.ref y.a∧(Eb ys).getD i ("", "")=(y.b,y.p)∧y∈ys:=λ i hi=>⟨ys[i],List.getElem?_eq_getElem hi,by simp[List.getD,hi],by simp[Eb,List.getD,hi],List.getElem_mem hi⟩
 have hnew:s.heap.get? a=none:=by
  cases hq:s.heap.get? a with
  | none=>rfl
  | some o=>exact absurd (hfresh (a,o) (Bu.mpr ⟨(N' _ (.head _)).2.1,hq⟩)) (Nat.lt_irrefl _)
 refine kat_kind (T:=.type "str") (Sl hPL) (by rw[List.length_map];exact Nat.le_of_lt (by assumption)) ?_ rfl ?_
 ·walk_at " v hv"
  obtain⟨y,_,rfl⟩:=List.mem_map.mp hv
  walk_at "c y"
  exact Looks.now
 rw[hlen]
 refine Md (ltI (Eb ys)) ?_ (bd_sort (by exact Nat.le_of_lt (by assumption))) ?_
 ·walk_at " i j C hi hj hC"
  obtain⟨y,_,e1,e2,hy⟩:=hcs i hi
  obtain⟨z,_,e3,e4,hz⟩:=hcs j hj
  unfold kas_ask
  rw[e1,e3]
  unfold ltI at hC
  rw[e2,e4] at hC
  exact @ask_piece _ _ _ _ _ _ true _ (hPL y hy) (hPL z hz) hC
 ·refine KasFin.intro F' N' (UpdF.head ?_) ?_
  ·walk_at " p hp"
   walk_at " q"
   have:=hfresh p hp
   rw[q] at this
   exact Nat.lt_irrefl _ this
  ·walk_at " h'' c F'' N''"
   have kp2:∀ b o,b≠L→s.heap.get? b=some o→h''.get? b=some o:=λ b o q e=>(N'' (b,o) (.tail _ (Bu.mpr ⟨q,e⟩))).1
   have D2:=Cl.back D (h':=h'') (t:=s.toks) F''.ns kp2 (Nat.le_refl _)
   have na:=N'' _ (.head _)
   have h317:@LE.le Nat _ 317 a:=hfresh (316,_) (Bu.mpr ⟨Nat.ne_of_lt (Nat.lt_of_lt_of_le (by decide) D.hL),D.k _ _ (O2 w).at_⟩)
   exact h _ a c ⟨D2.ns,λ b o q _ _ e=>kp2 b o q e,λ p hp=>(by rw[List.mem_singleton.mp hp];exact⟨na.1,na.2.1,h317⟩),D2.st,D2.g1,D2.hL,D2.good,.inr ⟨_,D.ns⟩⟩ hnew
end
section
variable {w:World} {S:List Addr} {s₀:Shared} {L:Addr} {ref:Heap} {m:SV} {news:AO} {s:Shared} {A:Around} {E:VP} {Q:VP}
theorem Cl.self (D:Cl w S s₀ L ref m news s):Cl w S s₀ L s.heap m [] s:=⟨D.ns,λ _ _ _ _ _ e=>e,λ _ h=>(nomatch h),D.st,D.g1,D.hL,D.good,.inr ⟨_,D.ns⟩⟩
theorem Cl.backX {Z:List Addr} {m':SV} (D:Cl w S s₀ L ref m news s) (hZ:∀ z∈Z,s₀.heap.get? z=none∧ref.get? z=none∧@LE.le Nat _ 317 z) {h':Heap} {t:Tok} (hn:h'.Ns L m') (hk:∀ b o,b≠L→b∉Z→s.heap.get? b=some o→h'.get? b=some o) (ht:s.toks≤t):Cl w S s₀ L ref m' [] {s with heap:=h',toks:=t}:=by
 have hz:@LE.le Nat _ 317 h'.objs.size:=Nat.le_of_lt (Nat.lt_of_le_of_lt D.hL hn.lt)
 have hLk:∀ k,k<317→k≠L:=λ k hk=>Nat.ne_of_lt (Nat.lt_of_lt_of_le hk D.hL)
 have low:∀ b ob,@LT.lt Nat _ b 317→s.heap.get? b=some ob→h'.get? b=some ob:=λ b ob hb e=>hk b ob (hLk b hb) (λ q=>absurd (hZ _ q).2.2 (Nat.not_le_of_lt hb)) e
 have V:Fh h':=by
  refine⟨?_,?_,hz⟩
  ·obtain⟨ps,e⟩:=D.good.vol.a
   exact⟨ps,e.at2 (λ _ e1=>low _ _ (by decide) e1) (λ _ e2=>low _ _ (by decide) e2)⟩
  ·obtain⟨ps,e⟩:=D.good.vol.b
   exact⟨ps,e.at2 (λ _ e1=>low _ _ (by decide) e1) (λ _ e2=>low _ _ (by decide) e2)⟩
 exact⟨hn,λ b o q h2 h3 e=>hk _ _ q (λ z=>by rw[(hZ _ z).2.1] at e;cases e) (D.keep b o q h2 h3 e),λ _ h=>(nomatch h),
  ⟨λ b ob h1 h2 h3 e=>hk _ _ (λ q=>by rw[q,D.g0] at e;cases e) (λ z=>by rw[(hZ _ z).1] at e;cases e) (D.st.keep b ob h1 h2 h3 e),Nat.le_of_lt (Nat.lt_of_le_of_lt D.g1 hn.lt),V,D.st.calm.trans (Cx.heap ht)⟩,D.g1,D.hL,
  ⟨D.good.st.low λ b ob hb _ _ e=>low b ob hb e,V,Nat.lt_of_lt_of_le D.good.tk ht⟩,D.rns⟩
noncomputable def Ky (h:Heap) (L k:Addr):List (Addr×Obj):=(Kj h L).filter λ p=>decide (p.1≠k)
theorem Gb {h:Heap} {L k a:Addr} {o:Obj}:(a,o)∈Ky h L k↔a≠L∧a≠k∧h.get? a=some o:=by
 unfold Ky
 rw[List.mem_filter,Bu]
 simp[and_assoc,and_comm,and_left_comm]
theorem Cl.frBut {k:Addr} {o:Obj} (D:Cl w S s₀ L ref m news s) (hk:s.heap.get? k=some o) (hkL:k≠L) :
  Fr Gy L s.heap m∧News Gy L s.heap ((k,o)::Ky s.heap L k)∧UpdF k o ((k,o)::Ky s.heap L k) (λ o'=>(k,o')::Ky s.heap L k):=by
 refine⟨D.frNo.1,λ p hp=>?_,UpdF.head λ p hp=>(Gb.mp hp).2.1⟩
 rcases List.mem_cons.mp hp with rfl|hp
 ·exact⟨hk,hkL,I3 _⟩
 ·exact⟨(Gb.mp hp).2.2,(Gb.mp hp).1,I3 _⟩
structure KInv (w:World) (S:List Addr) (s₀:Shared) (L:Addr) (ref:Heap) (m:SV) (a kS:Addr) (e1:Nat) (ks:List Value) (e:Nat) (s:Shared):Prop where
 D:Cl w S s₀ L ref m [] s
 o:s.heap.get? kS=some (seqObj "list" (List.toArray ks) e)
 oa:s.heap.get? a=some (seqObj "list" #[] e1)
theorem n_keys {a kS:Addr} {e1:Nat} {fa:Addr} {Fin:List Value→Nat→Shared→Prop} (R:A3 A 8) (hr:∀ z∈[a,kS],s₀.heap.get? z=none∧ref.get? z=none∧@LE.le Nat _ 317 z) (hak:a≠kS) (ha:a≠L) (hk:kS≠L) :
  ∀ (vz:List (Value×Int)) {ks:List Value} {ys:List Int} {e:Nat} {s:Shared},KInv w S s₀ L ref m a kS e1 ks e s→IntsAre ks ys→(∀ p∈vz,Eu w fa (hide ref [L]) p.1 p.2) →
   (∀ ks' e' s',KInv w S s₀ L ref m a kS e1 ks' e' s'→IntsAre ks' (ys++vz.map Prod.snd)→Fin ks' e' s')→KatKeys PySem.Challenge.pw_wv0051_01 w A Gy L m kS (.ref fa) Fin (vz.map Prod.fst) ks e s
 | [],ks,ys,e,s,I,hi,_,h=>KatKeys.nil (h ks e s I (by rw[List.map_nil,List.append_nil];exact hi))
 | (v,z)::r,ks,ys,e,s,I,hi,hK,h=>by
  have hz:=hr kS (.tail _ (.head _))
  have hza:=hr a (.head _)
  refine KatKeys.cons (wpAny_mono (hK (v,z) (.head _) A s R I.D.good λ b o h3 e=>?_) (λ rv s' hs=>?_) λ _ _ x=>x)
  ·by_cases q:b∈[L]
   ·rw[Fk q] at e;cases e
   ·rw[Gm q] at e
    exact I.D.old e h3 (λ x=>q (by rw[x];exact .head _))
  ·obtain⟨⟨t,ht,rfl⟩,st⟩:=hs
   have D':=I.D.step0 st
   have ok':s'.heap.get? kS=some (seqObj "list" (List.toArray ks) e):=st.keep _ _ (λ h=>nomatch h) (Av hz.2.2 176 (by decide)) (Av hz.2.2 183 (by decide)) I.o
   have oa':s'.heap.get? a=some (seqObj "list" #[] e1):=st.keep _ _ (λ h=>nomatch h) (Av hza.2.2 176 (by decide)) (Av hza.2.2 183 (by decide)) I.oa
   obtain⟨F,N,U⟩:=D'.frBut ok' hk
   refine KatBack.intro F N U λ h'' c F'' N''=>?_
   have kp:∀ b o,b≠L→b∉[kS]→s'.heap.get? b=some o→h''.get? b=some o:=λ b o q1 q2 e=>(N'' (b,o) (.tail _ (Gb.mpr ⟨q1,λ x=>q2 (by rw[x];exact .head _),e⟩))).1
   have D2:=D'.backX (Z:=[kS]) (λ z hz'=>by rw[List.mem_singleton.mp hz'];exact hz) (t:=s'.toks) F''.ns kp (Nat.le_refl _)
   refine n_keys R hr hak ha hk r (ks:=ks++[.int z t]) (ys:=ys++[z]) (e:=c) ⟨D2,(N'' _ (.head _)).1,kp _ _ ha (λ q=>hak (List.mem_singleton.mp q)) oa'⟩ (ksk_snoc hi) (λ p hp=>hK p (.tail _ hp)) λ ks' e' s2 I2 hi2=>h ks' e' s2 I2 ?_
   rw[List.append_assoc] at hi2
   exact hi2
noncomputable def ltz (zs:List Int) (i j:Nat):Bool:=decide (zs.getD i 0<zs.getD j 0)
theorem I7 (zs:List Int):Gh (ltz zs):=⟨λ i j h=>by unfold ltz at *;simp at *;exact Int.le_of_lt (by assumption),λ i j k h1 h2=>by unfold ltz at *;simp at *;lia⟩
theorem intsAt {vs:List Value} {ns:List Int} (H:IntsAre vs ns):∀ i,i<ns.length→∃ t,vs.getD i Value.none=.int (ns.getD i 0) t:=by
 induction H with
 | nil=>intro i h;exact absurd h (Nat.not_lt_zero i)
 | cons x t r ih =>
  intro i
  induction i with
  | zero=>intro _;exact⟨t,rfl⟩
  | succ i _=>intro h;exact ih i (Nat.lt_of_succ_lt_succ h)
theorem intsLen {vs:List Value} {ns:List Int} (H:IntsAre vs ns):vs.length=ns.length:=H.length
noncomputable def valsAt (vs:List Value) (is:List Nat):List Value:=is.map λ i=>vs.getD i Value.none
theorem n_sortedK {vz:List (Value×Int)} {l fa:Addr} {n:Nat} (D:Cl w S s₀ L ref m news s) (R:A3 A 10) (hS:∀ z∈S,z<317) (hl:s.heap.get? l=some (A6 (vz.map Prod.fst) n)) (h2:2≤vz.length) (h64:vz.length<64) (hK:∀ p∈vz,Eu w fa (hide s.heap [L]) p.1 p.2)
  (h:∀ s' a e,Cl w S s₀ L s.heap m [(a,A6 (valsAt (vz.map Prod.fst) (srt (ltz (vz.map Prod.snd)) vz.length)) e)] s'→s.heap.get? a=none→Q (.ref a) s'):wpAny (MD w) A (call (.builtin "sorted") [.ref l] [(Str.ofString "key", .ref fa)]) Q E s:=by
 walk_at "c w S s₀ L ref m news s A E Q vz l fa n D R hS hl h2 h64 hK h"
 obtain⟨F,N⟩:=D.frNo
 have hlen:(vz.map Prod.fst).length=vz.length:=List.length_map _
 refine kat_sortedK (b:=false) (f:=.ref fa) F N (Al hl) (by rw[hlen];exact h2) (by rw[hlen];exact h64) (ksk_s1 _ _) (λ _=>ksk_l1 _ _) (λ x=>ksk_t1 _ x) ?_
 walk_at " a kS e1 h' F' N' hlt hfresh"
 have kp:∀ b o,b≠L→s.heap.get? b=some o→h'.get? b=some o:=λ b o q e=>(N' (b,o) (.tail _ (.tail _ (Bu.mpr ⟨q,e⟩)))).1
 have nk:=N' _ (.head _)
 have na:=N' _ (.tail _ (.head _))
 have h317:@LE.le Nat _ 317 a:=hfresh (316,_) (Bu.mpr ⟨Nat.ne_of_lt (Nat.lt_of_lt_of_le (by decide) D.hL),D.k _ _ (O2 w).at_⟩)
 have hnew:∀ z,z≠L→@LE.le Nat _ a z→s.heap.get? z=none:=λ z hz hle=>by
  cases hq:s.heap.get? z with
  | none=>rfl
  | some o=>exact absurd (hfresh (z,o) (Bu.mpr ⟨hz,hq⟩)) (Nat.not_lt_of_le hle)
 have h0:∀ z,z≠L→@LE.le Nat _ a z→s₀.heap.get? z=none∧s.heap.get? z=none∧@LE.le Nat _ 317 z:=λ z hz hle=>by
  have h3:=Nat.le_trans h317 hle
  refine⟨?_,hnew z hz hle,h3⟩
  cases hq:s₀.heap.get? z with
  | none=>rfl
  | some o =>
   walk_at "c o"
   have e:=D.st.keep z o (λ q=>absurd (hS z q) (Nat.not_lt_of_le h3)) (Av h3 176 (by decide)) (Av h3 183 (by decide)) hq
   rw[hnew z hz hle] at e;cases e
 have za:=h0 a na.2.1 (Nat.le_refl _)
 have zk:=h0 kS nk.2.1 (Nat.le_of_lt hlt)
 have hr:∀ z∈[a,kS],s₀.heap.get? z=none∧s.heap.get? z=none∧@LE.le Nat _ 317 z:=λ z hz=>by
  rcases List.mem_cons.mp hz with rfl|hz
  ·exact za
  ·rw[List.mem_singleton.mp hz];exact zk
 have I0:KInv w S s₀ L s.heap m a kS e1 [] 0 {s with heap:=h'}:=⟨D.self.backX (Z:=[]) (λ z hz=>nomatch hz) (t:=s.toks) F'.ns (λ b o q _ e=>kp b o q e) (Nat.le_refl _),nk.1,na.1⟩
 refine n_keys (A:=A.in1.in1) R.in1.in1 hr (Nat.ne_of_lt hlt) na.2.1 nk.2.1 vz (ks:=[]) (ys:=[]) (e:=0) I0 .nil hK ?_
 walk_at " ks e s2 I hi"
 rw[List.nil_append] at hi
 have hkl:ks.length=vz.length:=by rw[intsLen hi,List.length_map]
 have hrev:katRev false ks=ks:=rfl
 rw[hrev,hlen,ksk_kind (keys:=List.toArray ks) (kz:=vz.map Prod.snd) hi (by rw[List.size_toArray];lia)]
 refine wpAny_pure ?_
 refine Md (ltz (vz.map Prod.snd)) ?_ (bd_sort (by exact Nat.le_of_lt (by assumption))) ?_
 ·walk_at " i j C hii hj hC"
  obtain⟨t1,e1⟩:=intsAt hi i (by rw[List.length_map];exact hii)
  obtain⟨t2,e2⟩:=intsAt hi j (by rw[List.length_map];exact hj)
  unfold kas_ask
  rw[e1,e2]
  exact kat_lt_int hC
 ·obtain⟨F2,N2,U2⟩:=I.D.frBut I.o nk.2.1
  refine KatFin.intro F2 N2 U2 ?_
  walk_at " h3 c3 F3 N3"
  have kp3:∀ b o,b≠L→b∉[kS]→s2.heap.get? b=some o→h3.get? b=some o:=λ b o q1 q2 e=>(N3 (b,o) (.tail _ (Gb.mpr ⟨q1,λ x=>q2 (by rw[x];exact .head _),e⟩))).1
  have D3:=I.D.backX (Z:=[kS]) (λ z hz'=>by rw[List.mem_singleton.mp hz'];exact zk) (t:=s2.toks) F3.ns kp3 (Nat.le_refl _)
  have oa3:=kp3 _ _ na.2.1 (λ q=>absurd (List.mem_singleton.mp q) (Nat.ne_of_lt hlt)) I.oa
  obtain⟨F4,N4,U4⟩:=D3.frBut oa3 na.2.1
  refine KasFin.intro F4 N4 U4 ?_
  walk_at " h5 c5 F5 N5"
  have kp5:∀ b o,b≠L→b∉[a]→h3.get? b=some o→h5.get? b=some o:=λ b o q1 q2 e=>(N5 (b,o) (.tail _ (Gb.mpr ⟨q1,λ x=>q2 (by rw[x];exact .head _),e⟩))).1
  have D5:=D3.backX (Z:=[a]) (λ z hz'=>by rw[List.mem_singleton.mp hz'];exact za) (t:=s2.toks) F5.ns kp5 (Nat.le_refl _)
  exact h _ a c5 ⟨D5.ns,D5.keep,λ p hp=>(by rw[List.mem_singleton.mp hp];exact⟨(N5 _ (.head _)).1,na.2.1,h317⟩),D5.st,D5.g1,D5.hL,D5.good,D5.rns⟩ za.2.1
end
theorem callLam {w:World} {A:Around} {s:Shared} {f:Addr} {pos:List Value} {kw:List (Str×Value)} {Q:VP} {E:VP} {n:Nat} {fd:FuncData} {body:Expr} {binds:List (Str×Value)} {o:Obj}
  (ho:s.heap.get? f=some o) (hd:o.data=.func fd) (hbody:fd.body=.expr body) (hcd:s.heap.CodeRec fd.code fd.qualname) (co:fd.scope.isCoroutine=false) (gen:fd.scope.isGenerator=false) (kind:fd.scope.kind=.function) (cell:∀ x∈fd.scope.names,x.2≠.cell)
  (G:A5 w s) (R:A3 A (n+1)) (hb:peek (K w.params) ⟨PySem.Challenge.pw_wv0051_01,w.params⟩ (bindArgs fd ⟨pos,kw⟩)=some binds)
  (hloc:(binds.all λ x=>decide (fd.scope.names.lookup x.1=some .local))=true)
  (h:∀ L s₁,Cl w [] s L s.heap (λ x=>binds.reverse.lookup x) [] s₁ →
   wpAny (MD w) (A.deeper (fenv fd f L)) (eval body (fenv fd f L)) Q (λ _ _=>False) s₁) :
  wpAny (MD w) A (call (.ref f) pos kw) Q E s:=by
 refine wpAny_call (kla_callFunE R.depth ho hd co gen hbody hcd ?_)
 refine Looks.of_peek (M:=MD w) G.st.k hb A.in1 _ _ s (λ _ _ e=>e) ?_
 refine wpAny_newFunctionEnv cell (locs hloc) (λ h₁ hns hsb=>⟨G.st.nolimit.fresh _ hsb,?_⟩) kind
 refine kla_codeExpr (wpAny_mono (h s.heap.objs.size _ ?_) (λ fl s' z=>z) λ _ _ z=>z.elim)
 have up:∀ b o,s.heap.get? b=some o→h₁.get? b=some o:=λ b o e=>hsb.extBut b o (Nat.ne_of_lt (Heap.lt_size e)) (Heap.get?_push_of_some _ e)
 have hz:@LE.le Nat _ s.heap.objs.size h₁.objs.size:=by rw[hsb.1,Heap.size_push];exact Nat.le_succ _
 exact⟨hns,λ b o _ _ _ e=>up b o e,λ _ h=>(nomatch h),⟨λ b o _ _ _ e=>up b o e,hz,G.vol.keeps hz up,Cx.heap (Nat.le_add_right ..)⟩,Nat.le_refl _,G.vol.c,G.grow (Nat.le_trans G.vol.c hz) up (Nat.le_add_right ..),.inl (Bc (Nat.le_refl _))⟩
noncomputable def Kv:Expr:=match Bb with
 | _::_::_::.If (.Compare _ _ [.Call _ _ [kw] _] _) _ _ _::_=>kw.value
 | _=>.Name "" ⟨0,0,0,0⟩
noncomputable def Me:Arguments:=match Kv with|.Lambda p _ _ _=>p|_=>fparams (Cu 27)
noncomputable def Ku:Expr:=match Kv with|.Lambda _ b _ _=>b|_=>Kv
noncomputable def Jv:Scope:=match Kv with|.Lambda _ _ s _=>s|_=>fscope (Cu 27)
noncomputable def lamO:Pos:=match Kv with|.Lambda _ _ _ p=>p|_=>⟨0,0,0,0⟩
theorem lamE_eq:Kv=.Lambda Me Ku Jv lamO:=by kernel_rfl
noncomputable def lamFd (c':Addr):FuncData:=kla_fn "<lambda>" "law.<locals>.<lambda>" Me Ku Jv [] (.str "law_wv0051_01" 541) (.ref c') .none
structure LamAt (h:Heap) (f:Addr):Prop where
 o:∃ c',h.get? f=some {cls:=.type "function", data:=.func (lamFd c')}∧h.CodeRec (.ref c') "law.<locals>.<lambda>" ∧ @LE.le Nat _ 317 f∧@LE.le Nat _ 317 c'
theorem key_lam (w:World) {h:Heap} {f:Addr} {y:A0} (hf:LamAt h f) (hy:Ar h y):Eu w f h (.ref y.a) (-((y.b.length:Int)+(y.p.length:Int))):=λ A s R G hk=>by
 obtain⟨c',e1,⟨c2,oc,vs,t,e2,e3,e4,e5⟩,h3,h4⟩:=hf.o
 cases e2
 have hy':Ar s.heap y:=⟨hk _ _ hy.2.1 hy.1,hy.2⟩
 refine callLam (fd:=lamFd c') (body:=Ku) (binds:=[("word", .ref y.a)]) (hk _ _ h3 e1) rfl rfl ⟨c',oc,vs,t,rfl,hk _ _ h4 e3,e4,e5⟩ (by kernel_rfl) (by kernel_rfl) (by kernel_rfl) (show ∀ x∈Jv.names,x.2≠.cell by decide +kernel) G R (by kernel_rfl) (by kernel_rfl) ?_
 intro L s₁ D
 have hy1:=D.piece hy'
 refine wpAny_UnaryOp ?_
 refine Am ?_
 walk_at "b len"
 refine Co (spliced_more ?_)
 refine wpAny_BinOp ?_
 refine Aj ?_
 walk_at "s3"
 rename_i s2 t2 D2 _
 refine Gq (D2.piece hy').1 (.inl rfl) ?_
 rw[if_pos rfl]
 refine Aj ?_
 walk_at "s3"
 rename_i s4 t4 D4 _
 refine Gq (D4.piece hy').1 (.inr rfl) ?_
 rw[if_neg (by decide)]
 have l1:=hy'.2.2.1
 have l2:=hy'.2.2.2
 refine Gn D4 (by lia) (λ z1 t1 D1=>?_)
 refine spliced_none ⟨Bh,len_str (by rw[Str.length_append];lia) ?_⟩
 have D5:=D1.toks 2
 refine P.neg_int ?_
 refine⟨⟨_,Nat.ne_of_gt D5.good.tk,?_⟩,(D5.toks 1).st⟩
 rw[Str.length_append,Int.natCast_add]
theorem CodeRec.keepN {h h':Heap} {c:Value} {q:Str} (x:h.CodeRec c q) (k:∀ b o,h.get? b=some o→h'.get? b=some o):h'.CodeRec c q :=
 x.elim λ c1 qq=>qq.elim λ oc qq=>qq.elim λ vs qq=>qq.elim λ t qq=>qq.elim λ e qq=>qq.elim λ e1 r=>⟨c1,oc,vs,t,e,k _ _ e1,r⟩
theorem S5 {P:Params} {h:Heap} (X:(K P).In h):CodeHd h 315 313 :=
 ⟨⟨.type "code", none,.fields [.str "law" 586,.str "law" 587,.str "/claim/cut.py" 588,.int 260 0,.int 1 0,.int 0 0,.int 0 0,.int 3 0,.ref 312,.bool true,.int 181 0,.ref 313,.none,.none,.none,.ref 314,.int 589 0,.int 260 0,.str "/claim/cut.py" 590].toArray,#[]⟩,
  _,_,_,_,_,_,_,_,X 315 _ (by kernel_rfl),rfl,rfl,rfl,rfl,rfl,rfl,rfl,rfl,by decide⟩
section
variable {w:World} {s₀:Shared} {L:Addr} {ref:Heap} {m:SV} {news:AO} {s:Shared} {A:Around} {E:VP} {Q:VP}
theorem n_lambda (D:Cl w [] s₀ L ref m news s) (h313:s.heap.get? 313=some (tabObj #[]))
  (h:∀ s' f,Cl w [313] s₀ L s'.heap m news s'→LamAt s'.heap f→s.heap.get? f=none→(∀ b o,b≠313→s.heap.get? b=some o→s'.heap.get? b=some o)→(∃ ps,s'.heap.get? 313=some (tabObj ps))→Q (.ref f) s'):wpAny (MD w) A (eval Kv (cfenv E4 316 L)) Q E s:=by
 rw[lamE_eq]
 refine kla_eval (by kernel_rfl) ?_
 have hq:(cfenv E4 316 L).qual ++ "<lambda>" = "law.<locals>.<lambda>" := by kernel_rfl
 rw[hq,makeFunction_eq]
 simp only[List.zip_nil_right,List.filterMap_nil,List.isEmpty_nil,if_true,pure_bind]
 unfold makeTail
 have hcl:closureFor Jv (cfenv E4 316 L)=pure []:=by kernel_rfl
 rw[hcl]
 refine wpAny_bind (wpAny_pure ?_)
 simp only[List.isEmpty_nil,if_true]
 refine wpAny_bind (wpAny_pure ?_)
 have C:=S5 D.k
 refine wpAny_bind (wpAny_with_toks (Nat.le_refl s.toks) (wpAny_functionCodeX (c:=315) (P:=313) (ps:=#[]) rfl (C.code h313 trivial) (C.tab h313) rfl λ c' h' tk hx hge hlt _ hrec htb _ htk=>?_))
 have X':(K w.params).In h':=λ a o e=>hx a o (K_low e).2.2.2 (D.k a o e)
 refine wpAny_bind ((Ps X').here ?_)
 refine wpAny_bind ((looks_nsIn X' (ns:=3) (name := "__name__") (r:=some (.str "law_wv0051_01" 541)) (by kernel_rfl)).here ?_)
 refine wpAny_bind (wpAny_pure (wpAny_newObj_type ?_ (by size_fits)))
 have hL3:L≠313:=Nat.ne_of_gt (Nat.lt_of_lt_of_le (by decide) D.hL)
 have up:∀ b o,b≠313→s.heap.get? b=some o→(h'.push (kla_obj "<lambda>" "law.<locals>.<lambda>" Me Ku Jv [] (.str "law_wv0051_01" 541) c' .none)).get? b=some o:=λ b o q e=>Heap.get?_push_of_some _ (hx b o q e)
 have nsN:=(D.ns.extBut hx hL3).push (kla_obj "<lambda>" "law.<locals>.<lambda>" Me Ku Jv [] (.str "law_wv0051_01" 541) c' .none)
 have hz:@LE.le Nat _ 317 (h'.push (kla_obj "<lambda>" "law.<locals>.<lambda>" Me Ku Jv [] (.str "law_wv0051_01" 541) c' .none)).objs.size:=Nat.le_of_lt (Nat.lt_of_le_of_lt D.hL nsN.lt)
 have V:Fh (h'.push (kla_obj "<lambda>" "law.<locals>.<lambda>" Me Ku Jv [] (.str "law_wv0051_01" 541) c' .none)):=by
  refine⟨?_,?_,hz⟩
  ·obtain⟨ps,e⟩:=D.good.vol.a
   exact⟨ps,e.at2 (λ _ e1=>up _ _ (by decide) e1) (λ _ e2=>up _ _ (by decide) e2)⟩
  ·obtain⟨ps,e⟩:=D.good.vol.b
   exact⟨ps,e.at2 (λ _ e1=>up _ _ (by decide) e1) (λ _ e2=>up _ _ (by decide) e2)⟩
 have hc3:@LE.le Nat _ 317 c':=Nat.le_trans D.good.vol.c hge
 refine h {s with heap:=h'.push (kla_obj "<lambda>" "law.<locals>.<lambda>" Me Ku Jv [] (.str "law_wv0051_01" 541) c' .none),toks:=tk} h'.objs.size
  ⟨nsN,λ b o _ _ _ e=>e,λ p hp=>⟨up _ _ (λ q=>by have:=(D.nw p hp).2.2;rw[q] at this;exact absurd this (by decide)) (D.nw p hp).1,(D.nw p hp).2⟩,
   ⟨λ b ob h1 h2 h3 e=>up _ _ (λ q=>h1 (by rw[q];exact .head _)) (D.st.keep b ob (λ q=>nomatch q) h2 h3 e),Nat.le_of_lt (Nat.lt_of_le_of_lt D.g1 nsN.lt),V,D.st.calm.trans (Cx.heap htk)⟩,D.g1,D.hL,
   ⟨⟨λ a o e=>up a o (K_low e).2.2.2 (D.k a o e),let ⟨mb,⟨o,es,ep,ho,r⟩,e⟩:=D.good.st.b;⟨mb,⟨o,es,ep,up builtinsNs o (by decide) ho,r⟩,e⟩⟩,V,Nat.lt_of_lt_of_le D.good.tk htk⟩,.inr ⟨_,nsN⟩⟩
  ⟨c',Heap.get?_push_size _ rfl,CodeRec.keepN hrec (λ b o e=>Heap.get?_push_of_some _ e),Nat.le_of_lt (Nat.lt_of_le_of_lt hc3 hlt),hc3⟩ (Heap.get?_none_of_le (Nat.le_of_lt (Nat.lt_of_le_of_lt hge hlt))) up ⟨_,Heap.get?_push_of_some _ htb.2⟩
end
noncomputable def Grown (s s':Shared):Prop:=(∀ b,b≠313→s'.heap.get? b=s.heap.get? b)∧(∃ ps,s'.heap.get? 313=some (tabObj ps))∧s'.heap.objs.size=s.heap.objs.size∧s'.gens=s.gens∧s'.os=s.os∧s'.toks=s.toks
theorem Cl.grown:∀ {w:World} {s:Shared} {L:Addr} {m:SV} {z:Shared} (D:Cl w [313] s L z.heap m [] z) {ps:Array Value} (h0:∃ o,s.heap.get? 313=some o) (h:z.heap.get? 313=some (tabObj ps)),
  ∃ s',Grown s s'∧Cl w [] s' L z.heap m [] z:=by
 walk_at " w s L m z D ps h0 h"
 have hs:=Heap.SameBut.update s.heap 313 (λ _=>tabObj ps)
 have hg:(s.heap.update 313 (λ _=>tabObj ps)).get? 313=some (tabObj ps):=by
  obtain⟨o,e⟩:=h0
  walk_at "c o"
  exact Heap.get?_update_self _ e rfl
 refine⟨{s with heap:=s.heap.update 313 (λ _=>tabObj ps)},⟨λ b hb=>hs.2 b hb,⟨ps,hg⟩,hs.1,rfl,rfl,rfl⟩,⟨D.ns,D.keep,λ _ h=>(nomatch h),⟨?_,by rw[hs.1];exact D.st.size,D.st.vol,⟨D.st.calm.os,D.st.calm.size,D.st.calm.gens,D.st.calm.bare,D.st.calm.toks⟩⟩,by rw[hs.1];exact D.g1,D.hL,D.good,D.rns⟩⟩
 walk_at " b o _ h2 h3 e"
 by_cases q:b=313
 ·rw[q] at e ⊢
  rw[hg] at e;cases e
  exact h
 ·exact D.st.keep b o (λ h=>q (List.mem_singleton.mp h)) h2 h3 ((hs.2 b q).symm.trans e)
noncomputable def IsSq (o:Obj):Prop:=(∃ vs n,o.data=.seq vs n)∧(o.cls=.type "list" ∨ o.cls=.type "tuple")
noncomputable def El (h h':Heap):Prop:=∀ b o,@LE.le Nat _ 317 b→IsSq o→h.get? b=some o→h'.get? b=some o
theorem isSq_lst {vs:List Value} {n:Nat}:IsSq (A6 vs n):=⟨⟨_,_,rfl⟩,.inl rfl⟩
theorem Sk (y:A0):IsSq y.obj:=⟨⟨_,_,rfl⟩,.inr rfl⟩
theorem El.refl (h:Heap):El h h:=λ _ _ _ _ e=>e
theorem El.trans {a b c:Heap} (x:El a b) (y:El b c):El a c:=λ q o h3 hs e=>y q o h3 hs (x q o h3 hs e)
theorem El.step {h:Heap} {X:List Addr} {s s':Shared} (k:El h s.heap) (st:A4 X s s') (hX:∀ x∈X,h.get? x=none):El h s'.heap:=λ b o h3 hs e =>
 st.keep b o (λ q=>by rw[hX b q] at e;cases e) (Av h3 176 (by decide)) (Av h3 183 (by decide)) (k b o h3 hs e)
theorem El.now {h:Heap} {w:World} {S:List Addr} {s₀ s:Shared} {L:Addr} {ref:Heap} {m:SV} {news:AO} (k:El h ref) (D:Cl w S s₀ L ref m news s):El h s.heap:=λ b o h3 hs e =>
 D.old (k b o h3 hs e) h3 (D.neSeq (k b o h3 hs e) λ es n q=>by obtain⟨vs,n',z⟩:=hs.1;rw[z] at q;cases q)
theorem Ar.kps {h h':Heap} {y:A0} (k:El h h') (q:Ar h y):Ar h' y:=⟨k _ _ q.2.1 (Sk y) q.1,q.2⟩
theorem Fq {h h':Heap} (k:El h h') {a:Addr} {vs:List Value} {n:Nat} (h3:@LE.le Nat _ 317 a) (e:h.get? a=some (A6 vs n)):h'.get? a=some (A6 vs n):=k _ _ h3 isSq_lst e
noncomputable def Cz (m:SV) (l:List (Str×Value)):Prop:=∀ p∈l,m p.1=some p.2
theorem Cz.at {m:SV} {l:List (Str×Value)} (H:Cz m l) (i:Nat) {x:Str} {v:Value} (e:l[i]?=some (x,v)):m x=some v:=H (x,v) (List.mem_of_getElem? e)
theorem Cz.set {m:SV} {l:List (Str×Value)} (H:Cz m l) (x:Str) (v:Value):Cz (λ y=>if y=x then some v else m y) ((x,v)::l.filter λ p=>decide (p.1≠x)):=λ p hp=>by
 rcases List.mem_cons.mp hp with rfl|hp
 ·exact if_pos rfl
 ·rw[List.mem_filter] at hp
  exact (if_neg (of_decide_eq_true hp.2)).trans (H p hp.1)
theorem Cz.sub {m:SV} {l l':List (Str×Value)} (H:Cz m l) (h:∀ p∈l',p∈l):Cz m l':=λ p hp=>H p (h p hp)
structure LC (L:Addr) (h:Heap) (vh vr vw vo:Option Value):Prop where
 c1:h.IsCell (L+1) vh
 c2:h.IsCell (L+2) vr
 c3:h.IsCell (L+3) vw
 c4:h.IsCell (L+4) vo
theorem LC.keep {L:Addr} {h h':Heap} {vh vr vw vo:Option Value} (C:LC L h vh vr vw vo) (k:∀ b o,@LT.lt Nat _ L b→@LE.le Nat _ b (L+4)→h.get? b=some o→h'.get? b=some o):LC L h' vh vr vw vo :=
 ⟨Aq C.c1 λ o=>k _ o (Nat.lt_succ_self L) (Nat.add_le_add_left (by decide) L),Aq C.c2 λ o=>k _ o (Nat.lt_add_of_pos_right (by decide)) (Nat.add_le_add_left (by decide) L),
  Aq C.c3 λ o=>k _ o (Nat.lt_add_of_pos_right (by decide)) (Nat.add_le_add_left (by decide) L),Aq C.c4 λ o=>k _ o (Nat.lt_add_of_pos_right (by decide)) (Nat.le_refl _)⟩
theorem LC.now {w:World} {S:List Addr} {s₀ s:Shared} {L:Addr} {ref:Heap} {m:SV} {news:AO} {vh vr vw vo:Option Value} (C:LC L ref vh vr vw vo) (D:Cl w S s₀ L ref m news s):LC L s.heap vh vr vw vo :=
 C.keep λ _ _ h1 _ e=>D.old e (Nat.le_trans D.hL (Nat.le_of_lt h1)) (Nat.ne_of_gt h1)
theorem LC.step {w:World} {S X:List Addr} {s₀ s s':Shared} {L:Addr} {ref:Heap} {m:SV} {news:AO} {vh vr vw vo:Option Value} (C:LC L s.heap vh vr vw vo) (D:Cl w S s₀ L ref m news s) (st:A4 X s s') (hX:∀ x∈X,∀ v,¬ s.heap.IsCell x v):LC L s'.heap vh vr vw vo:=by
 have k:∀ c v,@LT.lt Nat _ L c→s.heap.IsCell c v→s'.heap.IsCell c v:=λ c v h1 hc=>Aq hc λ o e=>st.keep c o (λ q=>hX c q _ hc) (Av (Nat.le_trans D.hL (Nat.le_of_lt h1)) 176 (by decide)) (Av (Nat.le_trans D.hL (Nat.le_of_lt h1)) 183 (by decide)) e
 exact⟨k _ _ (Nat.lt_succ_self L) C.c1,k _ _ (Nat.lt_add_of_pos_right (by decide)) C.c2,k _ _ (Nat.lt_add_of_pos_right (by decide)) C.c3,k _ _ (Nat.lt_add_of_pos_right (by decide)) C.c4⟩
theorem Ql {h:Heap} {a:Addr} {vs:List Value} {n:Nat} (e:h.get? a=some (A6 vs n)) (v:Option Value):¬ h.IsCell a v:=λ qq=>qq.elim λ o qq=>qq.elim λ e1 d=>by rw[e] at e1;cases e1;cases d
structure Gr (p:Int) (cs:List Int) (ls lw lwd:Addr) (ys:List A0) (h:Heap):Prop where
 siz:∃ vs k,h.get? ls=some (A6 vs k)∧IntsAre vs (Cp p)
 wrd:∃ k,h.get? lw=some (A6 (ys.map λ y=>Value.ref y.a) k)
 wid:∃ vs k,h.get? lwd=some (A6 vs k)∧IntsAre vs [W0 p,W1 p]
 eight:ys.length=8
 words:I6 h p cs ys
 s3:@LE.le Nat _ 317 ls
 w3:@LE.le Nat _ 317 lw
 d3:@LE.le Nat _ 317 lwd
theorem Gr.kps {p:Int} {cs:List Int} {ls lw lwd:Addr} {ys:List A0} {h h':Heap} (X:Gr p cs ls lw lwd ys h) (k:El h h'):Gr p cs ls lw lwd ys h' :=
 ⟨X.siz.elim λ vs qq=>qq.elim λ n qq=>qq.elim λ e i=>⟨vs,n,Fq k X.s3 e,i⟩,X.wrd.elim λ n e=>⟨n,Fq k X.w3 e⟩,X.wid.elim λ vs qq=>qq.elim λ n qq=>qq.elim λ e i=>⟨vs,n,Fq k X.d3 e,i⟩,X.eight,
  λ j y e=>⟨(X.words j y e).1.kps k,(X.words j y e).2⟩,X.s3,X.w3,X.d3⟩
theorem Gr.pcs {p:Int} {cs:List Int} {ls lw lwd:Addr} {ys:List A0} {h:Heap} (X:Gr p cs ls lw lwd ys h):∀ y∈ys,Ar h y:=λ y hy=>by
 obtain⟨j,hj⟩:=List.mem_iff_getElem?.mp hy
 exact (X.words j y hj).1
theorem law1:∀ (w:World) {A:Around} {s z:Shared} {L lsc:Addr} {m:SV} {vsc:List Value} {nsc:Nat} {scr:List Int} (R:A3 (A.deeper (cfenv E4 316 L)) 30) (D:Cl w [] s L z.heap m [] z) (hm:m "script" = some (.ref lsc)) (hsc:z.heap.get? lsc=some (A6 vsc nsc)) (hsc3:@LE.le Nat _ 317 lsc) (hvs:IntsAre vsc scr) (hn:vsc.length≤500) (C:LC L z.heap none none none none) {Q:FP} (k:∀ m' z' p cs ls lw lwd ys th tsg,Cl w [] s L z'.heap m' [] z'→cs.length=9→p=cs.getD 0 0→Cz m' [("signs", .str (As p) tsg),("widths", .ref lwd),("words", .ref lw),("sizes", .ref ls)]→Gr p cs ls lw lwd ys z'.heap →
   LC L z'.heap (some (.int (B0 p) th)) none none none→th≠0→wpAny (MD w) (A.deeper (cfenv E4 316 L)) (execs (Bb.drop 1) (cfenv E4 316 L)) Q (λ _ _=>False) z'),
  wpAny (MD w) (A.deeper (cfenv E4 316 L)) (execs Bb (cfenv E4 316 L)) Q (λ _ _=>False) z:=by
 walk_at " w A s z L lsc m vsc nsc scr R D hm hsc hsc3 hvs hn C Q k"
 refine wpAny_execs_cons ?_
 refine Assign_Tuple ?_
 refine Am ?_
 walk_at "g 289"
 refine Co (spliced_more ?_)
 refine Ai D hm ?_
 refine spliced_none ⟨Cr D.k (by kernel_rfl),wpAny_mono (s_draw w D.good (R.mono (by decide)) hsc hsc3 hvs hn) ?_ λ _ _ e=>e.elim⟩
 walk_at " r z1 h"
 obtain⟨⟨p,cs,tu,ls,lw,lwd,ys,th,tsg,h9,hp,rfl,O⟩,st1⟩:=h
 walk_at "c p cs tu ls lw lwd ys th tsg"
 have D1:=D.step0 st1
 have C1:LC L z1.heap none none none none:=C.step D st1 (λ x hx=>nomatch hx)
 have X1:Gr p cs ls lw lwd ys z1.heap:=⟨O.siz,O.wrd,O.wid,O.eight,O.words,O.fresh.1.2,O.fresh.2.1.2,O.fresh.2.2.2⟩
 refine Ch D1.self R.hd ⟨_,O.tup,rfl,0,rfl⟩ rfl rfl ?_
 walk_at " z2 D2"
 refine assignInOrder_cons (assign_Name ?_)
 refine An D2 ?_ (by kernel_rfl) (by kernel_rfl)
 walk_at " z3 D3"
 refine assignInOrder_cons (assign_Name ?_)
 refine An D3 ?_ (by kernel_rfl) (by kernel_rfl)
 walk_at " z4 D4"
 refine assignInOrder_cons (assign_Name ?_)
 refine An D4 ?_ (by kernel_rfl) (by kernel_rfl)
 walk_at " z5 D5"
 have C5:=C1.now D5
 have X5:=X1.kps ((El.refl _).now D5)
 refine assignInOrder_cons (assign_Name ?_)
 refine Ck D5 C5.c1 (Bc (Nat.le_succ_of_le D5.g1)) (Nat.succ_ne_self L) (Nat.le_succ_of_le D5.hL) ?_
 walk_at " z6 D6 hc6 hk6"
 refine assignInOrder_cons (assign_Name ?_)
 refine An D6 ?_ (by kernel_rfl) (by kernel_rfl)
 walk_at " z7 D7"
 refine assignInOrder_nil ?_
 have k6:El z5.heap z6.heap:=λ b o h3 hs e=>hk6 b o (λ q=>by
  obtain⟨oc,e1,d1⟩:=C5.c1
  walk_at "c oc"
  obtain⟨⟨vs,n',e2⟩,_⟩:=hs
  walk_at "c vs n'"
  rw[q,e1] at e;cases e;rw[d1] at e2;cases e2) e
 have X7:=(X5.kps k6).kps ((El.refl _).now D7)
 have C6:LC L z6.heap (some (.int (B0 p) th)) none none none:=⟨hc6,Aq C5.c2 λ o=>hk6 _ o (by simp),Aq C5.c3 λ o=>hk6 _ o (by simp),Aq C5.c4 λ o=>hk6 _ o (by simp)⟩
 have C7:=C6.now D7
 refine k _ z7 p cs ls lw lwd ys th tsg D7.self h9 hp ?_ X7 C7 O.hth
 exact Cz.sub (((((show Cz m [] from λ p hp=>nomatch hp).set "sizes" (.ref ls)).set "words" (.ref lw)).set "widths" (.ref lwd)).set "signs" (.str (As p) tsg)) (λ q hq=>hq)
noncomputable def KpF (h h':Heap):Prop:=∀ b o,@LE.le Nat _ 317 b→(∀ vs,o.data≠.fields vs)→h.get? b=some o→h'.get? b=some o
theorem El.ofF {h h':Heap} (k:KpF h h'):El h h':=λ b o h3 hs e=>k b o h3 (λ vs q=>by obtain⟨⟨_,_,z⟩,_⟩:=hs;rw[z] at q;cases q) e
theorem Jt {h h':Heap} (k:KpF h h') {c:Addr} {v:Option Value} (h3:@LE.le Nat _ 317 c) (x:h.IsCell c v):h'.IsCell c v:=by
 obtain⟨o,e,d⟩:=x
 exact⟨o,k c o h3 (λ vs q=>by rw[d] at q;cases q) e,d⟩
theorem LC.F {L:Addr} {h h':Heap} {vh vr vw vo:Option Value} (C:LC L h vh vr vw vo) (k:KpF h h') (hL:@LE.le Nat _ 317 L):LC L h' vh vr vw vo :=
 ⟨Jt k (Nat.le_trans hL (Nat.le_add_right _ _)) C.c1,Jt k (Nat.le_trans hL (Nat.le_add_right _ _)) C.c2,Jt k (Nat.le_trans hL (Nat.le_add_right _ _)) C.c3,Jt k (Nat.le_trans hL (Nat.le_add_right _ _)) C.c4⟩
theorem lst_F {h h':Heap} (k:KpF h h') {a:Addr} {vs:List Value} {n:Nat} (h3:@LE.le Nat _ 317 a) (e:h.get? a=some (A6 vs n)):h'.get? a=some (A6 vs n):=k _ _ h3 (λ _ q=>by cases q) e
theorem A2.F {P:Params} {h h':Heap} {x d:Addr} {init:Int} {ps:List A0} (k:KpF h h') (q:A2 P h x d init ps):A2 P h' x d init ps :=
 ⟨q.ox.elim λ n e=>⟨n,k _ _ q.x3 (λ _ q=>by cases q) e⟩,q.od.elim λ t qq=>qq.elim λ ti qq=>qq.elim λ e z=>⟨t,ti,k _ _ q.d3 (λ _ q=>by cases q) e,z⟩,λ y hy=>(q.tup y hy).elim λ e z=>⟨k _ _ z.1 (λ _ q=>by cases q) e,z⟩,q.x3,q.d3,q.few⟩
theorem go_tuple:∀ {w:World} {A:Around} {E:VP} {s:Shared} {target:PySem.Expr} {I l:Addr} {i:Nat} {v:Value} {Q:Unit→Shared→Prop} (hit:s.heap.IsTupleIter I l i) (h:Q () s),
  wpAny (MD w) A (letOwnedTupleGo target (.ref I) v) Q E s:=by
 walk_at " w A E s target I l i v Q hit h"
 obtain⟨o,ho,hc,hd⟩:=hit
 walk_at "c o"
 unfold letOwnedTupleGo
 cases target<;>first
  | exact wpAny_pure h
  | (cases v<;>first
    | exact wpAny_pure h
    | (refine wpAny_bind (wpAny_load ho ?_)
       rw[hc,hd]
       dsimp only
       rw[if_neg (by
         walk_at " h"
         rw[show (["enumerate", "zip", "dict_itemiterator", "dict_reverseitemiterator", "odict_iterator", "itertools.zip_longest", "itertools.pairwise"].contains "tuple_iterator")=false from by decide,Bool.false_and] at h
         cases h)]
       exact wpAny_pure h))
section
variable {w:World} {S:List Addr} {s₀:Shared} {L:Addr} {ref:Heap} {m:SV} {news:AO} {s:Shared} {A:Around} {E E':VP} {env:Env}
theorem n_forF {target:PySem.Expr} {body orelse:List Stmt} {I:Addr} {fp:List Addr} {n:Nat} {P:Nat→Value→Prop} {St:Nat→Heap→Prop} {Q:FP}
  (W:Walks PySem.Challenge.pw_wv0051_01 w A I fp [I] n P St) (go:Iy w A target I (λ i h=>St (i+1) h)) (D:Cl w S s₀ L ref m news s) (hst:St 0 s.heap)
  (hI:s₀.heap.get? I=none∧I≠L∧@LE.le Nat _ 317 I) (hf:∀ i h,St i h→∃ o vs,h.get? I=some o∧o.data=.fields vs)
  (Inv:Nat→(SV)→Shared→Prop) (stable:∀ i m z z',KpF z.heap z'.heap→z.toks≤z'.toks→Inv i m z→Inv i m z') (h0:Inv 0 m s)
  (turn:∀ i m' z v,i<n→P i v→Inv i m' z→St (i+1) z.heap→Cl w S s₀ L z.heap m' [] z→wpAny (MD w) A (assign target env v) (λ _ s₂=>wpAny (MD w) A (execs body env) (Ac w S s₀ L fp Inv Q i z) (λ _ _=>False) s₂) (λ _ _=>False) z)
  (done:∀ m' z,Cl w S s₀ L z.heap m' [] z→Inv n m' z→wpAny (MD w) A (execs orelse env) Q (λ _ _=>False) z) :
  codeAny (MD w) A (.forLoop target (.ref I) body orelse env) (λ r s'=>match r with|.ok f=>Q f s'|.error e=>E e s') s:=by
 refine n_forWX W go D hst (λ b hb=>by rw[List.mem_singleton.mp hb];exact hI) Inv (λ i i' m z z' hS hk ht h=>stable i m z z' (λ b o _ h1 e=>hk b o (λ q=>?_) e) ht h) h0 turn done
 obtain⟨oI,vs,hoI,hd⟩:=hf i' _ hS
 rw[List.mem_singleton.mp q,hoI] at e
 cases e
 exact h1 vs hd
theorem Nc {l:Addr} {vs:List Value} {k:Nat} {target:PySem.Expr} {body orelse:List Stmt} {Q:FP} (hh:A.handled=none)
  (D:Cl w S s₀ L ref m news s) (hl:s.heap.get? l=some (A6 vs k)) (hl3:@LE.le Nat _ 317 l)
  (Inv:Nat→(SV)→Shared→Prop) (stable:∀ i m z z',KpF z.heap z'.heap→z.toks≤z'.toks→Inv i m z→Inv i m z') (h0:Inv 0 m s)
  (turn:∀ I i m' z v,vs[i]?=some v→@LE.le Nat _ 317 I→I≠L→s.heap.get? I=none→(∃ o vs,z.heap.get? I=some o∧o.data=.fields vs)→z.heap.get? l=some (A6 vs k)→Inv i m' z→Cl w S s₀ L z.heap m' [] z→wpAny (MD w) A (assign target env v) (λ _ s₂=>wpAny (MD w) A (execs body env) (Ac w S s₀ L [I,l] Inv Q i z) (λ _ _=>False) s₂) (λ _ _=>False) z)
  (done:∀ m' z,Cl w S s₀ L z.heap m' [] z→Inv vs.length m' z→wpAny (MD w) A (execs orelse env) Q (λ _ _=>False) z) :
  wpAny (MD w) A (pyIter (.ref l)) (λ it s₂=>codeAny (MD w) A (.forLoop target it body orelse env) (λ r s'=>match r with|.ok f=>Q f s'|.error e=>E' e s') s₂) E s:=by
 have hlI:l≠s.heap.objs.size:=Nat.ne_of_lt (Heap.lt_size hl)
 refine wpAny_pyIter_list (Al hl) ?_
 have D1:=D.rebase.push {cls:=.type "list_iterator", data:=.fields #[.ref l,.int 0 0]} rfl
 have hI0:s₀.heap.get? s.heap.objs.size=none:=Bc D.st.size
 have hIL:s.heap.objs.size≠L:=Nat.ne_of_gt D.ns.lt
 have hI3:@LE.le Nat _ 317 s.heap.objs.size:=D.good.vol.c
 have hsz:vs.toArray.size=vs.length:=by simp
 refine n_forF (Walks.list hh s.heap.objs.size l hlI vs.toArray) (λ i v s Q E st h=>J7 st.1 h) D1 ⟨⟨_,D1.at 0 rfl,rfl,rfl⟩,(Al hl).push _⟩ ⟨hI0,hIL,hI3⟩ (λ i h st=>?_) (λ i m z=>Inv i m z∧z.heap.get? l=some (A6 vs k)) ?_ ⟨?_,?_⟩ ?_ ?_
 ·obtain⟨oI,hoI,_,hd⟩:=st.1
  exact⟨oI,_,hoI,hd⟩
 ·rintro i m z z' hk ht ⟨h1,h2⟩
  exact⟨stable i m z z' hk ht h1,lst_F hk hl3 h2⟩
 ·exact stable 0 m s _ (λ b o _ _ e=>Heap.get?_push_of_some _ e) (Nat.le_refl _) h0
 ·exact Heap.get?_push_of_some _ hl
 ·rintro i m' z v hi hP ⟨hI,hlz⟩ hst Dz
  obtain⟨oI,hoI,_,hd⟩:=hst.1
  refine wpAny_mono (turn _ i m' z v (by simpa using hP) hI3 hIL (Bc (Nat.le_refl _)) ⟨_,_,hoI,hd⟩ hlz hI Dz) (λ _ s₂ h₂=>wpAny_mono h₂ (λ f s₃ h₃=>?_) λ _ _ e=>e) λ _ _ e=>e
  cases f with
  | next=>obtain⟨m'',r'',n'',D3,hI3,hf⟩:=h₃;exact⟨m'',r'',n'',D3,⟨hI3,hf l (.tail _ (.head _)) _ hlz⟩,hf⟩
  | cont=>obtain⟨m'',r'',n'',D3,hI3,hf⟩:=h₃;exact⟨m'',r'',n'',D3,⟨hI3,hf l (.tail _ (.head _)) _ hlz⟩,hf⟩
  | brk=>exact h₃
  | ret v=>exact h₃
 ·rintro m' z Dz ⟨hI,_⟩
  rw[hsz] at hI
  exact done m' z Dz hI
theorem Rf {l:Addr} {vs:List Value} {target:PySem.Expr} {body orelse:List Stmt} {Q:FP} (hh:A.handled=none)
  (D:Cl w S s₀ L ref m news s) (hl:s.heap.get? l=some {cls:=.type "tuple", data:=.seq vs.toArray})
  (Inv:Nat→(SV)→Shared→Prop) (stable:∀ i m z z',KpF z.heap z'.heap→z.toks≤z'.toks→Inv i m z→Inv i m z') (h0:Inv 0 m s)
  (turn:∀ I i m' z v,vs[i]?=some v→@LE.le Nat _ 317 I→I≠L→s.heap.get? I=none→(∃ o vs,z.heap.get? I=some o∧o.data=.fields vs)→Inv i m' z→Cl w S s₀ L z.heap m' [] z→wpAny (MD w) A (assign target env v) (λ _ s₂=>wpAny (MD w) A (execs body env) (Ac w S s₀ L [I,l] Inv Q i z) (λ _ _=>False) s₂) (λ _ _=>False) z)
  (done:∀ m' z,Cl w S s₀ L z.heap m' [] z→Inv vs.length m' z→wpAny (MD w) A (execs orelse env) Q (λ _ _=>False) z) :
  wpAny (MD w) A (pyIter (.ref l)) (λ it s₂=>codeAny (MD w) A (.forLoop target it body orelse env) (λ r s'=>match r with|.ok f=>Q f s'|.error e=>E' e s') s₂) E s:=by
 have hlI:l≠s.heap.objs.size:=Nat.ne_of_lt (Heap.lt_size hl)
 have hT:s.heap.IsTuple l vs.toArray:=⟨_,hl,rfl,0,rfl⟩
 refine wpAny_pyIter_tuple hT ?_
 have D1:=D.rebase.push {cls:=.type "tuple_iterator", data:=.fields #[.ref l,.int 0 0]} rfl
 have hI0:s₀.heap.get? s.heap.objs.size=none:=Bc D.st.size
 have hIL:s.heap.objs.size≠L:=Nat.ne_of_gt D.ns.lt
 have hI3:@LE.le Nat _ 317 s.heap.objs.size:=D.good.vol.c
 have hsz:vs.toArray.size=vs.length:=by simp
 refine n_forF (Walks.tuple hh s.heap.objs.size l hlI vs.toArray) (λ i v s Q E st h=>go_tuple st.1 h) D1 ⟨⟨_,D1.at 0 rfl,rfl,rfl⟩,hT.push _⟩ ⟨hI0,hIL,hI3⟩ (λ i h st=>?_) Inv stable ?_ ?_ ?_
 ·obtain⟨oI,hoI,_,hd⟩:=st.1
  exact⟨oI,_,hoI,hd⟩
 ·exact stable 0 m s _ (λ b o _ _ e=>Heap.get?_push_of_some _ e) (Nat.le_refl _) h0
 ·rintro i m' z v hi hP hI hst Dz
  obtain⟨oI,hoI,_,hd⟩:=hst.1
  exact turn _ i m' z v (by simpa using hP) hI3 hIL (Bc (Nat.le_refl _)) ⟨_,_,hoI,hd⟩ hI Dz
 ·rintro m' z Dz hI
  rw[hsz] at hI
  exact done m' z Dz hI
end
noncomputable def Fw (ys:List A0):List Int:=ys.map λ y=>-((y.b.length:Int)+(y.p.length:Int))
noncomputable def Jr (ks:List Int) (is:List Nat) (i:Nat):Nat:=Fb (λ x=>decide (x≤ks.getD i 0)) (is.map λ j=>ks.getD j 0)
noncomputable def Mc (ks:List Int) (is:List Nat) (i:Nat):List Nat:=is.take (Jr ks is i)++i::is.drop (Jr ks is i)
theorem insQ_le (ks:List Int) (is:List Nat) (i:Nat):Jr ks is i≤is.length:=Nat.le_trans (J9 _ _) (by rw[List.length_map];exact Nat.le_refl _)
theorem sr_le {ks:List Int} {a b:Nat} (h:SR (ltz ks) a b):ks.getD a 0≤ks.getD b 0:=by
 have:=h.not (I7 ks)
 unfold ltz at this
 have:=of_decide_eq_false this
 lia
theorem insQ_lt {ks:List Int} {is:List Nat} {i j:Nat} {a:Nat} (h:j<Jr ks is i) (e:is[j]?=some a):ks.getD a 0≤ks.getD i 0 :=
 of_decide_eq_true (Ja _ j _ h (by rw[List.getElem?_map,e];rfl))
theorem insQ_ge {ks:List Int} {is:List Nat} {i j:Nat} {a:Nat} (hs:is.Pairwise (SR (ltz ks))) (h:Jr ks is i≤j) (e:is[j]?=some a):ks.getD i 0<ks.getD a 0:=by
 have:=of_decide_eq_false (Li (f:=λ x=>decide (x≤ks.getD i 0)) (λ a b h1 h2=>by have:=of_decide_eq_true h2;exact decide_eq_true (by lia)) _ (List.pairwise_map.mpr (hs.imp λ h=>sr_le h)) j _ h (by rw[List.getElem?_map,e];rfl))
 exact Int.lt_of_not_ge this
theorem insI_perm (ks:List Int) (is:List Nat) (i:Nat):(Mc ks is i).Perm (i::is):=by
 unfold Mc
 exact List.perm_middle.trans (by rw[List.take_append_drop])
theorem insI_ok:∀ {ks:List Int} {is:List Nat} {i:Nat} (hp:is.Perm (List.range i)) (hs:is.Pairwise (SR (ltz ks))),
  (Mc ks is i).Perm (List.range (i+1))∧(Mc ks is i).Pairwise (SR (ltz ks)):=by
 walk_at " ks is i hp hs"
 have hlt:∀ a∈is,a<i:=λ a ha=>List.mem_range.mp (hp.mem_iff.mp ha)
 constructor
 ·rw[List.range_succ]
  exact (insI_perm ks is i).trans ((hp.cons i).trans (List.perm_append_comm (l₁:=[i])))
 ·unfold Mc
  refine List.pairwise_append.mpr ⟨hs.sublist (List.take_sublist _ _),List.pairwise_cons.mpr ⟨?_,hs.sublist (List.drop_sublist _ _)⟩,?_⟩
  ·walk_at " b hb"
   obtain⟨j,hj⟩:=List.mem_iff_getElem?.mp hb
   walk_at "c j"
   rw[List.getElem?_drop] at hj
   exact .inl (decide_eq_true (insQ_ge hs (Nat.le_add_right _ _) hj))
  ·walk_at " a ha b hb"
   have hsplit:=hs
   rw[← List.take_append_drop (Jr ks is i) is] at hsplit
   rcases List.mem_cons.mp hb with rfl|hb
   ·obtain⟨j,hj⟩:=List.mem_iff_getElem?.mp ha
    walk_at "c j"
    have hjl:j<(is.take (Jr ks is b)).length:=(List.getElem?_eq_some_iff.mp hj).1
    rw[List.length_take] at hjl
    rw[List.getElem?_take] at hj
    split at hj
    ·have:=insQ_lt (ks:=ks) (i:=b) (by assumption) hj
     refine .inr ⟨decide_eq_false (by lia),hlt a (List.mem_of_mem_take ha)⟩
    ·cases hj
   ·exact (List.pairwise_append.mp hsplit).2.2 a ha b hb
theorem sr_uniq {lt:Nat→Nat→Bool} (h:Gh lt) {a b:List Nat} (p:a.Perm b) (ha:a.Pairwise (SR lt)) (hb:b.Pairwise (SR lt)):a=b :=
 p.eq_of_pairwise (λ x y _ _ h1 h2=>by
  rcases h1 with h1|⟨h1,h1'⟩<;>rcases h2 with h2|⟨h2,h2'⟩
  ·have:=h.asym _ _ h1;rw[h2] at this;cases this
  ·rw[h1] at h2;cases h2
  ·rw[h2] at h1;cases h1
  ·lia) ha hb
noncomputable def En (ys:List A0):List Nat:=srt (ltz (Fw ys)) ys.length
theorem fall_of {ys:List A0} {is:List Nat} (h2:2≤ys.length) (hp:is.Perm (List.range ys.length)) (hs:is.Pairwise (SR (ltz (Fw ys)))):is=En ys:=by
 obtain⟨h1,h3,_⟩:=Hh (I7 (Fw ys)) h2
 exact sr_uniq (I7 (Fw ys)) (hp.trans h1.symm) hs h3
theorem C9 {ys:List A0} (h2:2≤ys.length):(En ys).Perm (List.range ys.length):=(Hh (I7 (Fw ys)) h2).1
noncomputable def Ex (ys:List A0) (is:List Nat):List A0:=is.filterMap λ i=>ys[i]?
theorem Qm {ys:List A0} {is:List Nat} (h:∀ i∈is,i<ys.length) (j i:Nat) (e:is[j]?=some i):(Ex ys is)[j]?=ys[i]?:=by
 induction is generalizing j with
 | nil=>simp at e
 | cons a r ih =>
  have ha:=h a (.head _)
  unfold Ex
  rw[List.filterMap_cons,List.getElem?_eq_getElem ha]
  cases j with
  | zero=>cases e;rw[List.getElem?_eq_getElem ha];rfl
  | succ j=>exact ih (λ i hi=>h i (.tail _ hi)) j e
theorem Qn {ys:List A0} {is:List Nat} (h:∀ i∈is,i<ys.length):(Ex ys is).length=is.length:=by
 induction is with
 | nil=>rfl
 | cons a r ih =>
  unfold Ex
  rw[List.filterMap_cons,List.getElem?_eq_getElem (h a (.head _))]
  exact congrArg (·+1) (ih λ i hi=>h i (.tail _ hi))
theorem Sw (ys:List A0):Ex ys (List.range ys.length)=ys:=by
 have hr:∀ i∈List.range ys.length,i<ys.length:=λ i hi=>List.mem_range.mp hi
 refine List.ext_getElem? λ j=>?_
 by_cases h:j<ys.length
 ·exact Qm hr j j (by rw[List.getElem?_range h])
 ·have hl:(Ex ys (List.range ys.length)).length=ys.length:=(Qn hr).trans List.length_range
  rw[List.getElem?_eq_none (Nat.le_of_not_lt h),List.getElem?_eq_none (by rw[hl];exact Nat.le_of_not_lt h)]
theorem Hu {ys:List A0} {is:List Nat} (h:is.Perm (List.range ys.length)):(Ex ys is).Perm ys:=by
 have:=h.filterMap λ i=>ys[i]?
 rwa[show (List.range ys.length).filterMap (λ i=>ys[i]?)=ys from Sw ys] at this
noncomputable abbrev LN0 (p:Int) (ls lw lwd:Addr) (tsg:Tok):List (Str×Value):=[("signs", .str (As p) tsg),("widths", .ref lwd),("words", .ref lw),("sizes", .ref ls)]
noncomputable abbrev LN1 (p:Int) (ls lw lwd lf:Addr) (tsg:Tok):List (Str×Value):=("falling", .ref lf)::LN0 p ls lw lwd tsg
theorem keys_at {w:World} {h:Heap} {ys:List A0} (hp:∀ y∈ys,Ar h y) {is:List Nat} (hr:∀ i∈is,i<ys.length):∀ (j:Nat) (v:Value),(Ee ys is)[j]?=some v→Eu w 296 h v ((is.map λ i=>(Fw ys).getD i 0).getD j 0):=by
 intro j v hv
 unfold Ee at hv
 rw[List.getElem?_map] at hv
 obtain⟨i,hi,rfl⟩:=Option.map_eq_some_iff.mp hv
 have hlt:=hr i (List.mem_of_getElem? hi)
 have e1:(ys.map λ y=>Value.ref y.a).getD i Value.none=.ref (ys[i]).a:=by simp[List.getD,hlt]
 have e2:(is.map λ i=>(Fw ys).getD i 0).getD j 0=-(((ys[i]).b.length:Int)+((ys[i]).p.length:Int)):=by
  rw[List.getD_eq_getElem?_getD,List.getElem?_map,hi]
  simp[Fw,List.getD,hlt]
 show Eu w 296 h ((ys.map λ y=>Value.ref y.a).getD i Value.none) _
 rw[e1,e2]
 exact Oo w (hp _ (List.getElem_mem hlt))
theorem law2:∀ (w:World) {A:Around} {s z:Shared} {L ls lw lwd:Addr} {m:SV} {p:Int} {cs:List Int} {ys:List A0} {th tsg:Tok} (R:A3 (A.deeper (cfenv E4 316 L)) 30) (D:Cl w [] s L z.heap m [] z) (H:Cz m (LN0 p ls lw lwd tsg)) (X:Gr p cs ls lw lwd ys z.heap) (C:LC L z.heap (some (.int (B0 p) th)) none none none) {Q:FP} (k:∀ m' z' lf n,Cl w [] s L z'.heap m' [] z'→Cz m' (LN1 p ls lw lwd lf tsg)→Gr p cs ls lw lwd ys z'.heap→LC L z'.heap (some (.int (B0 p) th)) none none none →
   @LE.le Nat _ 317 lf→s.heap.get? lf=none→z'.heap.get? lf=some (A6 (Ee ys (En ys)) n)→wpAny (MD w) (A.deeper (cfenv E4 316 L)) (execs (Bb.drop 3) (cfenv E4 316 L)) Q (λ _ _=>False) z'),
  wpAny (MD w) (A.deeper (cfenv E4 316 L)) (execs (Bb.drop 1) (cfenv E4 316 L)) Q (λ _ _=>False) z:=by
 walk_at " w A s z L ls lw lwd m p cs ys th tsg R D H X C Q k"
 refine wpAny_execs_cons ?_
 refine wpAny_Assign_Name ?_ (by kernel_rfl)
 refine Gv ?_
 refine spliced_none ?_
 refine C8 D ?_ (Nat.zero_le _)
 walk_at " z1 lf D1 lf3 lf0 lfz"
 refine An D1 ?_ (by kernel_rfl) (by kernel_rfl)
 walk_at " z2 D2"
 have hlf2:z2.heap.get? lf=some (A6 [] 0):=D2.at 0 rfl
 have hlfL:lf≠L:=(D2.nw _ (.head _)).2.1
 have K2:El z.heap z2.heap:=(El.refl _).now D2
 have C2:=C.now D2
 have H2:=H.set "falling" (.ref lf)
 refine wpAny_execs_cons ?_
 refine wpAny_For ?_
 refine Ai D2 (H2.at 3 rfl) ?_
 obtain⟨nw,hlw⟩:=(X.kps K2).wrd
 walk_at "c nw"
 refine Nc R.hd D2 hlw X.w3 (λ i m' z'=>Cz m' (LN1 p ls lw lwd lf tsg)∧El z.heap z'.heap∧LC L z'.heap (some (.int (B0 p) th)) none none none∧∃ is n,z'.heap.get? lf=some (A6 (Ee ys is) n)∧is.Perm (List.range i)∧is.Pairwise (SR (ltz (Fw ys)))) ?_ ?_ ?_ ?_
 ·rintro i m z' z'' hk ht ⟨h1,h2,h3,is,n,h4,h5⟩
  walk_at "c i m z' z'' hk ht h1 h2 h3 is n"
  exact⟨h1,h2.trans (El.ofF hk),h3.F hk D.hL,is,n,lst_F hk lf3 h4,h5⟩
 ·exact⟨H2.sub (λ q hq=>hq),K2,C2,[],0,hlf2,.refl _,.nil⟩
 ·rintro I i m' z' v hv hI3 hIL hI0 hIo hlwz ⟨Hi,Ki,Ci,is,n,hlfz,hperm,hord⟩ Dz
  walk_at "c I i m' z' v hv hI3 hIL hI0 hIo hlwz Hi Ki Ci is n"
  rw[List.getElem?_map] at hv
  obtain⟨y,hy,rfl⟩:=Option.map_eq_some_iff.mp hv
  walk_at "c y"
  have hi:i<ys.length:=(List.getElem?_eq_some_iff.mp hy).1
  refine assign_Name ?_
  refine An Dz ?_ (by kernel_rfl) (by kernel_rfl)
  walk_at " z3 D3"
  have H3:=Hi.set "word" (.ref y.a)
  have C3:=Ci.now D3
  have K3:=Ki.now D3
  have X3:=X.kps K3
  have hlf3:=D3.old hlfz lf3 hlfL
  refine wpAny_execs_cons ?_
  refine wpAny_If ?_
  walk_at "s3"
  refine Am ?_
  walk_at "g 225"
  refine Co (spliced_more ?_)
  refine Am ?_
  walk_at "g 30"
  refine cwk (spliced_more ?_)
  refine Ai D3 (H3.at 1 rfl) ?_
  walk_at "s3"
  walk_at "g 296"
  have hrng:∀ j∈is,j<ys.length:=λ j hj=>Nat.lt_trans (List.mem_range.mp (hperm.mem_iff.mp hj)) hi
  have hlen:(Ee ys is).length≤900:=by
   have:=hperm.length_eq
   rw[List.length_range] at this
   have:=X.eight
   unfold Ee
   rw[List.length_map];lia
  have hkey:Eu w 296 z3.heap (.ref y.a) ((Fw ys).getD i 0):=by
   have e:(Fw ys).getD i 0=-((y.b.length:Int)+(y.p.length:Int)):=by simp[Fw,List.getD,hy]
   rw[e];exact Oo w (X3.pcs y (List.mem_of_getElem? hy))
  have hqle:Jr (Fw ys) is i≤(Ee ys is).length:=by unfold Ee;rw[List.length_map];exact insQ_le _ _ _
  have kd:∀ j,j<is.length→(is.map λ i=>(Fw ys).getD i 0).getD j 0=(Fw ys).getD (is.getD j 0) 0:=λ j hj=>by simp[List.getD,hj]
  have ie:∀ j,j<is.length→is[j]?=some (is.getD j 0):=λ j hj=>by simp[List.getD,hj]
  refine⟨Cr D3.k (by kernel_rfl),wpAny_mono (Og w (v:=.ref y.a) (k:=(Fw ys).getD i 0) (ks:=λ j=>(is.map λ i=>(Fw ys).getD i 0).getD j 0) (p:=Jr (Fw ys) is i) D3.good (R.mono (by decide)) hlf3 lf3 hlen (by kernel_rfl) hkey (keys_at X3.pcs hrng) hqle ?_ ?_) ?_ λ _ _ e=>e.elim⟩
  ·walk_at " j hj"
   have hj':j<is.length:=Nat.lt_of_lt_of_le hj (insQ_le _ _ _)
   show (is.map λ i=>(Fw ys).getD i 0).getD j 0≤_
   rw[kd j hj']
   exact insQ_lt hj (ie j hj')
  ·walk_at " j hj hlt"
   have hj':j<is.length:=by unfold Ee at hlt;rwa[List.length_map] at hlt
   show _<(is.map λ i=>(Fw ys).getD i 0).getD j 0
   rw[kd j hj']
   exact insQ_ge hord hj (ie j hj')
  walk_at " r z4 q"
  obtain⟨rfl,st4,n4,hlf4⟩:=q
  walk_at "c n4"
  have D4:=D3.step st4 (λ q hq=>by rw[List.mem_singleton.mp hq];exact⟨.inr lf0,hlfL,lf3⟩)
  have C4:=C3.step D3 st4 (λ x hx v=>by rw[List.mem_singleton.mp hx];exact Ql hlf3 v)
  have K4:=K3.step st4 (λ x hx=>by rw[List.mem_singleton.mp hx];exact lfz)
  walk_at "s3"
  refine⟨Cr D4.k (by kernel_rfl),wpAny_mono (Mm w D4.good (R.mono (by decide))) ?_ λ _ _ e=>e.elim⟩
  walk_at " r z5 q"
  obtain⟨rfl,st5⟩:=q
  have D5:=D4.step0 st5
  have C5:=C4.step D4 st5 (λ x hx=>nomatch hx)
  have K5:=K4.step st5 (λ x hx=>nomatch hx)
  refine wpAny_truthy_bool ?_
  refine Be (by decide) ?_
  refine wpAny_execs_nil ?_
  refine wpAny_execs_nil ?_
  have hlf5:z5.heap.get? lf=some (A6 (Ee ys (Mc (Fw ys) is i)) n4):=by
   rw[st5.get lf3 (λ h=>nomatch h) hlf4]
   unfold Mc Ee
   rw[List.map_append,List.map_cons,List.map_take,List.map_drop]
   have e:(ys.map λ y=>Value.ref y.a).getD i Value.none=.ref y.a:=by simp[List.getD,hy]
   rw[e]
  have kp:∀ b o,@LE.le Nat _ 317 b→b≠L→b≠lf→z'.heap.get? b=some o→z5.heap.get? b=some o:=λ b o h3 h1 h2 e =>
   st5.get h3 (λ h=>nomatch h) (st4.get h3 (λ q=>h2 (List.mem_singleton.mp q)) (D3.old e h3 h1))
  refine⟨_,_,_,D5,⟨H3.sub (λ q hq=>.tail _ hq),K5,C5,_,n4,hlf5,(insI_ok hperm hord)⟩,?_⟩
  walk_at " b hb o e"
  rcases List.mem_cons.mp hb with rfl|hb
  ·refine kp _ _ hI3 hIL ?_ e
   walk_at " q"
   rw[← q] at hlfz
   obtain⟨oI,vsI,eI,dI⟩:=hIo
   walk_at "c oI vsI"
   rw[hlfz] at eI;cases eI;cases dI
  ·rw[List.mem_singleton.mp hb] at e ⊢
   refine kp _ _ X.w3 ?_ ?_ e
   ·obtain⟨nw',hw'⟩:=X.wrd
    walk_at "c nw'"
    exact D.neSeq hw' (λ _ _ h=>by cases h)
   ·walk_at " q"
    obtain⟨nw',hw'⟩:=X.wrd
    walk_at "c nw'"
    rw[q,lfz] at hw';cases hw'
 ·rintro m' z' Dz ⟨Hi,Ki,Ci,is,n,hlfz,hperm,hord⟩
  walk_at "c m' z' Dz Hi Ki Ci is n"
  refine wpAny_execs_nil ?_
  rw[List.length_map] at hperm
  refine k m' z' lf n Dz Hi (X.kps Ki) Ci lf3 lf0 ?_
  rw[hlfz,fall_of (by rw[X.eight];decide) hperm hord]
noncomputable def qData (qs:LS):PyData:=.list (qs.map λ q=>.tuple [.str q.1,.str q.2])
noncomputable def okQ (q:Str×Str):Prop:=PyData.canLay0 (.str q.1)=true∧PyData.canLay0 (.str q.2)=true
theorem Ot {h:Heap}:∀ {ys:List A0},(∀ y∈ys,Ar h y)→∃ as,ReadsAll h (ys.map λ y=>Value.ref y.a) ((Eb ys).map λ q=>.tuple [.str q.1,.str q.2]) as
 | [],_=>⟨[],.nil⟩
 | y::r,H=>by
  obtain⟨as,ih⟩:=Ot (ys:=r) λ z hz=>H z (.tail _ hz)
  have t:ReadsAll h [Value.str y.b y.tb,Value.str y.p y.tp] [.str y.b,.str y.p] ([]++([]++[])):=.cons (.str _ _) (.cons (.str _ _) .nil)
  exact⟨_,.cons (.tuple (H y (.head _)).1 rfl rfl t) ih⟩
theorem L2 {h:Heap} {ys:List A0} {a:Addr} {n:Nat} (H:∀ y∈ys,Ar h y) (e:h.get? a=some (A6 (ys.map λ y=>Value.ref y.a) n)):∃ as,Reads h (.ref a) (qData (Eb ys)) as:=by
 obtain⟨as,ih⟩:=Ot H
 exact⟨_,.list e rfl rfl (by simpa using ih)⟩
theorem shaped_q {qs:LS} (H:∀ q∈qs,okQ q):SeqAt.shaped (qData qs)=true:=by
 have h1:∀ qs:LS,(∀ q∈qs,okQ q)→PyData.canLayAll0 (qs.map λ q=>.tuple [.str q.1,.str q.2])=true∧PyData.depthAll (qs.map λ q=>.tuple [.str q.1,.str q.2])≤1:=by
  intro qs
  induction qs with
  | nil=>intro _;exact⟨rfl,Nat.zero_le _⟩
  | cons q r ih =>
   intro H
   obtain⟨i1,i2⟩:=ih λ z hz=>H z (.tail _ hz)
   obtain⟨c1,c2⟩:=H q (.head _)
   constructor
   ·show (((PyData.canLay0 (.str q.1)) && ((PyData.canLay0 (.str q.2)) && true)) && PyData.canLayAll0 _)=true
    rw[c1,c2,i1];rfl
   ·show max (max 0 (max 0 0)+1) _≤1
    simp_all
 obtain⟨a,b⟩:=h1 qs H
 unfold SeqAt.shaped qData
 have:PyData.canLay0 (PyData.list (qs.map λ q=>.tuple [.str q.1,.str q.2]))=true:=a
 rw[this]
 have:PyData.depth (PyData.list (qs.map λ q=>.tuple [.str q.1,.str q.2]))≤2:=Nat.succ_le_succ b
 simp;exact Nat.lt_of_le_of_lt (by assumption) (by decide)
theorem Nd {w:World} {A:Around} {E:VP} {s:Shared} {Q:VP} {ys zs:List A0} {a b:Addr} {n k:Nat} (hy:∀ y∈ys,Ar s.heap y) (hz:∀ y∈zs,Ar s.heap y) (ea:s.heap.get? a=some (A6 (ys.map λ y=>Value.ref y.a) n)) (eb:s.heap.get? b=some (A6 (zs.map λ y=>Value.ref y.a) k))
  (hq:Eb ys=Eb zs) (ho:∀ q∈Eb ys,okQ q) (hu:A.units+64<cLine) (h:Q (.bool false) s):wpAny (MD w) A (compareOp .NotEq (.ref a) (.ref b)) Q E s:=by
 obtain⟨as,ra⟩:=L2 hy ea
 obtain⟨bs,rb⟩:=L2 hz eb
 rw[← hq] at rb
 have hs:=shaped_q ho
 refine ne_dataH ra rb hs hs hu ?_
 rw[SeqAt.eqv_refl _ (SeqAt.canLay_of_shaped hs)]
 exact h
theorem Fg {ys:List A0} {is:List Nat} (hr:∀ i∈is,i<ys.length):Ee ys is=(Ex ys is).map λ y=>Value.ref y.a:=by
 refine List.ext_getElem? λ j=>?_
 unfold Ee
 rw[List.getElem?_map,List.getElem?_map]
 cases hj:is[j]? with
 | none =>
  rw[List.getElem?_eq_none_iff.mpr (by rw[Qn hr];exact List.getElem?_eq_none_iff.mp hj)];rfl
 | some i =>
  have hi:=hr i (List.mem_of_getElem? hj)
  rw[Qm hr j i hj,List.getElem?_eq_getElem hi]
  simp[List.getD,hi]
theorem Ox (c n:Nat) (hc:c<0x110000):PyData.strOk (Fc c n)=true:=by
 unfold PyData.strOk Fc
 rw[Array.all_eq_true']
 intro x hx
 have:=(List.mem_replicate.mp (by simpa using hx)).2
 rw[this];simpa using hc
theorem strOk_app {x y:Str} (hx:PyData.strOk x=true) (hy:PyData.strOk y=true):PyData.strOk (x++y)=true:=by
 unfold PyData.strOk at *
 show Array.all (x.cps++y.cps) _=true
 rw[Array.all_append,hx,hy];rfl
theorem okQ_word (p c:Int) {k:Nat} (hk:k<8):okQ (Fd p c k) :=
 ⟨Ox _ _ (by decide),strOk_app (Ox _ _ (Nat.lt_of_lt_of_le (Nat.add_lt_add_left hk 97) (by decide))) (by decide +kernel)⟩
theorem Gr.okQs {p:Int} {cs:List Int} {ls lw lwd:Addr} {ys:List A0} {h:Heap} (X:Gr p cs ls lw lwd ys h):∀ q∈Eb ys,okQ q:=λ q hq=>by
 obtain⟨y,hy,rfl⟩:=List.mem_map.mp hq
 obtain⟨j,hj⟩:=List.mem_iff_getElem?.mp hy
 rw[(X.words j y hj).2]
 exact okQ_word _ _ (by rw[← X.eight];exact (List.getElem?_eq_some_iff.mp hj).1)
theorem qs_pick (ys:List A0) (is:List Nat):Eb (Ex ys is)=is.filterMap λ i=>(Eb ys)[i]?:=by
 unfold Eb Ex
 rw[List.map_filterMap]
 congr 1
 funext i
 rw[List.getElem?_map]
theorem law3:∀ (w:World) {A:Around} {s z:Shared} {L ls lw lwd lf:Addr} {n:Nat} {m:SV} {p:Int} {cs:List Int} {ys:List A0} {th tsg:Tok} (R:A3 (A.deeper (cfenv E4 316 L)) 30) (h313:s.heap.get? 313=some (tabObj #[])) (D:Cl w [] s L z.heap m [] z) (H:Cz m (LN1 p ls lw lwd lf tsg)) (X:Gr p cs ls lw lwd ys z.heap) (C:LC L z.heap (some (.int (B0 p) th)) none none none) (lf3:@LE.le Nat _ 317 lf) (hlf:z.heap.get? lf=some (A6 (Ee ys (En ys)) n)) {Q:FP} (k:∀ z' s',Grown s s'→Cl w [] s' L z'.heap m [] z'→Gr p cs ls lw lwd ys z'.heap→LC L z'.heap (some (.int (B0 p) th)) none none none →
   z'.heap.get? lf=some (A6 (Ee ys (En ys)) n)→wpAny (MD w) (A.deeper (cfenv E4 316 L)) (execs (Bb.drop 4) (cfenv E4 316 L)) Q (λ _ _=>False) z'),
  wpAny (MD w) (A.deeper (cfenv E4 316 L)) (execs (Bb.drop 3) (cfenv E4 316 L)) Q (λ _ _=>False) z:=by
 walk_at " w A s z L ls lw lwd lf n m p cs ys th tsg R h313 D H X C lf3 hlf Q k"
 have hz313:z.heap.get? 313=some (tabObj #[]):=D.st.keep _ _ (λ h=>nomatch h) (by decide) (by decide) h313
 refine wpAny_execs_cons ?_
 refine wpAny_If ?_
 refine wpAny_isTrue_Compare1 ?_ (by kernel_rfl)
 refine Ai D (H.at 0 rfl) ?_
 refine Am ?_
 walk_at "b sorted"
 refine cwk (spliced_more ?_)
 refine Ai D (H.at 3 rfl) ?_
 refine spliced_none ?_
 refine Eq.mpr (congrArg (λ e=>wpAny _ _ (eval e _) _ _ _) (?h:_=Kv)) ?_
 case h=>kernel_rfl
 refine n_lambda D hz313 ?_
 walk_at " z1 f D1 hl hf0 hk1 h13"
 have kp1:El z.heap z1.heap:=λ b o h3 _ e=>hk1 b o (λ q=>by rw[q] at h3;exact absurd h3 (by decide)) e
 have X1:=X.kps kp1
 have C1:=C.keep (h':=z1.heap) (λ b o h1 _ e=>hk1 b o (λ q=>absurd (Nat.le_trans D.hL (Nat.le_of_lt h1)) (by rw[q];decide)) e)
 have hlf1:=Fq kp1 lf3 hlf
 obtain⟨nw,hlw1⟩:=X1.wrd
 walk_at "c nw"
 have e1:(ys.map λ y=>(Value.ref y.a,-((y.b.length:Int)+(y.p.length:Int)))).map Prod.fst=ys.map λ y=>Value.ref y.a:=by rw[List.map_map];rfl
 have e2:(ys.map λ y=>(Value.ref y.a,-((y.b.length:Int)+(y.p.length:Int)))).map Prod.snd=Fw ys:=by rw[List.map_map];rfl
 have e3:(ys.map λ y=>(Value.ref y.a,-((y.b.length:Int)+(y.p.length:Int)))).length=ys.length:=List.length_map _
 have R':=R
 refine⟨Bh,n_sortedK (vz:=ys.map λ y=>(Value.ref y.a,-((y.b.length:Int)+(y.p.length:Int)))) (l:=lw) (fa:=f) (n:=nw) D1 (R.mono (by decide)) (λ q hq=>by rw[List.mem_singleton.mp hq];decide) (by rw[e1];exact hlw1) (by rw[e3,X.eight];decide) (by rw[e3,X.eight];decide) ?_ ?_⟩
 ·walk_at " q hq"
  obtain⟨y,hy,rfl⟩:=List.mem_map.mp hq
  walk_at "c y"
  have hyz:=X1.pcs y hy
  have hyL:y.a≠L:=Ed D1.ns hyz.1 λ _ _=>nofun
  obtain⟨c',f1,⟨c2,oc,vs,t,f2,f3,f4,f5⟩,f6,f7⟩:=hl.o
  walk_at "c c' f1 c2 oc vs t"
  cases f2
  have hfL:f≠L:=Ed D1.ns f1 λ _ _=>nofun
  have hcL:c'≠L:=Ed D1.ns f3 λ _ _ e=>by rw[f4] at e;cases e
  have ho:∀ {b:Addr},b≠L→(hide z1.heap [L]).get? b=z1.heap.get? b:=λ h=>Gm λ q=>h (List.mem_singleton.mp q)
  exact key_lam w ⟨c',(ho hfL).trans f1,⟨c',oc,vs,t,rfl,(ho hcL).trans f3,f4,f5⟩,f6,f7⟩ ⟨(ho hyL).trans hyz.1,hyz.2⟩
 ·walk_at " z2 a e D2 ha0"
  have hlfL:lf≠L:=Ed D1.ns hlf1 λ _ _=>nofun
  have hlf2:=D2.old hlf1 lf3 hlfL
  have ha2:z2.heap.get? a=some (A6 (Ee ys (En ys)) e):=by
   have:=D2.at 0 rfl
   rw[e1,e2,e3] at this
   exact this
  have K2:El z1.heap z2.heap:=(El.refl _).now D2
  have X2:=X1.kps K2
  have hrng:∀ i∈En ys,i<ys.length:=λ i hi=>List.mem_range.mp ((C9 (by rw[X.eight];decide)).mem_iff.mp hi)
  have hpp:(Ex ys (En ys)).Perm ys:=Hu (C9 (by rw[X.eight];decide))
  have hpz:∀ y∈Ex ys (En ys),Ar z2.heap y:=λ y hy=>X2.pcs y (hpp.mem_iff.mp hy)
  rw[Fg hrng] at ha2
  have hlf2':=hlf2
  rw[Fg hrng] at hlf2'
  refine Nd hpz hpz hlf2' ha2 rfl (λ q hq=>X.okQs q ((hpp.map _).mem_iff.mp hq)) (R.mono (by decide:5≤30)).u64 ?_
  refine wpAny_truthy_bool ?_
  refine Be (by decide) ?_
  refine wpAny_execs_nil ?_
  obtain⟨ps,h13⟩:=h13
  walk_at "c ps"
  obtain⟨s',hgr,D3⟩:=D2.self.grown ⟨_,h313⟩ (D2.keep 313 _ (Nat.ne_of_lt (Nat.lt_of_lt_of_le (by decide) D.hL)) (by decide) (by decide) h13)
  walk_at "c s'"
  exact k z2 s' hgr D3 X2 (C1.now D2) hlf2
structure GI where
 p:Int
 cs:List Int
 ls:Addr
 lw:Addr
 lwd:Addr
 lf:Addr
 ys:List A0
 th:Tok
 tsg:Tok
structure TI where
 lt:Addr
 zs:List A0
 W:Int
 tW:Tok
structure RI where
 lr:Addr
 ll:Addr
 rows:List A7
 lla:List Addr
 lv:List (List Int)
noncomputable abbrev GI.nm (g:GI):List (Str×Value):=LN1 g.p g.ls g.lw g.lwd g.lf g.tsg
noncomputable abbrev GI.hd (g:GI):Int:=B0 g.p
structure Ei (g:GI) (L:Addr) (vr vw vo:Option Value) (h:Heap):Prop where
 src:Gr g.p g.cs g.ls g.lw g.lwd g.ys h
 cel:LC L h (some (.int g.hd g.th)) vr vw vo
 flg:∃ n,h.get? g.lf=some (A6 (Ee g.ys (En g.ys)) n)
 lf3:@LE.le Nat _ 317 g.lf
 thn:g.th≠0
structure TAt (g:GI) (t:TI) (h:Heap):Prop where
 thg:∃ n,h.get? t.lt=some (A6 (t.zs.map λ y=>Value.ref y.a) n)
 lt3:@LE.le Nat _ 317 t.lt
 prm:t.zs.Perm g.ys
noncomputable def Cw (L:Addr) (h h':Heap):Prop:=∀ b o,@LE.le Nat _ 317 b→b≠L→h.get? b=some o→h'.get? b=some o
theorem Cw.refl (L:Addr) (h:Heap):Cw L h h:=λ _ _ _ _ e=>e
theorem Cw.step {L:Addr} {h:Heap} {X:List Addr} {s s':Shared} (k:Cw L h s.heap) (st:A4 X s s') (hX:∀ x∈X,h.get? x=none):Cw L h s'.heap:=λ b o h3 hb e =>
 st.get h3 (λ q=>by rw[hX b q] at e;cases e) (k b o h3 hb e)
theorem Cw.now {L:Addr} {h:Heap} {w:World} {S:List Addr} {s₀ s:Shared} {ref:Heap} {m:SV} {news:AO} (k:Cw L h ref) (D:Cl w S s₀ L ref m news s):Cw L h s.heap:=λ b o h3 hb e=>D.old (k b o h3 hb e) h3 hb
theorem Cw.S {L:Addr} {h h':Heap} {m:SV} (k:Cw L h h') (n:h.Ns L m):El h h':=λ b o h3 hs e =>
 k b o h3 (Ed n e λ es n q=>by obtain⟨⟨vs,n',z⟩,_⟩:=hs;rw[z] at q;cases q) e
theorem Cw.lst {L:Addr} {h h':Heap} {m:SV} (k:Cw L h h') (n:h.Ns L m) {a:Addr} {vs:List Value} {j:Nat} (h3:@LE.le Nat _ 317 a) (e:h.get? a=some (A6 vs j)):h'.get? a=some (A6 vs j):=Fq (k.S n) h3 e
theorem LC.kb {L:Addr} {h h':Heap} {vh vr vw vo:Option Value} (C:LC L h vh vr vw vo) (k:Cw L h h') (hL:@LE.le Nat _ 317 L):LC L h' vh vr vw vo:=by
 have one:∀ c v,@LT.lt Nat _ L c→h.IsCell c v→h'.IsCell c v:=λ c v hc qq=>qq.elim λ o qq=>qq.elim λ e d=>⟨o,k c o (Nat.le_trans hL (Nat.le_of_lt hc)) (Nat.ne_of_gt hc) e,d⟩
 exact⟨one _ _ (Nat.lt_succ_self L) C.c1,one _ _ (Nat.lt_add_of_pos_right (by decide)) C.c2,one _ _ (Nat.lt_add_of_pos_right (by decide)) C.c3,one _ _ (Nat.lt_add_of_pos_right (by decide)) C.c4⟩
theorem Ei.kb {g:GI} {L:Addr} {vr vw vo:Option Value} {h h':Heap} {m:SV} (X:Ei g L vr vw vo h) (k:Cw L h h') (n:h.Ns L m) (hL:@LE.le Nat _ 317 L):Ei g L vr vw vo h' :=
 ⟨X.src.kps (k.S n),X.cel.kb k hL,X.flg.elim λ j e=>⟨j,k.lst n X.lf3 e⟩,X.lf3,X.thn⟩
theorem TAt.kb {g:GI} {t:TI} {L:Addr} {h h':Heap} {m:SV} (X:TAt g t h) (k:Cw L h h') (n:h.Ns L m):TAt g t h' :=
 ⟨X.thg.elim λ j e=>⟨j,k.lst n X.lt3 e⟩,X.lt3,X.prm⟩
theorem E5.kb {P:Params} {s₀h h h':Heap} {L lr ll:Addr} {rows:List A7} {lla:List Addr} {lv:List (List Int)} {m:SV} (B:E5 P s₀h L [] h lr ll rows lla lv) (k:Cw L h h') (n:h.Ns L m):E5 P s₀h L [] h' lr ll rows lla lv :=
 ⟨B.er.elim λ j e=>⟨j,k.lst n B.lr3 e⟩,B.el.elim λ j e=>⟨j,k.lst n B.ll3 e⟩,λ j a ns h1 h2=>(B.ev j a ns h1 h2).elim λ vs qq=>qq.elim λ i qq=>qq.elim λ e q=>⟨vs,i,k.lst n (B.lv3 a (List.mem_of_getElem? h1)).1 e,q⟩,
  B.len,λ r hr=>by
   have q:=B.acc r hr
   refine⟨?_,?_,λ y hy=>?_,q.x3,q.d3,q.few⟩
   ·obtain⟨j,e⟩:=q.ox
    exact⟨j,k _ _ q.x3 (Ed n e λ _ _=>nofun) e⟩
   ·obtain⟨t,ti,e,z⟩:=q.od
    exact⟨t,ti,k _ _ q.d3 (B.nl r hr) e,z⟩
   ·obtain⟨e,z⟩:=q.tup y hy
    exact⟨k _ _ z.1 (Ed n e λ _ _=>nofun) e,z⟩,
  B.dis,B.fr,B.nl,B.lr3,B.ll3,B.lr0,B.ll0,B.lne,B.lv3,λ _ h=>(nomatch h)⟩
noncomputable abbrev RI.at (r:RI) (w:World) (s₀h:Heap) (L:Addr) (h:Heap):Prop:=E5 w.params s₀h L [] h r.lr r.ll r.rows r.lla r.lv
noncomputable def Ge (hd:Int):List Int:=if hd=0 then [] else [hd]
noncomputable def Br:List Stmt:=Bf (Bb.getD 4 (.Pass default))
noncomputable abbrev Ab (L:Addr):Env:=cfenv E4 316 L
noncomputable abbrev GI.nmT (g:GI) (t:TI):List (Str×Value):=("things", .ref t.lt)::g.nm
noncomputable abbrev GI.nmR (g:GI) (t:TI) (r:RI):List (Str×Value):=("lens", .ref r.ll)::("rows", .ref r.lr)::g.nmT t
theorem lawA:∀ (w:World) {A:Around} {s z:Shared} {L:Addr} {m:SV} {g:GI} {t:TI} {vw vo:Option Value} (R:A3 (A.deeper (Ab L)) 30) (D:Cl w [] s L z.heap m [] z) (H:Cz m (g.nmT t)) (X:Ei g L (some (.int t.W t.tW)) vw vo z.heap) (Y:TAt g t z.heap) {Q:FP} (k:∀ m' z' r,Cl w [] s L z'.heap m' [] z'→Cz m' (g.nmR t r)→Cw L z.heap z'.heap→r.at w z.heap L z'.heap→BPl t.W g.hd (T t.zs) r.rows r.lv →
   wpAny (MD w) (A.deeper (Ab L)) (execs (Br.drop 1) (Ab L)) Q (λ _ _=>False) z'),
  wpAny (MD w) (A.deeper (Ab L)) (execs Br (Ab L)) Q (λ _ _=>False) z:=by
 walk_at " w A s z L m g t vw vo R D H X Y Q k"
 refine wpAny_execs_cons ?_
 refine Assign_Tuple ?_
 refine Am ?_
 walk_at "g 301"
 refine Co (spliced_more ?_)
 refine Ai D (H.at 0 rfl) ?_
 refine spliced_more ?_
 refine Ay X.cel.c1 ?_
 refine spliced_more ?_
 refine Ay X.cel.c2 ?_
 obtain⟨nt,hlt⟩:=Y.thg
 walk_at "c nt"
 have hb:=Bo g.p
 have hh0:0≤g.hd∧g.hd≤1000:=by
  obtain⟨h1,h2⟩:=Bv (g.p.fdiv 480) (b:=2) (by decide)
  show 0≤B0 g.p∧B0 g.p≤1000
  unfold B0
  constructor
  ·exact Int.mul_nonneg (by omega) h1
  ·have:(g.p.fdiv 480).fmod 2≤1:=by omega
   calc S3 g.p*(g.p.fdiv 480).fmod 2≤S3 g.p*1:=Int.mul_le_mul_of_nonneg_left this (by omega)
    _≤1000:=by omega
 have BX:BSrc w z t.lt t.zs nt g.hd:=⟨hlt,Y.lt3,λ y hy=>X.src.pcs y (Y.prm.mem_iff.mp hy),by rw[Y.prm.length_eq,X.src.eight];decide,hh0.1,hh0.2⟩
 refine spliced_none ⟨Cr D.k (by kernel_rfl),wpAny_mono (s_best w D.good (R.mono (by decide)) BX X.thn (W:=t.W) (tW:=t.tW)) ?_ λ _ _ e=>e.elim⟩
 walk_at " rv z1 q"
 obtain⟨⟨L',tu,lr,ll,rows,lla,lv,rfl,htu,B,P⟩,st1⟩:=q
 walk_at "c L' tu lr ll rows lla lv"
 have D1:=D.step0 st1
 have K1:Cw L z.heap z1.heap:=(Cw.refl _ _).step st1 λ _ h=>nomatch h
 have hLz:∃ o,z.heap.get? L=some o:=D.ns.elim λ o qq=>qq.elim λ _ qq=>qq.elim λ _ qq=>qq.elim λ e _=>⟨o,e⟩
 have hdL:∀ r∈rows,r.d≠L:=λ r hr q=>by
  obtain⟨o,e⟩:=hLz
  walk_at "c o"
  rw[← q,(B.fr r hr).2] at e
  cases e
 have B1:E5 w.params z.heap L [] z1.heap lr ll rows lla lv:=⟨B.er,B.el,B.ev,B.len,B.acc,B.dis,B.fr,hdL,B.lr3,B.ll3,B.lr0,B.ll0,B.lne,B.lv3,λ _ h=>(nomatch h)⟩
 refine Ch D1.self R.hd ⟨_,htu,rfl,0,rfl⟩ rfl rfl ?_
 walk_at " z2 D2"
 refine assignInOrder_cons (assign_Name ?_)
 refine An D2 ?_ (by kernel_rfl) (by kernel_rfl)
 walk_at " z3 D3"
 refine assignInOrder_cons (assign_Name ?_)
 refine An D3 ?_ (by kernel_rfl) (by kernel_rfl)
 walk_at " z4 D4"
 refine assignInOrder_nil ?_
 exact k _ z4 ⟨lr,ll,rows,lla,lv⟩ D4.self (((H.set "rows" (.ref lr)).set "lens" (.ref ll)).sub λ q hq=>hq) (K1.now D4) (B1.now D4) P
noncomputable abbrev GI.nmD (g:GI) (t:TI) (r:RI) (lto:Addr):List (Str×Value):=("told", .ref lto)::g.nmR t r
theorem lawB:∀ (w:World) {A:Around} {s z:Shared} {L:Addr} {m:SV} {g:GI} {t:TI} {r:RI} {vw vo:Option Value} {sh:Heap} (R:A3 (A.deeper (Ab L)) 30) (D:Cl w [] s L z.heap m [] z) (H:Cz m (g.nmR t r)) (X:Ei g L (some (.int t.W t.tW)) vw vo z.heap) (B:r.at w sh L z.heap) (h8:r.lv.length=8) {Q:FP} (k:∀ m' z' lto vt nt,Cl w [] s L z'.heap m' [] z'→Cz m' (g.nmD t r lto)→Cw L z.heap z'.heap→z.heap.get? lto=none→s.heap.get? lto=none→@LE.le Nat _ 317 lto→z'.heap.get? lto=some (A6 vt nt)→IntsAre vt (Ge g.hd) →
   wpAny (MD w) (A.deeper (Ab L)) (execs (Br.drop 3) (Ab L)) Q (λ _ _=>False) z'),
  wpAny (MD w) (A.deeper (Ab L)) (execs (Br.drop 1) (Ab L)) Q (λ _ _=>False) z:=by
 walk_at " w A s z L m g t r vw vo sh R D H X B h8 Q k"
 obtain⟨nl,hll⟩:=B.el
 walk_at "c nl"
 have hl8:(r.lla.map Value.ref).length=8:=by rw[List.length_map,B.len,h8]
 refine wpAny_execs_cons ?_
 refine wpAny_If ?_
 walk_at "s3"
 refine Am ?_
 walk_at "b len"
 refine Co (spliced_more ?_)
 refine Ai D (H.at 0 rfl) ?_
 refine spliced_none ⟨Bh,n_len D hll (by rw[hl8];decide) ?_⟩
 walk_at " z1 t1 D1"
 rw[hl8]
 walk_at "s3"
 refine Be (by decide) ?_
 refine wpAny_execs_nil ?_
 refine wpAny_execs_cons ?_
 rename_i z2 t2 D2 _
 have C2:=X.cel.now D2
 refine wpAny_Assign_Name ?_ (by kernel_rfl)
 refine IfExp_ ?_
 refine isTrue_plain ?_ (by kernel_rfl)
 refine Ay C2.c1 ?_
 refine P.truthy_int ?_
 have K2:Cw L z.heap z2.heap:=(Cw.refl _ _).now D2
 have fin:∀ {z3:Shared} {lto:Addr} {vt:List Value},Cl w [] s L z.heap m [(lto,A6 vt 0)] z3→@LE.le Nat _ 317 lto→s.heap.get? lto=none→z2.heap.get? lto=none→IntsAre vt (Ge g.hd) →
   wpAny (MD w) (A.deeper (Ab L)) (storeName (Ab L) "told" (.ref lto)) (λ _ s'=>wpAny (MD w) (A.deeper (Ab L)) (execs (Br.drop 3) (Ab L)) Q (λ _ _=>False) s') (λ _ _=>False) z3:=by
  walk_at " z3 lto vt D3 l3 l0 l2 hi"
  refine An D3 ?_ (by kernel_rfl) (by kernel_rfl)
  walk_at " z4 D4"
  have hn:z.heap.get? lto=none:=by
   cases hq:z.heap.get? lto with
   | none=>rfl
   | some o =>
    walk_at "c o"
    have:=D2.old hq l3 (D3.nw _ (.head _)).2.1
    rw[l2] at this;cases this
  exact k _ z4 lto vt 0 D4.self (H.set "told" (.ref lto)) ((Cw.refl _ _).now D4) hn l0 l3 (D4.at 0 rfl) hi
 by_cases h0:g.hd=0
 ·rw[show (g.hd != 0)=false by rw[h0];rfl]
  refine Be (by decide) ?_
  refine Gv ?_
  refine spliced_none ?_
  refine C8 D2 ?_ (Nat.zero_le _)
  walk_at " z3 lto D3 l3 l0 l2"
  exact fin D3 l3 l0 l2 (by unfold Ge;rw[if_pos h0];exact .nil)
 ·rw[show (g.hd != 0)=true by simpa using h0,if_pos rfl]
  refine Gv ?_
  refine spliced_more ?_
  refine Ay C2.c1 ?_
  refine spliced_none ?_
  refine C8 D2 ?_ (Nat.le_of_ble_eq_true rfl)
  walk_at " z3 lto D3 l3 l0 l2"
  exact fin D3 l3 l0 l2 (by unfold Ge;rw[if_neg h0];exact .cons _ _ .nil)
noncomputable def Fs (W:Int) (ls:List Int):List Int:=(ls.filter λ x:Int=>decide (x<W)).map λ x:Int=>W-x
noncomputable def Fj (hd:Int) (qs:LS) (k:Nat):List Int:=Ge hd++(qs.take k).map Cn
structure Hr (p W hd:Int) (qs:LS) (k:Nat) (ls:List Int):Prop where
 ne:ls≠[]
 srt:ls.Pairwise (·≤·)
 le:∀ x∈ls,x≤W
 sum:ls.sum=(Fj hd qs (k+1)).sum
 ge:∀ a∈(Cp p).map (Le (Fj hd qs (k+1)) W),a≤(ls.length:Int)
 eq:(ls.length:Int)∈(Cp p).map (Le (Fj hd qs (k+1)) W)
 ap:W.fmod (S3 p)=0→∀ j a b,(Fs W ls)[j]?=some a→(Fs W ls)[j+1]?=some b→∃ z∈Cp p,b<z∧a.fmod z=0
 few:ls.length≤60
noncomputable def Ho (L o:Addr) (h h':Heap):Prop:=∀ b x,@LE.le Nat _ 317 b→b≠L→b≠o→h.get? b=some x→h'.get? b=some x
theorem Ho.trans {L o:Addr} {a b c:Heap} (x:Ho L o a b) (y:Ho L o b c):Ho L o a c:=λ q z h3 h1 h2 e=>y q z h3 h1 h2 (x q z h3 h1 h2 e)
theorem Ho.step {L o:Addr} {h:Heap} {s s':Shared} (k:Ho L o h s.heap) (st:A4 [] s s'):Ho L o h s'.heap:=λ b x h3 h1 h2 e=>st.get h3 (λ q=>nomatch q) (k b x h3 h1 h2 e)
theorem Ho.B {L o:Addr} {b h h':Heap} (x:Cw L b h) (y:Ho L o h h') (h0:b.get? o=none):Cw L b h':=λ a z h3 h1 e=>y a z h3 h1 (λ q=>by rw[q,h0] at e;cases e) (x a z h3 h1 e)
noncomputable def J3:List Stmt:=Bf (Br.getD 3 (.Pass default))
noncomputable abbrev GI.nmK (g:GI) (t:TI) (r:RI) (lto:Addr) (k:Nat) (tk:Tok):List (Str×Value):=("k", .int k tk)::g.nmD t r lto
theorem lawK1:∀ (w:World) {A:Around} {s z:Shared} {L lto:Addr} {m:SV} {g:GI} {t:TI} {r:RI} {k:Nat} {tk:Tok} {vt:List Value} {nt:Nat} (R:A3 (A.deeper (Ab L)) 30) (D:Cl w [] s L z.heap m [] z) (H:Cz m (g.nmK t r lto k tk)) (Y:TAt g t z.heap) (pc:∀ y∈t.zs,Ar z.heap y) (h8:t.zs.length=8) (hk:k<8) (lto3:@LE.le Nat _ 317 lto) (lto0:s.heap.get? lto=none) (hlto:z.heap.get? lto=some (A6 vt nt)) (hvt:IntsAre vt (Fj g.hd (T t.zs) k)) {Q:FP} (c:∀ z' vt' nt',Cl w [] s L z'.heap m [] z'→Ho L lto z.heap z'.heap→z'.heap.get? lto=some (A6 vt' nt')→IntsAre vt' (Fj g.hd (T t.zs) (k+1)) →
   wpAny (MD w) (A.deeper (Ab L)) (execs (J3.drop 1) (Ab L)) Q (λ _ _=>False) z'),
  wpAny (MD w) (A.deeper (Ab L)) (execs J3 (Ab L)) Q (λ _ _=>False) z:=by
 walk_at " w A s z L lto m g t r k tk vt nt R D H Y pc h8 hk lto3 lto0 hlto hvt Q c"
 obtain⟨nth,hlt⟩:=Y.thg
 walk_at "c nth"
 have hltoL:lto≠L:=D.neSeq hlto λ _ _ h=>by cases h
 have hltL:t.lt≠L:=D.neSeq hlt λ _ _ h=>by cases h
 have hk':k<t.zs.length:=by lia
 have hy:t.zs[k]?=some t.zs[k]:=List.getElem?_eq_getElem hk'
 generalize t.zs[k]=y at hy
 have hpy:=pc y (List.mem_of_getElem? hy)
 have hkv:(t.zs.map λ y=>Value.ref y.a)[((k:Int)).toNat]?=some (.ref y.a):=by rw[Int.toNat_natCast,List.getElem?_map,hy];rfl
 have hlz:(t.zs.map λ y=>Value.ref y.a).length≤1000:=by rw[List.length_map];lia
 refine wpAny_execs_cons ?_
 walk_at "s3"
 refine Ak ?_
 refine Ai D (H.at 1 rfl) ?_
 walk_at " pl"
 refine Calls.getMethod_list_append hlto rfl rfl ?_
 refine Co (spliced_more ?_)
 refine Am ?_
 walk_at "b len"
 refine Co (spliced_more ?_)
 walk_at "s3"
 refine Aj ?_
 refine Aj ?_
 refine Ai D (H.at 4 rfl) ?_
 refine Ai D (H.at 0 rfl) ?_
 refine Dp hlt (by simp +arith) hkv hlz ?_
 walk_at "s3"
 rename_i s2 t2 D2 _
 refine Gq (D2.piece hpy).1 (.inl rfl) ?_
 rw[if_pos rfl]
 refine Aj ?_
 refine Aj ?_
 refine Ai D2 (H.at 4 rfl) ?_
 refine Ai D2 (H.at 0 rfl) ?_
 refine Dp (D2.old hlt Y.lt3 hltL) (by simp +arith) hkv hlz ?_
 walk_at "s3"
 rename_i s4 t4 D4 _
 refine Gq (D4.piece hpy).1 (.inr rfl) ?_
 rw[if_neg (by decide)]
 have l1:=hpy.2.2.1
 have l2:=hpy.2.2.2
 refine Gn D4 (by lia) ?_
 walk_at " z1 t1 D1"
 refine spliced_none ⟨Bh,len_str (by rw[Str.length_append];lia) ?_⟩
 have D5:=D1.toks 2
 have hlto5:=D5.old hlto lto3 hltoL
 have hvl:vt.length≤100:=by
  have:=hvt.length
  rw[this]
  unfold Fj Ge
  rw[List.length_append,List.length_map,List.length_take]
  split<;>simp<;>lia
 refine spliced_none ⟨Bh,Fe hlto5 (by exact Nat.le_trans (by assumption) (by decide)) ?_⟩
 walk_at " h6 hs6 hg6"
 have D6:=D5.mut lto0 hltoL lto3 hs6
 refine c _ _ _ D6 (λ b x h3 h1 h2 e=>(hs6.2 b h2).trans (D5.old e h3 h1)) hg6 ?_
 have e:Fj g.hd (T t.zs) (k+1)=Fj g.hd (T t.zs) k++[(((y.b++y.p).length:Nat):Int)]:=by
  unfold Fj
  have:(T t.zs)[k]?=some (y.b,y.p):=by unfold T;rw[List.getElem?_map,hy];rfl
  rw[List.take_add_one,this,List.map_append,← List.append_assoc]
  simp[Cn,Str.length_append]
 rw[e]
 exact ksk_snoc hvt
theorem Oi {α:Type} {l:List α} (h:l≠[]):∃ r a,l=r++[a]:=⟨l.dropLast,l.getLast h,(List.dropLast_concat_getLast h).symm⟩
theorem lawK2:∀ (w:World) {A:Around} {s z:Shared} {L lto ak:Addr} {m:SV} {g:GI} {t:TI} {r:RI} {k:Nat} {tk:Tok} {vt:List Value} {nt:Nat} {ls:List Int} {vw vo:Option Value} {sh:Heap} (R:A3 (A.deeper (Ab L)) 30) (D:Cl w [] s L z.heap m [] z) (H:Cz m (g.nmK t r lto k tk)) (X:Ei g L (some (.int t.W t.tW)) vw vo z.heap) (B:r.at w sh L z.heap) (hk:k<8) (hl8:r.lla.length=8) (hak:r.lla[k]?=some ak) (hlv:r.lv[k]?=some ls) (P:Hr g.p t.W g.hd (T t.zs) k ls) (lto3:@LE.le Nat _ 317 lto) (hlto:z.heap.get? lto=some (A6 vt nt)) (hvt:IntsAre vt (Fj g.hd (T t.zs) (k+1))) {Q:FP} (c:∀ z',Cl w [] s L z'.heap m [] z'→Ho L lto z.heap z'.heap→z'.heap.get? lto=some (A6 vt nt) →
   wpAny (MD w) (A.deeper (Ab L)) (execs (J3.drop 2) (Ab L)) Q (λ _ _=>False) z'),
  wpAny (MD w) (A.deeper (Ab L)) (execs (J3.drop 1) (Ab L)) Q (λ _ _=>False) z:=by
 walk_at " w A s z L lto ak m g t r k tk vt nt ls vw vo sh R D H X B hk hl8 hak hlv P lto3 hlto hvt Q c"
 have hltoL:lto≠L:=D.neSeq hlto λ _ _ h=>by cases h
 obtain⟨nl,hll⟩:=B.el
 walk_at "c nl"
 have hllL:r.ll≠L:=D.neSeq hll λ _ _ h=>by cases h
 obtain⟨vs,na,hak1,hvs⟩:=B.ev k ak ls hak hlv
 walk_at "c vs na"
 have hak3:=(B.lv3 ak (List.mem_of_getElem? hak)).1
 have hakL:ak≠L:=D.neSeq hak1 λ _ _ h=>by cases h
 have hkv:(r.lla.map Value.ref)[((k:Int)).toNat]?=some (.ref ak):=by rw[Int.toNat_natCast,List.getElem?_map,hak];rfl
 have hlz:(r.lla.map Value.ref).length≤1000:=by rw[List.length_map];simp_all +arith
 have hvl:vs.length≤60:=by rw[hvs.length];exact P.few
 refine wpAny_execs_cons ?_
 refine wpAny_If ?_
 walk_at "s3"
 refine Aj ?_
 refine Ai D (H.at 2 rfl) ?_
 refine Ai D (H.at 0 rfl) ?_
 refine Dp hll (by simp_all +arith) hkv hlz ?_
 refine Am ?_
 walk_at "b sorted"
 refine Co (spliced_more ?_)
 refine Aj ?_
 refine Ai D (H.at 2 rfl) ?_
 refine Ai D (H.at 0 rfl) ?_
 refine Dp hll (by simp_all +arith) hkv hlz ?_
 refine spliced_none ⟨Bh,Qh D hak1 hvs (by exact Nat.lt_of_le_of_lt (by assumption) (by decide)) ?_⟩
 walk_at " z1 a vs' ns' e D1 ha0 ha3 hi' hp' hs'"
 have en:ns'=ls:=Lu hp' hs' P.srt
 refine Mh (D1.old hak1 hak3 hakL) (D1.at 0 rfl) hvs hi' (R.mono (by decide:5≤30)).u64 ?_
 rw[en]
 refine wpAny_truthy_bool ?_
 refine Be (by simp) ?_
 walk_at "s3"
 refine Aj ?_
 refine Aj ?_
 refine Ai D1 (H.at 2 rfl) ?_
 refine Ai D1 (H.at 0 rfl) ?_
 refine Dp (D1.old hll B.ll3 hllL) (by simp_all +arith) hkv hlz ?_
 walk_at "s3"
 rename_i z2 t2 D2 _
 obtain⟨lr,la,hla⟩:=Oi P.ne
 walk_at "c lr la"
 obtain⟨ks,rfl,hks⟩:=ints_ex hvs
 walk_at "c ks"
 have hkne:ks≠[]:=λ q=>P.ne (by rw[hks,q];rfl)
 obtain⟨kr,kl,hkl⟩:=Oi hkne
 walk_at "c kr kl"
 have hal:ak≠lto→True:=λ _=>trivial
 have eak:z2.heap.get? ak=some (A6 (Hy kr++[.int kl.1 kl.2]) na):=by
  have:=D2.old hak1 hak3 hakL
  rw[hkl] at this
  unfold Hy at this ⊢
  rw[List.map_append] at this
  exact this
 have hle:kl.1≤t.W:=P.le _ (by rw[hks,hkl];simp)
 refine Fa (T := "list") (id := "list.__getitem__") ⟨_,eak,rfl⟩ F.slot_list_getitem.lookup ⟨rfl,?_⟩
 refine Kt eak ?_
 refine Ay (X.cel.now D2).c2 ?_
 walk_at "s3"
 refine Be (by simpa using hle) ?_
 walk_at "s3"
 refine Am ?_
 walk_at "b sum"
 refine Co (spliced_more ?_)
 refine Aj ?_
 refine Ai D2 (H.at 2 rfl) ?_
 refine Ai D2 (H.at 0 rfl) ?_
 refine Dp (D2.old hll B.ll3 hllL) (by simp_all +arith) hkv hlz ?_
 refine spliced_none ⟨Bh,n_sum D2 R.hd (D2.old hak1 hak3 hakL) hvs ?_⟩
 walk_at " z3 t3 D3"
 refine Am ?_
 walk_at "b sum"
 refine Co (spliced_more ?_)
 refine Ai D3 (H.at 1 rfl) ?_
 refine spliced_none ⟨Bh,n_sum D3 R.hd (D3.old hlto lto3 hltoL) hvt ?_⟩
 walk_at " z4 t4 D4"
 walk_at "s3"
 refine Be (by rw[P.sum];simp) ?_
 walk_at "s3"
 refine Be (by simp) ?_
 refine wpAny_execs_nil ?_
 exact c z4 D4.self (λ b x h3 h1 _ e=>D4.old e h3 h1) (D4.old hlto lto3 hltoL)
theorem sizes_get:∀ {p:Int} {vs:List Value} (h:IntsAre vs (Cp p)),
  ∃ t,vs[3]?=some (.int (S3 p) t):=by
 walk_at " p vs h"
 unfold Cp at h
 cases h with|cons _ _ h=>cases h with|cons _ _ h=>cases h with|cons _ _ h=>cases h with|cons _ t h=>exact⟨t,rfl⟩
theorem lawK3:∀ (w:World) {A:Around} {s z:Shared} {L lto ak:Addr} {m:SV} {g:GI} {t:TI} {r:RI} {k:Nat} {tk:Tok} {vt:List Value} {nt:Nat} {ls:List Int} {vw vo:Option Value} {sh:Heap} (R:A3 (A.deeper (Ab L)) 30) (D:Cl w [] s L z.heap m [] z) (H:Cz m (g.nmK t r lto k tk)) (X:Ei g L (some (.int t.W t.tW)) vw vo z.heap) (B:r.at w sh L z.heap) (hk:k<8) (hl8:r.lla.length=8) (hak:r.lla[k]?=some ak) (hlv:r.lv[k]?=some ls) (P:Hr g.p t.W g.hd (T t.zs) k ls) (hW:S3 g.p≤t.W∧t.W<1000) (lto3:@LE.le Nat _ 317 lto) (hlto:z.heap.get? lto=some (A6 vt nt)) (hvt:IntsAre vt (Fj g.hd (T t.zs) (k+1))) {Q:FP} (c:∀ z',Cl w [] s L z'.heap m [] z'→Ho L lto z.heap z'.heap→z'.heap.get? lto=some (A6 vt nt)→Q .next z'),
  wpAny (MD w) (A.deeper (Ab L)) (execs (J3.drop 2) (Ab L)) Q (λ _ _=>False) z:=by
 walk_at " w A s z L lto ak m g t r k tk vt nt ls vw vo sh R D H X B hk hl8 hak hlv P hW lto3 hlto hvt Q c"
 have hltoL:lto≠L:=D.neSeq hlto λ _ _ h=>by cases h
 obtain⟨nl,hll⟩:=B.el
 walk_at "c nl"
 have hllL:r.ll≠L:=D.neSeq hll λ _ _ h=>by cases h
 obtain⟨vs,na,hak1,hvs⟩:=B.ev k ak ls hak hlv
 walk_at "c vs na"
 have hak3:=(B.lv3 ak (List.mem_of_getElem? hak)).1
 have hakL:ak≠L:=D.neSeq hak1 λ _ _ h=>by cases h
 have hkv:(r.lla.map Value.ref)[((k:Int)).toNat]?=some (.ref ak):=by rw[Int.toNat_natCast,List.getElem?_map,hak];rfl
 have hlz:(r.lla.map Value.ref).length≤1000:=by rw[List.length_map];lia
 have hvl:vs.length≤60:=by rw[hvs.length];exact P.few
 obtain⟨vz,nz,hls,hvz⟩:=X.src.siz
 walk_at "c vz nz"
 have hlsL:g.ls≠L:=D.neSeq hls λ _ _ h=>by cases h
 have hb:=Bo g.p
 have hszs:∀ z∈Cp g.p,0<z∧z≤S3 g.p:=by
  walk_at " z hz"
  unfold Cp at hz
  simp only[List.mem_cons,List.not_mem_nil,or_false] at hz
  lia
 have htl:vt.length≤100:=by
  rw[hvt.length]
  unfold Fj Ge
  rw[List.length_append,List.length_map,List.length_take]
  split<;>simp<;>lia
 refine wpAny_execs_cons ?_
 refine wpAny_If ?_
 walk_at "s3"
 refine Am ?_
 walk_at "b len"
 refine Co (spliced_more ?_)
 refine Aj ?_
 refine Ai D (H.at 2 rfl) ?_
 refine Ai D (H.at 0 rfl) ?_
 refine Dp hll (by simp +arith) hkv hlz ?_
 refine spliced_none ⟨Bh,n_len D hak1 (by exact Nat.le_trans (by assumption) (by decide)) ?_⟩
 walk_at " z1 t1 D1"
 refine Am ?_
 walk_at "g 306"
 refine Co (spliced_more ?_)
 refine Ai D1 (H.at 1 rfl) ?_
 refine spliced_more ?_
 refine Ai D1 (H.at 9 rfl) ?_
 refine spliced_more ?_
 refine Ay (X.cel.now D1).c2 ?_
 refine spliced_none ⟨Cr D1.k (by kernel_rfl),wpAny_mono (s_due w D1.good (R.mono (by decide)) (D1.old hlto lto3 hltoL) lto3 hvt (D1.old hls X.src.s3 hlsL) X.src.s3 hvz (by exact Nat.le_trans (by assumption) (by decide)) (by rw[hvz.length];exact Nat.le_of_ble_eq_true rfl) (by unfold Cp;simp) (λ z hz=>⟨(hszs z hz).1,by have:=(hszs z hz).2;lia⟩) (by lia)) ?_ λ _ _ e=>e.elim⟩
 walk_at " rv z2 q"
 obtain⟨⟨M,t',rfl,hM1,hM2⟩,st2⟩:=q
 walk_at "c M t'"
 have D2:=D1.step0 st2
 have eM:M=(ls.length:Int):=Int.le_antisymm (P.ge M hM1) (hM2 _ P.eq)
 have K2:Ho L lto z.heap z2.heap:=Ho.step (λ b x h3 h1 _ e=>D1.old e h3 h1) st2
 walk_at "s3"
 refine Be (by rw[eM,hvs.length];simp) ?_
 refine wpAny_execs_nil ?_
 have C2:LC L z2.heap (some (.int g.hd g.th)) (some (.int t.W t.tW)) vw vo:=(X.cel.now D1).step D1 st2 λ _ h=>nomatch h
 have up2:∀ {a:Addr} {o:Obj},@LE.le Nat _ 317 a→a≠L→z.heap.get? a=some o→z2.heap.get? a=some o:=λ h3 h1 e=>st2.get h3 (λ q=>nomatch q) (D1.old e h3 h1)
 have hls2:=up2 X.src.s3 hlsL hls
 obtain⟨t3,hv3⟩:=sizes_get hvz
 walk_at "c t3"
 refine wpAny_execs_cons ?_
 refine wpAny_If ?_
 walk_at "s3"
 refine Ay C2.c2 ?_
 refine Aj ?_
 refine Ai D2 (H.at 9 rfl) ?_
 walk_at "s3"
 rename_i z3 t4 D3 _
 refine Dp (D3.old hls X.src.s3 hlsL) (by simp +arith) hv3 (by rw[hvz.length];exact Nat.le_of_ble_eq_true rfl) ?_
 refine Cf D3 (by lia) ?_
 walk_at " z4 t5 D4 _"
 walk_at "s3"
 rename_i z5 t6 D5 _
 by_cases hm:t.W.fmod (S3 g.p)=0
 ·rw[if_pos (by simpa using hm)]
  walk_at "s3"
  refine Am ?_
  walk_at "g 311"
  refine Co (spliced_more ?_)
  refine Ai D5 (H.at 9 rfl) ?_
  refine spliced_more ?_
  refine Fn [("room", L+2)] (by kernel_rfl) (by kernel_rfl) (by decide +kernel) ?_
  refine Aj ?_
  refine Ai D5 (H.at 2 rfl) ?_
  refine Ai D5 (H.at 0 rfl) ?_
  refine Dp (D5.old hll B.ll3 hllL) (by simp +arith) hkv hlz ?_
  have C5:=X.cel.now D5
  have hak5:=D5.old hak1 hak3 hakL
  refine G0 R.hd D5.good hak5 hak3 (by exact Nat.le_trans (by assumption) (by decide)) (by intro C;kernel_rfl) (λ (i:Nat) (rs:List Value) (_:Tok)=>IntsAre rs (Fs t.W (ls.take i))) (λ _=>by simpa [Fs] using IntsAre.nil) (λ _ _ _ _ _ h=>h) ?_ ?_
  ·walk_at " C i2 v2 z2' m2 rs2 hv2 hlen2 Dz2 hX2"
   obtain⟨x,tx,rfl,hx⟩:=hvs.at i2 v2 hv2
   walk_at "c x tx"
   have hcz2:z2'.heap.IsCell (L+2) (some (.int t.W t.tW)):=Aq C5.c2 λ o e=>Dz2.st.get (Nat.le_trans D.hL (Nat.le_add_right _ _)) (λ h=>nomatch h) e
   refine assign_Name ?_
   refine An Dz2 ?_ (by kernel_rfl) (by kernel_rfl)
   walk_at " z3' D3'"
   have hcz3:z3'.heap.IsCell (L+2) (some (.int t.W t.tW)):=Aq hcz2 λ o e=>D3'.old e (Nat.le_trans D.hL (Nat.le_add_right _ _)) (Nat.ne_of_lt (Nat.lt_of_lt_of_le C5.c2.lt Dz2.g1))
   refine wpAny_tests_one ?_
   walk_at "s3"
   refine Ay hcz3 ?_
   refine PySem.P.lt_int ?_
   refine wpAny_truthy_bool ?_
   have ef:(ls.take (i2+1)).filter (λ x:Int=>decide (x<t.W))=(ls.take i2).filter (λ x:Int=>decide (x<t.W))++(if decide (x<t.W)=true then [x] else []):=take_succ_filter _ _ _ _ hx
   by_cases hle:x<t.W
   ·rw[if_pos (by simpa using hle)]
    refine wpAny_BinOp ?_
    refine Ay hcz3 ?_
    walk_at "s3"
    rename_i z4' t4' D4' _
    refine⟨⟨_,_,D4'⟩,?_⟩
    unfold Fs
    rw[ef,if_pos (by simpa using hle),List.map_append]
    exact ksk_snoc hX2
   ·rw[if_neg (by simpa using hle)]
    refine⟨⟨_,_,D3'⟩,?_⟩
    unfold Fs
    rw[ef,if_neg (by simpa using hle),List.append_nil]
    exact hX2
  ·walk_at " acc z6 rs k2 hacc st6 hg6 hX6"
   rw[List.take_of_length_le (by rw[hvs.length];exact Nat.le_refl _)] at hX6
   have D6:=D5.step0 st6
   have hrl:rs.length≤100:=by
    rw[hX6.length]
    unfold Fs
    rw[List.length_map]
    exact Nat.le_trans (List.length_filter_le _ _) (by have:=P.few;exact Nat.le_trans (by assumption) (by decide))
   have hls6:=st6.get X.src.s3 (λ q=>nomatch q) (D5.old hls X.src.s3 hlsL)
   refine spliced_none ⟨Cr D6.k (by kernel_rfl),wpAny_mono (s_apart w D6.good (R.mono (by decide)) hg6 (Nat.le_trans D5.good.vol.c hacc) hX6 hls6 X.src.s3 hvz (by exact Nat.le_trans (by assumption) (by decide)) (by rw[hvz.length];exact Nat.le_of_ble_eq_true rfl) (λ z hz=>⟨(hszs z hz).1,by have:=(hszs z hz).2;lia⟩) (P.ap hm)) ?_ λ _ _ e=>e.elim⟩
   walk_at " rv z7 q"
   obtain⟨rfl,st7⟩:=q
   have D7:=D6.step0 st7
   refine wpAny_truthy_bool ?_
   walk_at "s3"
   refine Be (by decide) ?_
   walk_at "s3"
   refine Be (by decide) ?_
   refine wpAny_execs_nil ?_
   refine wpAny_execs_nil ?_
   exact c z7 D7.self (λ b x h3 h1 _ e=>st7.get h3 (λ q=>nomatch q) (st6.get h3 (λ q=>nomatch q) (D5.old e h3 h1))) (D7.old hlto lto3 hltoL)
 ·rw[if_neg (by simpa using hm)]
  refine Be (by decide) ?_
  refine wpAny_execs_nil ?_
  refine wpAny_execs_nil ?_
  exact c z5 D5.self (λ b x h3 h1 _ e=>D5.old e h3 h1) (D5.old hlto lto3 hltoL)
theorem lawC:∀ (w:World) {A:Around} {s z:Shared} {L lto:Addr} {m:SV} {g:GI} {t:TI} {r:RI} {vt:List Value} {nt:Nat} {vw vo:Option Value} {hb sh:Heap} {mb:SV} (R:A3 (A.deeper (Ab L)) 30) (D:Cl w [] s L z.heap m [] z) (nb:hb.Ns L mb) (H:Cz m (g.nmD t r lto)) (X:Ei g L (some (.int t.W t.tW)) vw vo hb) (Y:TAt g t hb) (B:r.at w sh L hb) (K:Cw L hb z.heap) (h8:t.zs.length=8) (hl8:r.lla.length=8) (hlv:∀ k<8,∃ ls,r.lv[k]?=some ls∧Hr g.p t.W g.hd (T t.zs) k ls) (hW:S3 g.p≤t.W∧t.W<1000) (lto3:@LE.le Nat _ 317 lto) (lto0:s.heap.get? lto=none) (ltob:hb.get? lto=none) (hlto:z.heap.get? lto=some (A6 vt nt)) (hvt:IntsAre vt (Ge g.hd)) {Q:FP} (c:∀ m' z',Cl w [] s L z'.heap m' [] z'→Cz m' (g.nmD t r lto)→Cw L hb z'.heap →
   wpAny (MD w) (A.deeper (Ab L)) (execs (Br.drop 4) (Ab L)) Q (λ _ _=>False) z'),
  wpAny (MD w) (A.deeper (Ab L)) (execs (Br.drop 3) (Ab L)) Q (λ _ _=>False) z:=by
 walk_at " w A s z L lto m g t r vt nt vw vo hb sh mb R D nb H X Y B K h8 hl8 hlv hW lto3 lto0 ltob hlto hvt Q c"
 refine wpAny_execs_cons ?_
 refine wpAny_For ?_
 refine Am ?_
 refine Ap (.type "range") D (by kernel_rfl) (by kernel_rfl) ?_
 refine Co (spliced_more ?_)
 walk_at "s3"
 rename_i z1 t1 D1 _
 refine⟨Gk,Mi D1 ?_⟩
 walk_at " z2 rg t2 v2 D2"
 refine Jy (n:=8) R.hd D2 (Im 0 8 (by decide) (by decide) (by decide) (by decide)).1 ((Im 0 8 (by decide) (by decide) (by decide) (by decide)).2) (λ I i m' z'=>hb.get? I=none∧I≠lto∧Cz m' (g.nmD t r lto)∧Cw L hb z'.heap∧∃ vt nt,z'.heap.get? lto=some (A6 vt nt)∧IntsAre vt (Fj g.hd (T t.zs) i)) ?_ ?_ ?_ ?_
 ·rintro I i m z' z'' hk ht ⟨h0,hIt,h1,h2,vt,nt,h3,h4⟩
  walk_at "c I i m z' z'' hk ht h0 hIt h1 h2 vt nt"
  exact⟨h0,hIt,h1,λ b o q1 q2 e=>hk b o (λ q=>by rw[q,h0] at e;cases e) (h2 b o q1 q2 e),vt,nt,hk _ _ (Ne.symm hIt) h3,h4⟩
 ·rintro I s' hI0 D3
  walk_at "c I s'"
  have hltoL:lto≠L:=D.neSeq hlto λ _ _ h=>by cases h
  have hlto2:=D2.old hlto lto3 hltoL
  refine⟨?_,(λ q=>by rw[q,hlto2] at hI0;cases hI0),H,(K.now D2).now D3,vt,nt,D3.old hlto2 lto3 hltoL,by unfold Fj;simpa using hvt⟩
  have hI3:=(D3.nw _ (.head _)).2
  cases hq:hb.get? I with
  | none=>rfl
  | some o =>
   walk_at "c o"
   have:=(K.now D2) I o hI3.2 hI3.1 hq
   rw[hI0] at this;cases this
 ·rintro I i m' z' tk hi hI3 hIL hI0 hIo ⟨hIb,hIto,Hi,Ki,vt',nt',hltoi,hvti⟩ Dz
  walk_at "c I i m' z' tk hi hI3 hIL hI0 hIo hIb hIto Hi Ki vt' nt'"
  have hltoL:lto≠L:=Dz.neSeq hltoi λ _ _ h=>by cases h
  obtain⟨ls,hls,P⟩:=hlv i hi
  walk_at "c ls"
  have hak:r.lla[i]?=some r.lla[i]:=List.getElem?_eq_getElem (by omega)
  generalize r.lla[i]=ak at hak
  have hii:(0:Int)+(i:Int)=(i:Int):=Int.zero_add _
  rw[hii]
  refine assign_Name ?_
  refine An Dz ?_ (by kernel_rfl) (by kernel_rfl)
  walk_at " z3 D3"
  have H3:Cz _ (g.nmK t r lto i tk):=(Hi.set "k" (.int i tk)).sub λ q hq=>hq
  have K3:=Ki.now D3
  have hlto3:=D3.old hltoi lto3 hltoL
  have X3:=X.kb K3 nb D.hL
  have k1:=@lawK1 w A s z3 L lto _ g t r i tk vt' nt' R D3.self H3 (Y.kb K3 nb) (λ y hy=>X3.src.pcs y (Y.prm.mem_iff.mp hy)) h8 hi lto3 lto0 hlto3 hvti
  refine @k1 _ ?_
  walk_at " z4 vt4 nt4 D4 O4 hlto4 hvt4"
  have K4:=Ho.B K3 O4 ltob
  have k2:=@lawK2 w A s z4 L lto ak _ g t r i tk vt4 nt4 ls vw vo sh R D4 H3 (X.kb K4 nb D.hL) (B.kb K4 nb) hi hl8 hak hls P lto3 hlto4 hvt4
  refine @k2 _ ?_
  walk_at " z5 D5 O5 hlto5"
  have K5:=Ho.B K4 O5 ltob
  have k3:=@lawK3 w A s z5 L lto ak _ g t r i tk vt4 nt4 ls vw vo sh R D5 H3 (X.kb K5 nb D.hL) (B.kb K5 nb) hi hl8 hak hls P hW lto3 hlto5 hvt4
  refine @k3 _ ?_
  walk_at " z6 D6 O6 hlto6"
  have K6:=Ho.B K5 O6 ltob
  refine⟨_,_,_,D6,⟨hIb,hIto,H3.sub (λ q hq=>.tail _ hq),K6,vt4,nt4,hlto6,hvt4⟩,?_⟩
  walk_at " b hb' o e"
  rw[List.mem_singleton.mp hb'] at e ⊢
  exact (O4.trans (O5.trans O6)) _ _ hI3 hIL hIto (D3.old e hI3 hIL)
 ·rintro I m' z' Dz ⟨_,_,Hi,Ki,_⟩
  walk_at "c I m' z'"
  refine wpAny_execs_nil ?_
  exact c m' z' Dz Hi Ki
structure Hl (P:Params) (sh:Heap) (F:List Addr) (rows:List A7) (i:Nat) (bs:List Addr) (h:Heap):Prop where
 len:bs.length=i
 emp:∀ r∈rows.take i,A2 P h r.x r.d r.init []
 ful:∀ r∈rows.drop i,r.At P h
 pcs:∀ r∈rows,∀ y∈r.ps,Ar h y
 lst:∀ (j:Nat) (b:Addr) (r:A7),bs[j]?=some b→rows[j]?=some r→h.get? b=some (A6 (r.ps.map λ y=>Value.ref y.a) 0)
 nF:∀ b∈bs,b∉F∧@LE.le Nat _ 317 b∧sh.get? b=none
structure KSt (P:Params) (L lk:Addr) (bs:List Addr) (lr:Addr) (rows:List A7) (h:Heap):Prop where
 ek:∃ n,h.get? lk=some (A6 (bs.map Value.ref) n)
 er:∃ n,h.get? lr=some (A6 (rows.map λ r=>Value.ref r.x) n)
 len:bs.length=rows.length
 lst:∀ (j:Nat) (b:Addr) (r:A7),bs[j]?=some b→rows[j]?=some r→h.get? b=some (A6 (r.ps.map λ y=>Value.ref y.a) 0)
 b3:∀ b∈bs,@LE.le Nat _ 317 b
 pcs:∀ r∈rows,∀ y∈r.ps,Ar h y
 emp:∀ r∈rows,A2 P h r.x r.d r.init []
 nl:∀ r∈rows,r.d≠L
 lk3:@LE.le Nat _ 317 lk
 lr3:@LE.le Nat _ 317 lr
theorem Cl.fresh0 {w:World} {S:List Addr} {s₀ s:Shared} {L:Addr} {ref:Heap} {m:SV} {news:AO} (D:Cl w S s₀ L ref m news s) (hS:∀ z∈S,z<317) {q:Addr} (h3:@LE.le Nat _ 317 q) (e:s.heap.get? q=none):s₀.heap.get? q=none:=by
 cases hq:s₀.heap.get? q with
 | none=>rfl
 | some o =>
  have:=D.st.keep q o (λ z=>absurd (hS q z) (Nat.not_lt_of_le h3)) (Av h3 176 (by decide)) (Av h3 183 (by decide)) hq
  rw[e] at this;cases this
theorem Hl.keep {P:Params} {sh:Heap} {F:List Addr} {rows:List A7} {i:Nat} {bs:List Addr} {h h':Heap} (X:Hl P sh F rows i bs h) (hsh:∀ r∈rows,r.At P sh) (hF:∀ b∈F,@LE.le Nat _ sh.objs.size b) (hk:∀ b o,b∉F→@LE.le Nat _ 317 b→((∀ es n,o.data≠.dict es n)∨∃ r∈rows,b=r.d)→h.get? b=some o→h'.get? b=some o):Hl P sh F rows i bs h':=by
 have nf:∀ {b:Addr} {o:Obj},sh.get? b=some o→b∉F:=λ e q=>absurd (Heap.lt_size e) (Nat.not_lt.mpr (hF _ q))
 have at':∀ {r:A7} {ps:List A0},r∈rows→(∀ y∈ps,Ar h' y)→A2 P h r.x r.d r.init ps→A2 P h' r.x r.d r.init ps:=λ {r ps} hr hp q=>by
  obtain⟨n,ex⟩:=(hsh r hr).ox
  obtain⟨t,ti,ed,_⟩:=(hsh r hr).od
  exact⟨q.ox.elim λ n e=>⟨n,hk _ _ (nf ex) q.x3 (.inl λ _ _=>nofun) e⟩,q.od.elim λ t qq=>qq.elim λ ti qq=>qq.elim λ e z=>⟨t,ti,hk _ _ (nf ed) q.d3 (.inr ⟨r,hr,rfl⟩) e,z⟩,hp,q.x3,q.d3,q.few⟩
 have pc:∀ r∈rows,∀ y∈r.ps,Ar h' y:=λ r hr y hy=>⟨hk _ _ (nf ((hsh r hr).tup y hy).1) (X.pcs r hr y hy).2.1 (.inl λ _ _=>nofun) (X.pcs r hr y hy).1,(X.pcs r hr y hy).2⟩
 exact⟨X.len,λ r hr=>at' (List.mem_of_mem_take hr) (λ _ h=>nomatch h) (X.emp r hr),λ r hr=>at' (List.mem_of_mem_drop hr) (pc r (List.mem_of_mem_drop hr)) (X.ful r hr),pc,
  λ j b r e1 e2=>hk _ _ (X.nF b (List.mem_of_getElem? e1)).1 (X.nF b (List.mem_of_getElem? e1)).2.1 (.inl λ _ _=>nofun) (X.lst j b r e1 e2),X.nF⟩
noncomputable def L3 (rows:List A7):List Addr:=rows.flatMap λ r=>[r.x,r.d]
theorem I1 {rows:List A7} {r:A7} (h:r∈rows):r.x∈L3 rows∧r.d∈L3 rows:=⟨List.mem_flatMap.mpr ⟨r,h,.head _⟩,List.mem_flatMap.mpr ⟨r,h,.tail _ (.head _)⟩⟩
theorem L0 {rows:List A7} {a:Addr} (h:a∈L3 rows):∃ r∈rows,a=r.x∨a=r.d:=by
 obtain⟨r,hr,ha⟩:=List.mem_flatMap.mp h
 refine⟨r,hr,?_⟩
 simpa using ha
theorem Hl.next:∀ {P:Params} {sh:Heap} {F:List Addr} {rows:List A7} {i:Nat} {bs:List Addr} {z z':Shared} {r:A7} {b:Addr} (X:Hl P sh F rows i bs z.heap) (hsh:∀ r∈rows,r.At P sh) (hdis:rows.Pairwise A7.Dis) (hr:rows[i]?=some r) (st:A4 [r.x,r.d] z z') (hb:z'.heap.get? b=some (A6 (r.ps.map λ y=>Value.ref y.a) 0)) (hq:A2 P z'.heap r.x r.d r.init []) (hp:∀ y∈r.ps,Ar z'.heap y) (hbF:b∉F∧@LE.le Nat _ 317 b∧sh.get? b=none),
  Hl P sh F rows (i+1) (bs++[b]) z'.heap:=by
 walk_at " P sh F rows i bs z z' r b X hsh hdis hr st hb hq hp hbF"
 have hi:i<rows.length:=(List.getElem?_eq_some_iff.mp hr).1
 have hrm:=List.mem_of_getElem? hr
 have hri:=(List.getElem?_eq_some_iff.mp hr).2
 have dis:∀ r'∈rows.take i++rows.drop (i+1),r'.x∉[r.x,r.d]∧r'.d∉[r.x,r.d]:=by
  walk_at " r' h'"
  have hsp:rows=rows.take i++r::rows.drop (i+1):=by rw[← hri,List.getElem_cons_drop,List.take_append_drop]
  have hd:=hdis
  rw[hsp] at hd
  rcases List.mem_append.mp h' with h'|h'
  ·have q:r'.Dis r:=(List.pairwise_append.mp hd).2.2 r' h' r (.head _)
   exact⟨Hg q.1 q.2.1,Hg q.2.2.1 q.2.2.2⟩
  ·have q:r.Dis r':=(List.pairwise_cons.mp (List.pairwise_append.mp hd).2.1).1 r' h'
   exact⟨Hg q.1.symm q.2.2.1.symm,Hg q.2.1.symm q.2.2.2.symm⟩
 have fr:=X.ful r (by rw[← hri];exact List.mem_drop_iff_getElem.mpr ⟨0,by simp_all +arith,by simp⟩)
 have pc:∀ r'∈rows,∀ y∈r'.ps,Ar z'.heap y:=λ r' h'=>fr.pieces st (X.pcs r' h')
 have np:∀ r'∈rows,∀ y∈r'.ps,y.a∉[r.x,r.d]:=λ r' h' y hy=>by have:=fr.nx (X.pcs r' h' y hy).1;exact Hg this.1 this.2
 refine⟨by rw[List.length_append,X.len];rfl,?_,?_,pc,?_,?_⟩
 ·walk_at " r' h'"
  rw[List.take_add_one,hr] at h'
  rcases List.mem_append.mp h' with h'|h'
  ·have:=dis r' (List.mem_append_left _ h')
   exact (X.emp r' h').steps st this.1 this.2 (λ _ h=>nomatch h)
  ·have e:r'=r:=by simpa using h'
   rw[e];exact hq
 ·walk_at " r' h'"
  have:=dis r' (List.mem_append_right _ h')
  have hd':r'∈rows.drop i:=by
   have e:rows.drop (i+1)=(rows.drop i).drop 1:=List.drop_drop.symm
   rw[e] at h'
   exact List.mem_of_mem_drop h'
  exact A2.steps (X.ful r' hd') st (dis r' (List.mem_append_right _ h')).1 (dis r' (List.mem_append_right _ h')).2 (np r' (List.mem_of_mem_drop hd'))
 ·walk_at " j b' r' e1 e2"
  by_cases hj:j<bs.length
  ·rw[List.getElem?_append_left hj] at e1
   have hn:=X.nF b' (List.mem_of_getElem? e1)
   obtain⟨n1,ex⟩:=(hsh r hrm).ox
   walk_at "c n1"
   obtain⟨t1,ti1,ed,_⟩:=(hsh r hrm).od
   walk_at "c t1 ti1"
   refine st.get hn.2.1 (Hg ?_ ?_) (X.lst j b' r' e1 e2)
   ·walk_at " q"
    rw[q,ex] at hn;cases hn.2.2
   ·walk_at " q"
    rw[q,ed] at hn;cases hn.2.2
  ·rw[List.getElem?_append_right (Nat.le_of_not_lt hj)] at e1
   have hj2:j-bs.length=0:=by
    have:=(List.getElem?_eq_some_iff.mp e1).1
    rw[List.length_singleton] at this;simp_all +arith
   rw[hj2] at e1
   cases e1
   have:j=i:=by rw[← X.len];grind
   rw[this,hr] at e2
   cases e2
   exact hb
 ·walk_at " b' h'"
  rcases List.mem_append.mp h' with h'|h'
  ·exact X.nF b' h'
  ·rw[List.mem_singleton.mp h'];exact hbF
theorem Qj {w:World} {S:List Addr} {s₀ s:Shared} {ref:Heap} {m:SV} {news:AO} {A:Around} {E:VP} {env:Env} {x:Str} {v:Value} {Q:Unit→Shared→Prop} (D:Cl w S s₀ env.locals ref m news s) (h:∀ s',Cl w S s₀ env.locals ref (λ y=>if y=x then some v else m y) news s'→@LE.le Nat _ s.heap.objs.size s'.heap.objs.size→Q () s')
  (hk:env.scope.kind=.function:=by kernel_rfl) (hl:env.kindOf x=some .local:=by kernel_rfl):wpAny (MD w) A (storeName env x v) Q E s :=
 wpAny_storeName_local hl D.ns (λ h' hn hs=>h _ (D.loc (Nat.le_succ _) hn hs) (Nat.le_of_eq hs.1.symm)) (by rw[hk];rfl)
noncomputable abbrev GI.nmP (g:GI) (t:TI) (r:RI) (lto lk:Addr):List (Str×Value):=("kept", .ref lk)::g.nmD t r lto
theorem lawD:∀ (w:World) {A:Around} {s z:Shared} {L lto:Addr} {m:SV} {g:GI} {t:TI} {r:RI} {hb:Heap} (R:A3 (A.deeper (Ab L)) 30) (D:Cl w [] s L z.heap m [] z) (H:Cz m (g.nmD t r lto)) (B:r.at w hb L z.heap) (K:Cw L hb z.heap) (hr:r.rows.length≤500) (hs0:∀ a,@LE.le Nat _ 317 a→hb.get? a=none→s.heap.get? a=none) (hLb:∃ o,hb.get? L=some o) {Q:FP} (c:∀ m' z' lk bs,Cl w [] s L z'.heap m' [] z'→Cz m' (g.nmP t r lto lk)→Cw L hb z'.heap→KSt w.params L lk bs r.lr r.rows z'.heap →
   wpAny (MD w) (A.deeper (Ab L)) (execs (Br.drop 5) (Ab L)) Q (λ _ _=>False) z'),
  wpAny (MD w) (A.deeper (Ab L)) (execs (Br.drop 4) (Ab L)) Q (λ _ _=>False) z:=by
 walk_at " w A s z L lto m g t r hb R D H B K hr hs0 hLb Q c"
 obtain⟨nr,her⟩:=B.er
 walk_at "c nr"
 have hlrL:r.lr≠L:=D.neSeq her λ _ _ h=>by cases h
 have hxe:∀ q∈r.rows,∃ o,z.heap.get? q.x=some o:=λ q hq=>((B.acc q hq).ox).elim λ n e=>⟨_,e⟩
 have hde:∀ q∈r.rows,∃ o,z.heap.get? q.d=some o:=λ q hq=>((B.acc q hq).od).elim λ t qq=>qq.elim λ ti qq=>qq.elim λ e _=>⟨_,e⟩
 have hxL:∀ q∈r.rows,q.x≠L:=λ q hq=>((B.acc q hq).ox).elim λ n e=>D.neSeq e λ _ _ h=>by cases h
 have hT:∀ b∈L3 r.rows,@LT.lt Nat _ b z.heap.objs.size∧b≠r.lr:=λ b hb'=>by
  obtain⟨q,hq,h⟩:=L0 hb'
  walk_at "c q"
  obtain⟨n,ex⟩:=(B.acc q hq).ox
  walk_at "c n"
  obtain⟨t1,ti,ed,_⟩:=(B.acc q hq).od
  walk_at "c t1 ti"
  rcases h with rfl|rfl
  ·exact⟨Heap.lt_size ex,λ e=>by rw[e,her] at ex;cases ex⟩
  ·exact⟨Heap.lt_size ed,By ed her (by show (Value.type "dict")≠.type "list"; simp)⟩
 refine wpAny_execs_cons ?_
 refine Kn [] (by kernel_rfl) (by kernel_rfl) (by kernel_rfl) (by decide +kernel) ?_
 refine Ai D (H.at 2 rfl) ?_
 refine Jn R.hd D.good her B.lr3 (by rw[List.length_map];exact hr) (L3 r.rows) hT (λ F i rs z'=>(∀ b∈F,@LE.le Nat _ z.heap.objs.size b)→∃ bs,rs=bs.map Value.ref∧Hl w.params z.heap F r.rows i bs z'.heap) ?_ ?_ ?_ ?_
 ·walk_at " F z' st hF"
  refine⟨[],rfl,rfl,λ _ h=>by simp at h,?_,?_,λ j b r e=>by simp at e,λ _ h=>nomatch h⟩
  ·walk_at " q hq"
   exact (B.acc q (by simpa using hq)).step st
  ·walk_at " q hq y hy"
   obtain⟨e,h3⟩:=(B.acc q hq).tup y hy
   exact⟨st.get h3.1 (λ h=>nomatch h) e,h3⟩
 ·walk_at " F i rs z' z'' hk ht h hF"
  obtain⟨bs,e,X⟩:=h hF
  walk_at "c bs"
  exact⟨bs,e,X.keep B.acc hF λ b o q _ _ e=>hk b o q e⟩
 ·walk_at " F C i v z' m' rs hv hlen Dz hF hX hcs"
  obtain⟨bs,rfl,X⟩:=hX λ b hb'=>(hF b hb').1
  walk_at "c bs"
  rw[List.getElem?_map] at hv
  obtain⟨q,hq,rfl⟩:=Option.map_eq_some_iff.mp hv
  walk_at "c q"
  have hqm:=List.mem_of_getElem? hq
  have hi:i<r.rows.length:=(List.getElem?_eq_some_iff.mp hq).1
  have hqi:=(List.getElem?_eq_some_iff.mp hq).2
  have fq:=X.ful q (by rw[← hqi];exact List.mem_drop_iff_getElem.mpr ⟨0,by simp_all +arith,by simp⟩)
  have hCs:@LE.le Nat _ z.heap.objs.size C:=Dz.g1
  have ltC:∀ {a:Addr} {o:Obj},z.heap.get? a=some o→a≠C:=λ e=>Nat.ne_of_lt (Nat.lt_of_lt_of_le (Heap.lt_size e) hCs)
  obtain⟨ox,hox⟩:=hxe q hqm
  walk_at "c ox"
  obtain⟨od,hod⟩:=hde q hqm
  walk_at "c od"
  refine assign_Name ?_
  refine Qj Dz ?_ (by kernel_rfl) (by kernel_rfl)
  walk_at " z1 D1 hzz"
  refine wpAny_tests_nil ?_
  rw[if_pos rfl]
  have X1:Hl w.params z.heap F r.rows i bs z1.heap:=X.keep B.acc (λ b hb'=>(hF b hb').1) λ b o hbF h3 hor e=>D1.old e h3 (by
    rcases hor with h|⟨r',h,rfl⟩
    ·exact Ed Dz.ns e h
    ·walk_at "c r'"
     obtain⟨o',h'⟩:=hde r' h
     walk_at "c o'"
     exact ltC h')
  have f1:=X1.ful q (by rw[← hqi];exact List.mem_drop_iff_getElem.mpr ⟨0,by simp_all,by simp⟩)
  refine Ak ?_
  refine Ai D1 (if_pos rfl) ?_
  walk_at " pl"
  refine am (.ref 166) D1.k f1 (by kernel_rfl) (by kernel_rfl) (by intros;kernel_rfl) ?_
  refine Ha ⟨Cr D1.k (by kernel_rfl),wpAny_mono (Qq w D1.good (R.mono (by decide)) f1) ?_ λ _ _ e=>e.elim⟩
  walk_at " rv z2 h"
  obtain⟨st2,b,rfl,hbz,hbl,hq2,hp2⟩:=h
  walk_at "c b"
  have D2:=D1.step st2 (in2 (.inl (I1 hqm).1) (.inl (I1 hqm).2) (ltC hox) (ltC hod) f1.x3 f1.d3)
  have X2:=X1.next B.acc B.dis hq st2 hbl hq2 hp2 ⟨λ h=>absurd (hF b h).2 (Nat.not_lt.mpr (Nat.le_trans hzz hbz)),Nat.le_trans D1.good.vol.c hbz,Bc (Nat.le_trans (Nat.le_trans Dz.st.size hzz) hbz)⟩
  refine⟨⟨_,D2⟩,?_,?_,λ _=>⟨bs++[b],by rw[List.map_append];rfl,X2⟩⟩
  ·walk_at " b' o hbT hbC _ h3 e"
   exact st2.get h3 (Hg (λ q'=>hbT (q' ▸ (I1 hqm).1)) (λ q'=>hbT (q' ▸ (I1 hqm).2))) (D1.old e h3 hbC)
  ·walk_at " c hc"
   exact absurd hc (by rw[show Bm C _=[] from by kernel_rfl];exact λ h=>nomatch h)
 ·walk_at " F acc C z' rs k m' hCF hac hF ha hC st hg hns hX"
  obtain⟨bs,rfl,X⟩:=hX hF
  walk_at "c bs"
  rw[List.length_map] at X
  have rf:∀ q∈r.rows,s.heap.get? q.x=none∧s.heap.get? q.d=none:=λ q hq=>⟨hs0 _ (B.acc q hq).x3 (B.fr q hq).1,hs0 _ (B.acc q hq).d3 (B.fr q hq).2⟩
  have D1:=D.step st (λ q hq=>by
   obtain⟨q',hq',h⟩:=L0 hq
   walk_at "c q'"
   rcases h with rfl|rfl
   ·exact⟨.inr (rf q' hq').1,hxL q' hq',(B.acc q' hq').x3⟩
   ·exact⟨.inr (rf q' hq').2,B.nl q' hq',(B.acc q' hq').d3⟩)
  have K1:Cw L hb z'.heap:=K.step st λ q hq=>by
   obtain⟨q',hq',h⟩:=L0 hq
   walk_at "c q'"
   rcases h with rfl|rfl
   ·exact (B.fr q' hq').1
   ·exact (B.fr q' hq').2
  have hzL:@LT.lt Nat _ L z.heap.objs.size:=D.ns.lt
  have hCL:C≠L:=Nat.ne_of_gt (Nat.lt_of_lt_of_le hzL hC)
  have hC3:@LE.le Nat _ 317 C:=Nat.le_trans D.good.vol.c hC
  show wpAny (MD w) _ (assign (.Name "kept" _) (Ab L) (.ref acc)) _ _ _
  refine assign_Name ?_
  refine An D1 ?_ (by kernel_rfl) (by kernel_rfl)
  walk_at " z2 D2"
  refine⟨m',?_,?_⟩
  ·obtain⟨o,es,ep,e,q⟩:=hns
   walk_at "c o es ep"
   exact⟨o,es,ep,D2.old e hC3 hCL,q⟩
  walk_at " h3 hs3"
  have D3:=D2.mut (Bc (Nat.le_trans D.st.size hC)) hCL hC3 hs3
  have fF:∀ {b:Addr} {o:Obj},z.heap.get? b=some o→b≠C:=λ e=>Nat.ne_of_lt (Nat.lt_of_lt_of_le (Heap.lt_size e) hC)
  have up:∀ b o,b≠C→b≠L→@LE.le Nat _ 317 b→z'.heap.get? b=some o→h3.get? b=some o:=λ b o h1 h2 h4 e=>(hs3.2 b h1).trans (D2.old e h4 h2)
  have X3:Hl w.params z.heap [C,L] r.rows r.rows.length bs h3:=by
   have nfl:∀ b∈bs,b∉[C,L]:=λ b hb'=>Hg (λ q=>(X.nF b hb').1 (q ▸ hCF)) (λ q=>by
    have h1:=(X.nF b hb').2.2
    obtain⟨o,_,_,e,_⟩:=D.ns
    walk_at "c o"
    rw[q,e] at h1;cases h1)
   have X':Hl w.params z.heap [C] r.rows r.rows.length bs z'.heap:=⟨X.len,X.emp,X.ful,X.pcs,X.lst,λ b hb'=>⟨λ q=>nfl b hb' (by rw[List.mem_singleton.mp q];exact .head _),(X.nF b hb').2⟩⟩
   have X'':=X'.keep (h':=h3) B.acc (λ b hb'=>by rw[List.mem_singleton.mp hb'];exact hC) (λ b o hbF h317 hor e=>by
    refine up b o (λ q=>hbF (by rw[q];exact .head _)) ?_ h317 e
    rcases hor with h|⟨r',h,rfl⟩
    ·exact Ed D1.ns e h
    ·walk_at "c r'"
     exact B.nl r' h)
   exact⟨X''.len,X''.emp,X''.ful,X''.pcs,X''.lst,λ b hb'=>⟨nfl b hb',(X''.nF b hb').2⟩⟩
  have K3:Cw L hb h3:=λ b o h4 h1 e=>up b o (λ q=>by
   obtain⟨o',e'⟩:∃ o',z.heap.get? b=some o':=⟨o,K b o h4 h1 e⟩
   walk_at "c o'"
   exact fF e' q) h1 h4 (K1 b o h4 h1 e)
  refine c _ _ acc bs D3.self (H.set "kept" (.ref acc)) K3 ?_
  refine⟨⟨k,up _ _ hac (Ed D1.ns hg λ _ _=>nofun) (Nat.le_trans D.good.vol.c ha) hg⟩,⟨nr,up _ _ (fF her) hlrL B.lr3 (st.get B.lr3 (λ q=>(hT _ q).2 rfl) her)⟩,X3.len,X3.lst,λ b hb'=>(X3.nF b hb').2.1,X3.pcs,λ q hq=>X3.emp q (by rw[List.take_length];exact hq),B.nl,Nat.le_trans D.good.vol.c ha,B.lr3⟩
section
variable {w:World} {A:Around} {E:VP} {s:Shared} {env:Env}
noncomputable abbrev Ev (elt t1 i1 t2 i2:PySem.Expr) (scope:Scope) (pos:Pos):PySem.Expr:=.ListComp elt [⟨t1,i1,[],0⟩,⟨t2,i2,[],0⟩] scope pos
theorem turn2_0 (elt t1 i1 t2 i2:PySem.Expr) (scope:Scope) (pos:Pos) (it acc:Value) (env:Env) :
  compTurn (Ev elt t1 i1 t2 i2 scope pos) 0 it acc env=(do
   standAt i1.pos
   match ← pyNext it with
   | none=>pure (.done .next)
   | some v =>
    letOwnedTupleGo t1 it v
    assign t1 env v
    let x ← eval i2 env
    standAt i2.pos
    let x ← foldedSetIterable i2 env x
    let _ ← runOwn (.compStart (Ev elt t1 i1 t2 i2 scope pos) 1 (← holding [x] (pyIter x)) acc env) env
    again (.compLoop (Ev elt t1 i1 t2 i2 scope pos) 0 it acc env)):=by rfl
theorem turn2_1 (elt t1 i1 t2 i2:PySem.Expr) (scope:Scope) (pos:Pos) (it acc:Value) (env:Env) :
  compTurn (Ev elt t1 i1 t2 i2 scope pos) 1 it acc env=(do
   standAt i2.pos
   match ← pyNext it with
   | none=>pure (.done .next)
   | some v =>
    letOwnedTupleGo t2 it v
    assign t2 env v
    (do let _ ← call (.builtin "list.append") [acc,← eval elt env])
    again (.compLoop (Ev elt t1 i1 t2 i2 scope pos) 1 it acc env)):=by rfl
theorem start2_1 {elt t1 i1 t2 i2:PySem.Expr} {scope:Scope} {pos:Pos} {it acc:Value} {R:Result→Shared→Prop}
  (h0:codeAny (MD w) A (.compLoop (Ev elt t1 i1 t2 i2 scope pos) 1 it acc env) R s)
  (h:wpAny (MD w) A (pyIter it) (λ it' s'=>codeAny (MD w) A (.compLoop (Ev elt t1 i1 t2 i2 scope pos) 1 it' acc env) R s') (notedBy (MD w) A env λ x s'=>R (.error x) s') s) :
  codeAny (MD w) A (.compStart (Ev elt t1 i1 t2 i2 scope pos) 1 it acc env) R s:=by
 refine codeAny_of_tree ?_
 show wpAny _ _ ((compStart (Ev elt t1 i1 t2 i2 scope pos) 1 it acc env).onRaise (λ x=>do noteFrame x env;standAt theWindowsPlace)) _ _ s
 refine wpAny_notedAt ?_
 unfold compStart
 show wpAny _ _ (ask >>= _) _ _ s
 refine wpAny_bind (wpAny_askSetting (wpAny_ite ?_))
 split
 ·first
   | exact wpAny_bind (wpAny_pure (wpAny_pure (And.intro rfl h0)))
   | exact wpAny_pure (And.intro rfl h0)
 ·first
   | exact wpAny_bind (wpAny_rule (wpAny_bind (wpAny_standAt (wpAny_bind (wpAny_mono h (λ it' s' h'=>wpAny_pure (And.intro rfl h')) λ _ _ x=>x)))))
   | (refine wpAny_bind (wpAny_rule ?_);show wpAny _ _ (standAt i2.pos >>= _) _ _ s;exact wpAny_bind (wpAny_standAt (wpAny_bind (wpAny_mono h (λ it' s' h'=>wpAny_pure (And.intro rfl h')) λ _ _ x=>x))))
theorem comp_in {elt t1 i1 t2 i2:PySem.Expr} {scope:Scope} {pos:Pos} {I:Addr} {acc:Value} {fp wr:List Addr} {n:Nat} {P:Nat→Value→Prop} {St:Nat→Heap→Prop} {R:Result→Shared→Prop}
  (W:Walks PySem.Challenge.pw_wv0051_01 w A I fp wr n P St) (go:Iy w A t2 I (λ i h=>St (i+1) h)) (Inv:Nat→Shared→Prop) (hSt:∀ i s,Inv i s→St i s.heap)
  (turn:∀ i s,i<n→Inv i s→∀ v h' tk,P i v→St (i+1) h'→(∀ b o,b∉wr→s.heap.get? b=some o→h'.get? b=some o)→s.toks≤tk →
   wpAny (MD w) A (assign t2 env v) (λ _ s₂=>wpAny (MD w) A (eval elt env) (λ x s₄ =>
     wpAny (MD w) A (call (.builtin "list.append") [acc,x]) (λ _ s₅=>Inv (i+1) s₅) (λ _ _=>False) s₄) (λ _ _=>False) s₂) (λ _ _=>False) {s with heap:=h',toks:=tk})
  (done:∀ s,Inv n s→∀ h' tk,(∀ b o,b∉wr→s.heap.get? b=some o→h'.get? b=some o)→s.toks≤tk→R (.ok .next) {s with heap:=h',toks:=tk})
  (h0:Inv 0 s) :
  codeAny (MD w) A (.compLoop (Ev elt t1 i1 t2 i2 scope pos) 1 (.ref I) acc env) R s:=by
 walk_at "c w A s env elt t1 i1 t2 i2 scope pos I acc fp wr n P St R W go Inv hSt turn done h0"
 refine codeAny_loop rfl (λ k s'=>∃ i,Inv i s'∧i≤n∧k=n+1-i) ?_ (n+1) ⟨0,h0,Nat.zero_le _,rfl⟩
 rintro k s' ⟨i,hI,hi,rfl⟩
 walk_at "c s' i"
 show wpAny _ A ((compTurn (Ev elt t1 i1 t2 i2 scope pos) 1 (.ref I) acc env).onRaise (λ x=>do noteFrame x env;theTreesLotGoes x)) _ _ s'
 refine wpAny_noted ?_
 rw[turn2_1]
 by_cases hlt:i<n
 ·refine wpAny_bind (wpAny_standAt (wpAny_bind (wpAny_with_toks (Nat.le_refl s'.toks) (W.item i s' _ _ hlt (hSt _ _ hI) ?_))))
  walk_at " v h₁ tk₁ hP hst₁ hk₁ htk"
  dsimp only
  refine wpAny_bind (go i v _ _ _ hst₁ ?_)
  refine wpAny_bind (wpAny_mono (turn i s' hlt hI v h₁ tk₁ hP hst₁ hk₁ htk) ?_ λ _ _ e=>e.elim)
  walk_at " _ s₂ h₂"
  exact wpAny_bind (wpAny_bind (wpAny_mono h₂ (λ x s₄ h₄=>wpAny_bind (wpAny_mono h₄ (λ _ s₅ h₅=>wpAny_pure (wpAny_pure ⟨rfl,n+1-(i+1),by omega,i+1,h₅,hlt,rfl⟩)) λ _ _ e=>e.elim)) λ _ _ e=>e.elim))
 ·have hin:i=n:=by omega
  subst hin
  refine wpAny_bind (wpAny_standAt (wpAny_bind (wpAny_with_toks (Nat.le_refl s'.toks) (W.done s' _ _ (hSt _ _ hI) ?_))))
  walk_at " h₁ tk₁ hk₁ htk"
  exact wpAny_pure (done s' hI h₁ tk₁ hk₁ htk)
theorem comp_out {elt t1 i1 t2 i2:PySem.Expr} {scope:Scope} {pos:Pos} {I:Addr} {acc:Value} {fp wr:List Addr} {n:Nat} {P:Nat→Value→Prop} {St:Nat→Heap→Prop} {R:Result→Shared→Prop}
  (W:Walks PySem.Challenge.pw_wv0051_01 w A I fp wr n P St) (go:Iy w A t1 I (λ i h=>St (i+1) h)) (hs:∀ x,foldedSetIterable i2 env x=pure x) (Inv:Nat→Shared→Prop) (hSt:∀ i s,Inv i s→St i s.heap)
  (turn:∀ i s,i<n→Inv i s→∀ v h' tk,P i v→St (i+1) h'→(∀ b o,b∉wr→s.heap.get? b=some o→h'.get? b=some o)→s.toks≤tk →
   wpAny (MD w) A (assign t1 env v) (λ _ s₂=>wpAny (MD w) A (eval i2 env) (λ x s₃=>wpAny (MD w) A (pyIter x) (λ it s₄ =>
     codeAny (MD w) A (.compStart (Ev elt t1 i1 t2 i2 scope pos) 1 it acc env) (λ r s₅=>match r with|.ok _=>Inv (i+1) s₅|.error _=>False) s₄) (λ _ _=>False) s₃) (λ _ _=>False) s₂) (λ _ _=>False) {s with heap:=h',toks:=tk})
  (done:∀ s,Inv n s→∀ h' tk,(∀ b o,b∉wr→s.heap.get? b=some o→h'.get? b=some o)→s.toks≤tk→R (.ok .next) {s with heap:=h',toks:=tk})
  (h0:Inv 0 s) :
  codeAny (MD w) A (.compLoop (Ev elt t1 i1 t2 i2 scope pos) 0 (.ref I) acc env) R s:=by
 walk_at "c w A s env elt t1 i1 t2 i2 scope pos I acc fp wr n P St R W go hs Inv hSt turn done h0"
 refine codeAny_loop rfl (λ k s'=>∃ i,Inv i s'∧i≤n∧k=n+1-i) ?_ (n+1) ⟨0,h0,Nat.zero_le _,rfl⟩
 rintro k s' ⟨i,hI,hi,rfl⟩
 walk_at "c s' i"
 show wpAny _ A ((compTurn (Ev elt t1 i1 t2 i2 scope pos) 0 (.ref I) acc env).onRaise (λ x=>do noteFrame x env;theTreesLotGoes x)) _ _ s'
 refine wpAny_noted ?_
 rw[turn2_0]
 by_cases hlt:i<n
 ·refine wpAny_bind (wpAny_standAt (wpAny_bind (wpAny_with_toks (Nat.le_refl s'.toks) (W.item i s' _ _ hlt (hSt _ _ hI) ?_))))
  walk_at " v h₁ tk₁ hP hst₁ hk₁ htk"
  dsimp only
  refine wpAny_bind (go i v _ _ _ hst₁ ?_)
  refine wpAny_bind (wpAny_mono (turn i s' hlt hI v h₁ tk₁ hP hst₁ hk₁ htk) ?_ λ _ _ e=>e.elim)
  walk_at " _ s₂ h₂"
  refine wpAny_bind (wpAny_mono h₂ ?_ λ _ _ e=>e.elim)
  walk_at " x s₃ h₃"
  refine wpAny_bind (wpAny_standAt ?_)
  rw[hs x]
  refine wpAny_bind (wpAny_pure ?_)
  refine wpAny_bind (wpAny_holding (wpAny_mono h₃ ?_ λ _ _ e=>e.elim))
  walk_at " it s₄ h₄"
  refine wpAny_bind (wpAny_runOwn (codeAny_mono h₄ ?_))
  walk_at " r s₅ h₅"
  cases r with
  | ok f=>exact wpAny_pure ⟨rfl,n+1-(i+1),by omega,i+1,h₅,hlt,rfl⟩
  | error e=>exact h₅.elim
 ·have hin:i=n:=by omega
  subst hin
  refine wpAny_bind (wpAny_standAt (wpAny_bind (wpAny_with_toks (Nat.le_refl s'.toks) (W.done s' _ _ (hSt _ _ hI) ?_))))
  walk_at " h₁ tk₁ hk₁ htk"
  exact wpAny_pure (done s' hI h₁ tk₁ hk₁ htk)
end
section
variable {w:World} {A:Around} {E:VP} {env:Env}
theorem Od {names:List (Str×NameKind)} (h:Heap) (hn:∀ y∈names,y.2≠.cell):pushCells h names=h:=by
 induction names generalizing h with
 | nil=>rfl
 | cons y r ih =>
  obtain⟨x,kd⟩:=y
  unfold pushCells
  have:(kd == NameKind.cell)=false:=by
   have:=hn (x,kd) (.head _)
   cases kd<;>simp_all
  rw[this]
  simp only[Bool.false_eq_true,if_false]
  exact ih h λ y hy=>hn y (.tail _ hy)
theorem flat_core {s₁:Shared} {x1 x2:Str} {p1 p2 pe pc pos:Pos} {i1:PySem.Expr} {scope:Scope} {l:Addr} {bs:List Addr} {vss:List (List Value)} {n:Nat} {Q:VP} (hh:A.handled=none) (G:A5 w s₁) (hl:s₁.heap.get? l=some (A6 (bs.map Value.ref) n)) (hl3:@LE.le Nat _ 317 l)
  (hb:∀ (j:Nat) (b:Addr),bs[j]?=some b→∃ vs k,vss[j]?=some vs∧s₁.heap.get? b=some (A6 vs k)) (hb3:∀ b∈bs,@LE.le Nat _ 317 b) (hn:∀ j,((vss.take j).flatten).length≤500) (hvl:∀ vs∈vss,vs.length≤400) (hlen:vss.length=bs.length)
  (hcell:∀ y∈scope.names,y.2≠.cell) (hk:∀ C,(Ew scope [] C env).scope.kind=.function) (h1:∀ C,(Ew scope [] C env).kindOf x1=some .local) (h2:∀ C,(Ew scope [] C env).kindOf x2=some .local) (hd1:(x1 == ("__debug__" : Str))=false) (hd2:(x2 == ("__debug__" : Str))=false)
  (fin:∀ acc s' k,@LE.le Nat _ s₁.heap.objs.size acc→A4 [] s₁ s'→s'.heap.get? acc=some (A6 vss.flatten k)→Q (.ref acc) s') :
  wpAny (MD w) A (pyIter (.ref l)) (λ it s₂=>wpAny (MD w) A (newList []) (λ acc s₃=>wpAny (MD w) A (newFunctionEnv scope env.globals [] [] env.qual none .none (some env)) (λ cenv s₄ =>
   codeAny (MD w) A (.compStart (Ev (.Name x2 pe) (.Name x1 p1) i1 (.Name x2 p2) (.Name x1 pc) scope pos) 0 it acc {cenv with scope:=relabel scope env}) (compPost (MD w) A E none Q acc cenv.locals) s₄) E s₃) E s₂) E s₁:=by
 walk_at "c w A E env s₁ x1 x2 p1 p2 pe pc pos i1 scope l bs vss n Q hh G hl hl3 hb hb3 hn hvl hlen hcell hk h1 h2 hd1 hd2 fin"
 have hlI:l≠s₁.heap.objs.size:=Nat.ne_of_lt (Heap.lt_size hl)
 refine wpAny_pyIter_list (Al hl) ?_
 refine wpAny_newObj_type (Nf ?_)
 dsimp only
 rw[Od _ hcell]
 generalize hH1:s₁.heap.push {cls:=.type "list_iterator", data:=.fields #[.ref l,.int 0 0]}=H1
 have z1:H1.objs.size=s₁.heap.objs.size+1:=by rw[← hH1,Heap.size_push]
 generalize hH2:H1.push {cls:=.type "list", dict:=none,data:=.seq ([]:List Value).toArray}=H2
 have z2:H2.objs.size=s₁.heap.objs.size+2:=by rw[← hH2,Heap.size_push,z1]
 generalize hH3:H2.push {cls:=.type "dict", data:=.dict #[]}=H3
 have z3:H3.objs.size=s₁.heap.objs.size+3:=by rw[← hH3,Heap.size_push,z2]
 have up:∀ b o,s₁.heap.get? b=some o→H3.get? b=some o:=λ b o e=>by
  rw[← hH3,← hH2,← hH1];exact Heap.get?_push_of_some _ (Heap.get?_push_of_some _ (Heap.get?_push_of_some _ e))
 have hit:H3.get? s₁.heap.objs.size=some {cls:=.type "list_iterator", data:=.fields #[.ref l,.int 0 0]}:=by
  rw[← hH3,← hH2];exact Heap.get?_push_of_some _ (Heap.get?_push_of_some _ (hH1 ▸ Heap.get?_push_size _ rfl))
 have hac:H3.get? (s₁.heap.objs.size+1)=some (A6 [] 0):=by
  rw[← hH3,← z1];exact Heap.get?_push_of_some _ (hH2 ▸ Heap.get?_push_size _ rfl)
 have hns:H3.Ns (s₁.heap.objs.size+2) (λ _=>none):=by rw[← hH3,← z2];exact Heap.Ns.new H2 (.type "dict")
 have h317:@LE.le Nat _ 317 s₁.heap.objs.size:=G.vol.c
 have hz13:@LE.le Nat _ s₁.heap.objs.size H3.objs.size:=by rw[z3];exact Nat.le_add_right _ _
 have G4:A5 w {s₁ with heap:=H3}:=⟨G.st.keeps up,G.vol.keeps hz13 up,G.tk⟩
 rw[z1,z2]
 have D0:Cl w [] s₁ (s₁.heap.objs.size+2) H3 (λ _=>none) [] {s₁ with heap:=H3} :=
  ⟨hns,λ _ _ _ _ _ e=>e,λ _ h=>(nomatch h),⟨λ b o _ _ _ e=>up b o e,hz13,G4.vol,Cx.heap (Nat.le_refl _)⟩,Nat.le_add_right _ _,Nat.le_trans h317 (Nat.le_add_right _ _),G4,.inr ⟨_,hns⟩⟩
 generalize hC:s₁.heap.objs.size+2=C at *
 generalize hA:s₁.heap.objs.size+1=acc at *
 generalize hI:s₁.heap.objs.size=I at *
 have hIC:I≠C:=by lia
 have hIa:I≠acc:=by lia
 have haC:acc≠C:=by lia
 have none1:∀ b,@LE.le Nat _ I b→s₁.heap.get? b=none:=λ b h=>Bc (hI ▸ h)
 have W0:=Walks.list (prog:=PySem.Challenge.pw_wv0051_01) (w:=w) (A:=A) hh I l hlI (bs.map Value.ref).toArray
 have hsz:(bs.map Value.ref).toArray.size=bs.length:=by simp
 have hI3:@LE.le Nat _ 317 I:=h317
 have ha3:@LE.le Nat _ 317 acc:=by rw[← hA];exact Nat.le_succ_of_le h317
 have hI0:s₁.heap.get? I=none:=none1 I (Nat.le_refl _)
 have ha0:s₁.heap.get? acc=none:=none1 acc (by rw[← hA];exact Nat.le_succ _)
 have loop:codeAny (MD w) A (.compLoop (Ev (.Name x2 pe) (.Name x1 p1) i1 (.Name x2 p2) (.Name x1 pc) scope pos) 0 (.ref I) (.ref acc) (Ew scope [] C env)) (compPost (MD w) A E none Q (.ref acc) C) {s₁ with heap:=H3}:=by
  refine comp_out W0 (λ i v s Q E st h=>J7 st.1 h) (λ x=>rfl) (λ i z=>∃ m k,Cl w [] s₁ C z.heap m [] z∧(z.heap.IsListIter I l i∧z.heap.IsList l (bs.map Value.ref).toArray)∧z.heap.get? acc=some (A6 ((vss.take i).flatten) k)) (λ i z h=>by obtain⟨_,_,_,h,_⟩:=h;exact h) ?_ ?_ ?_
  ·rintro i z hi ⟨m,k,D,hst,ha⟩ v h' tk hP hst' hk' ht
   walk_at "c i z hi m k D hst ha v h' tk"
   have hk1:∀ b o,b∉[I]→z.heap.get? b=some o→h'.get? b=some o:=hk'
   have D1:=D.outs (wr:=[I]) (λ b hb'=>by rw[List.mem_singleton.mp hb'];exact⟨hI0,hIC,hI3⟩) hk1 ht
   have ha1:=hk1 acc _ (λ q=>hIa (List.mem_singleton.mp q).symm) ha
   rw[hsz] at hi
   obtain⟨b,hv⟩:∃ b,bs[i]?=some b:=⟨_,List.getElem?_eq_getElem hi⟩
   walk_at "c b"
   have hvb:v=.ref b:=by
    have:(bs.map Value.ref)[i]?=some v:=by simpa using hP
    rw[List.getElem?_map,hv] at this
    cases this;rfl
   subst hvb
   obtain⟨vs,kb,hvs,hbl⟩:=hb i b hv
   walk_at "c vs kb"
   have hbm:=hb3 b (List.mem_of_getElem? hv)
   refine assign_Name ?_
   refine Qj (env:=Ew scope [] C env) D1 ?_ (hk C) (h1 C)
   walk_at " z2 D2 hz2"
   refine Ai (env:=Ew scope [] C env) D2 (if_pos rfl) ?_ (hk C) (h1 C) hd1
   have hb2:z2.heap.get? b=some (A6 vs kb):=D2.st.get hbm (λ h=>nomatch h) hbl
   have hbC:b≠C:=λ q=>by rw[q,none1 C (by lia)] at hbl;cases hbl
   have hst2:z2.heap.IsListIter I l (i+1):=by
    obtain⟨o,e,q⟩:=hst'.1
    walk_at "c o"
    exact⟨o,D2.old e hI3 hIC,q⟩
   have ha2:=D2.old ha1 ha3 haC
   have hl2:z2.heap.get? l=some (A6 (bs.map Value.ref) n):=D2.st.get hl3 (λ h=>nomatch h) hl
   refine wpAny_pyIter_list (Al hb2) ?_
   have D3:=D2.rebase.push {cls:=.type "list_iterator", data:=.fields #[.ref b,.int 0 0]} rfl
   generalize hJ:z2.heap.objs.size=J at *
   have hbJ:b≠J:=by rw[← hJ];exact Nat.ne_of_lt (Heap.lt_size hb2)
   have hIJ:I≠J:=by obtain⟨o,e,_⟩:=hst2;rw[← hJ];exact Nat.ne_of_lt (Heap.lt_size e)
   have haJ:acc≠J:=by rw[← hJ];exact Nat.ne_of_lt (Heap.lt_size ha2)
   have hJC:J≠C:=by rw[← hJ];exact Nat.ne_of_gt D2.ns.lt
   have hJ0:s₁.heap.get? J=none:=none1 J (by rw[← hJ,← hI];exact D2.st.size)
   have hJ3:@LE.le Nat _ 317 J:=by rw[← hJ];exact D2.good.vol.c
   have W1:=Walks.list (prog:=PySem.Challenge.pw_wv0051_01) (w:=w) (A:=A) hh J b hbJ vs.toArray
   have hszv:vs.toArray.size=vs.length:=by simp
   have loop1:codeAny (MD w) A (.compLoop (Ev (.Name x2 pe) (.Name x1 p1) i1 (.Name x2 p2) (.Name x1 pc) scope pos) 1 (.ref J) (.ref acc) (Ew scope [] C env)) (λ r s₅=>match r with|.ok _=>∃ m k,Cl w [] s₁ C s₅.heap m [] s₅∧(s₅.heap.IsListIter I l (i+1)∧s₅.heap.IsList l (bs.map Value.ref).toArray)∧s₅.heap.get? acc=some (A6 ((vss.take (i+1)).flatten) k)|.error _=>False) {z2 with heap:=z2.heap.push {cls:=.type "list_iterator", data:=.fields #[.ref b,.int 0 0]}}:=by
    refine comp_in W1 (λ i v s Q E st h=>J7 st.1 h) (λ j z=>∃ m k,Cl w [] s₁ C z.heap m [] z∧(z.heap.IsListIter J b j∧z.heap.IsList b vs.toArray)∧(z.heap.IsListIter I l (i+1)∧z.heap.IsList l (bs.map Value.ref).toArray)∧z.heap.get? acc=some (A6 ((vss.take i).flatten++vs.take j) k)) (λ i z h=>by obtain⟨_,_,_,h,_⟩:=h;exact h) ?_ ?_ ?_
    ·rintro j z' hj ⟨m',k',Dj,hsj,hsI,haj⟩ v h'' tk' hP' hst'' hk'' ht'
     walk_at "c j z' hj m' k' Dj hsj hsI haj v h'' tk'"
     have hkj:∀ b o,b∉[J]→z'.heap.get? b=some o→h''.get? b=some o:=hk''
     have E1:=Dj.outs (wr:=[J]) (λ b hb'=>by rw[List.mem_singleton.mp hb'];exact⟨hJ0,hJC,hJ3⟩) hkj ht'
     rw[hszv] at hj
     have hvj:vs[j]?=some v:=by simpa using hP'
     refine assign_Name ?_
     refine An (env:=Ew scope [] C env) E1 ?_ (hk C) (h2 C)
     walk_at " z3 E2"
     refine Ai (env:=Ew scope [] C env) E2 (if_pos rfl) ?_ (hk C) (h2 C) hd2
     have haj3:=E2.old (hkj _ _ (λ q=>haJ (List.mem_singleton.mp q)) haj) ha3 haC
     have hlv:((vss.take i).flatten++vs.take j).length≤1000:=by
      have:=hn i
      have h4:=hvl vs (List.mem_of_getElem? hvs)
      rw[List.length_append,List.length_take];lia
     refine Fe haj3 hlv ?_
     walk_at " h6 hs6 hg6"
     have E3:=E2.mut ha0 haC ha3 hs6
     have kp:∀ {a:Addr} {o:Obj},a≠acc→a≠C→a≠J→@LE.le Nat _ 317 a→z'.heap.get? a=some o→h6.get? a=some o:=λ q1 q2 q3 q4 e=>(hs6.2 _ q1).trans (E2.old (hkj _ _ (λ q=>q3 (List.mem_singleton.mp q)) e) q4 q2)
     refine⟨_,k'+1,E3,⟨?_,?_⟩,⟨?_,?_⟩,?_⟩
     ·obtain⟨o,e,q⟩:=hst''.1
      walk_at "c o"
      exact⟨o,(hs6.2 _ (Ne.symm haJ)).trans (E2.old e hJ3 hJC),q⟩
     ·exact Al ((E3.st.get hbm (λ h=>nomatch h) hbl))
     ·obtain⟨o,e,q⟩:=hsI.1
      walk_at "c o"
      exact⟨o,kp hIa hIC hIJ hI3 e,q⟩
     ·exact Al ((E3.st.get hl3 (λ h=>nomatch h) hl))
     ·rw[hg6]
      have:vs.take (j+1)=vs.take j++[v]:=by rw[List.take_add_one,hvj];rfl
      rw[this,List.append_assoc]
    ·rintro z' ⟨m',k',Dj,hsj,hsI,haj⟩ h'' tk' hk'' ht'
     walk_at "c z' m' k' Dj hsj hsI haj h'' tk'"
     rw[hszv,List.take_length] at haj
     have hkj:∀ b o,b∉[J]→z'.heap.get? b=some o→h''.get? b=some o:=hk''
     have E1:=Dj.outs (wr:=[J]) (λ b hb'=>by rw[List.mem_singleton.mp hb'];exact⟨hJ0,hJC,hJ3⟩) hkj ht'
     refine⟨m',k',E1,⟨?_,Al (E1.st.get hl3 (λ h=>nomatch h) hl)⟩,?_⟩
     ·obtain⟨o,e,q⟩:=hsI.1
      walk_at "c o"
      exact⟨o,hkj _ _ (λ q=>hIJ (List.mem_singleton.mp q)) e,q⟩
     ·rw[hkj _ _ (λ q=>haJ (List.mem_singleton.mp q)) haj]
      have:vss.take (i+1)=vss.take i++[vs]:=by rw[List.take_add_one,hvs];rfl
      rw[this,List.flatten_append]
      simp
    ·refine⟨_,k,D3.rebase,⟨⟨_,D3.at 0 rfl,rfl,rfl⟩,(Al hb2).push _⟩,⟨?_,(Al hl2).push _⟩,?_⟩
     ·obtain⟨o,e,q⟩:=hst2
      walk_at "c o"
      exact⟨o,Heap.get?_push_of_some _ e,q⟩
     ·rw[Heap.get?_push_of_some _ ha2]
      simp
   exact start2_1 loop1 (W1.self 0 _ _ _ ⟨⟨_,D3.at 0 rfl,rfl,rfl⟩,(Al hb2).push _⟩ loop1)
  ·rintro z ⟨m,k,D,hst,ha⟩ h' tk hk' ht
   walk_at "c z m k D hst ha h' tk"
   rw[hsz] at ha
   have hk1:∀ b o,b∉[I]→z.heap.get? b=some o→h'.get? b=some o:=hk'
   have D1:=D.outs (wr:=[I]) (λ b hb'=>by rw[List.mem_singleton.mp hb'];exact⟨hI0,hIC,hI3⟩) hk1 ht
   have ha1:=hk1 acc _ (λ q=>hIa (List.mem_singleton.mp q).symm) ha
   refine⟨m,D1.ns,?_⟩
   walk_at " h2 hs2"
   have st:=D1.st.freshBut (h':=h2) (hI ▸ h317) (hI ▸ (by lia)) hs2
   refine fin acc _ k (by lia) st ?_
   rw[List.take_of_length_le (by rw[hlen];exact Nat.le_refl _)] at ha1
   exact (hs2.2 acc haC).trans ha1
  ·exact⟨_,0,D0,⟨⟨_,hit,rfl,rfl⟩,Al (up _ _ hl)⟩,by simpa using hac⟩
 exact codeAny_compStart_list loop (W0.self 0 _ _ _ ⟨⟨_,hit,rfl,rfl⟩,Al (up _ _ hl)⟩ loop)
theorem S8 {s:Shared} {x1 x2:Str} {p1 p2 pe pc pos:Pos} {i1:PySem.Expr} {scope:Scope} {Q:VP}
  (hclos:closureFor scope env=pure []) (hkind:scope.kind=.function) (hnames:∀ y∈scope.names,y.2=.local→scope.names.lookup y.1=some .local)
  (h:wpAny (MD w) A (eval i1 env) (λ xv s₁=>wpAny (MD w) A (pyIter xv) (λ it s₂=>wpAny (MD w) A (newList []) (λ acc s₃=>wpAny (MD w) A (newFunctionEnv scope env.globals [] [] env.qual none .none (some env)) (λ cenv s₄ =>
   codeAny (MD w) A (.compStart (Ev (.Name x2 pe) (.Name x1 p1) i1 (.Name x2 p2) (.Name x1 pc) scope pos) 0 it acc {cenv with scope:=relabel scope env}) (compPost (MD w) A E none Q acc cenv.locals) s₄) E s₃) E s₂) E s₁) E s)
  (hs:∀ x,foldedSetIterable i1 env x=pure x:=by intro _;rfl) :
  wpAny (MD w) A (eval (.ListComp (.Name x2 pe) [⟨.Name x1 p1,i1,[],0⟩,⟨.Name x2 p2,.Name x1 pc,[],0⟩] scope pos) env) Q E s:=by
 rw[eval_ListComp]
 exact wpAny_comprehension_free (use:=none) rfl hs hclos hkind hnames (wpAny_mono h (λ xv s₁ h₁=>h₁) λ _ _ e=>e)
end
theorem Q3 {α:Type} (l:List α):(List.range l.length).filterMap (λ i=>l[i]?)=l:=by
 induction l with
 | nil=>rfl
 | cons x l ih =>
  rw[List.length_cons,List.range_succ_eq_map,List.filterMap_cons]
  have e:(x::l)[0]?=some x:=rfl
  rw[e]
  dsimp only
  rw[List.filterMap_map]
  exact congrArg (x::·) ih
theorem Cl.clr {w:World} {S:List Addr} {s₀ s:Shared} {L:Addr} {ref:Heap} {m:SV} {news:AO} (D:Cl w S s₀ L ref m news s):Cl w S s₀ L ref m [] s:=⟨D.ns,D.keep,λ _ h=>(nomatch h),D.st,D.g1,D.hL,D.good,D.rns⟩
noncomputable def srtQ (qs:LS):List (Str×Str):=(srt (ltI qs) qs.length).filterMap λ i=>qs[i]?
theorem Ko {α:Type} {qs:List α} {R:Nat→Nat→Prop} {S:α→α→Prop} {is:List Nat} (h:is.Pairwise R) (hs:∀ i j a b,R i j→qs[i]?=some a→qs[j]?=some b→S a b):(is.filterMap λ i=>qs[i]?).Pairwise S:=by
 induction is with
 | nil=>exact .nil
 | cons i r ih =>
  have h':=List.pairwise_cons.mp h
  have ih:=ih h'.2
  rw[List.filterMap_cons]
  cases hq:qs[i]? with
  | none=>exact ih
  | some a =>
   refine List.pairwise_cons.mpr ⟨λ b hb=>?_,ih⟩
   obtain⟨j,hj,e⟩:=List.mem_filterMap.mp hb
   exact hs i j a b (h'.1 j hj) hq e
theorem Mn {qs:LS} (h2:2≤qs.length):(srtQ qs).Perm qs∧(srtQ qs).Pairwise λ a b=>ltq b a=false:=by
 obtain⟨h1,h3,_⟩:=Hh (Oa qs) h2
 constructor
 ·have h4:=h1.filterMap λ i=>qs[i]?
  rw[Q3 qs] at h4
  exact h4
 ·refine Ko h3 λ i j a b h ea eb=>?_
  have:=h.not (Oa qs)
  unfold ltI at this
  have e1:qs.getD i ("", "")=a:=by simp[List.getD,ea]
  have e2:qs.getD j ("", "")=b:=by simp[List.getD,eb]
  rw[e1,e2] at this
  exact this
theorem srtQ_same {a b:LS} (h2:2≤a.length) (p:a.Perm b):srtQ a=srtQ b:=by
 obtain⟨p1,o1⟩:=Mn h2
 obtain⟨p2,o2⟩:=Mn (qs:=b) (by rw[← p.length_eq];exact h2)
 exact (p1.trans (p.trans p2.symm)).eq_of_pairwise (λ x y _ _ h1 h2=>(ltq_tot h1 h2).symm) o1 o2
theorem Qo (ys:List A0):Eb (Ex ys (srt (ltI (Eb ys)) ys.length))=srtQ (Eb ys):=by
 rw[qs_pick]
 unfold srtQ
 have:(Eb ys).length=ys.length:=List.length_map _
 rw[this]
theorem lawF:∀ (w:World) {A:Around} {s z:Shared} {L lto lk:Addr} {m:SV} {g:GI} {t:TI} {r:RI} {bs:List Addr} {vw vo:Option Value} (R:A3 (A.deeper (Ab L)) 30) (D:Cl w [] s L z.heap m [] z) (H:Cz m (g.nmP t r lto lk)) (X:Ei g L (some (.int t.W t.tW)) vw vo z.heap) (Y:TAt g t z.heap) (V:KSt w.params L lk bs r.lr r.rows z.heap) (hp:(r.rows.flatMap (λ r=>T r.ps)).Perm (T t.zs)) {Q:FP} (c:∀ z',Cl w [] s L z.heap m [] z'→wpAny (MD w) (A.deeper (Ab L)) (execs (Br.drop 6) (Ab L)) Q (λ _ _=>False) z'),
  wpAny (MD w) (A.deeper (Ab L)) (execs (Br.drop 5) (Ab L)) Q (λ _ _=>False) z:=by
 walk_at " w A s z L lto lk m g t r bs vw vo R D H X Y V hp Q c"
 obtain⟨nk,hlk⟩:=V.ek
 walk_at "c nk"
 obtain⟨nw,hlw⟩:=X.src.wrd
 walk_at "c nw"
 have hlwL:g.lw≠L:=D.neSeq hlw λ _ _ h=>by cases h
 have eT:r.rows.flatMap (λ r=>T r.ps)=Eb (r.rows.flatMap λ r=>r.ps):=by
  unfold Eb T
  rw[List.map_flatMap]
 have hpq:(Eb (r.rows.flatMap λ r=>r.ps)).Perm (Eb g.ys):=by rw[← eT];exact hp.trans (Y.prm.map _)
 generalize hps:(r.rows.flatMap λ r=>r.ps)=ps at hpq
 have hpl:ps.length=8:=by
  have:=hpq.length_eq
  unfold Eb at this
  rw[List.length_map,List.length_map,X.src.eight] at this
  exact this
 have hpo:∀ y∈ps,Ar z.heap y:=λ y hy=>by
  rw[← hps] at hy
  obtain⟨q,hq,hy⟩:=List.mem_flatMap.mp hy
  exact V.pcs q hq y hy
 refine wpAny_execs_cons ?_
 refine wpAny_If ?_
 walk_at "s3"
 refine Am ?_
 walk_at "b sorted"
 refine Co (spliced_more ?_)
 refine S8 (by kernel_rfl) (by kernel_rfl) (by decide +kernel) ?_
 refine Ai D (H.at 0 rfl) ?_
 have efl:(r.rows.map λ q=>q.ps.map λ y=>Value.ref y.a).flatten=ps.map λ y=>Value.ref y.a:=by rw[← hps,List.map_flatMap,List.flatMap_def]
 refine flat_core (vss:=r.rows.map λ q=>q.ps.map λ y=>Value.ref y.a) R.hd D.good hlk V.lk3 ?_ V.b3 ?_ ?_ (by rw[List.length_map];exact V.len.symm) (by decide +kernel) (λ C=>by kernel_rfl) (λ C=>by kernel_rfl) (λ C=>by kernel_rfl) (by decide +kernel) (by decide +kernel) ?_
 ·walk_at " j b hj"
  have hjl:j<r.rows.length:=by rw[← V.len];exact (List.getElem?_eq_some_iff.mp hj).1
  have hq:r.rows[j]?=some r.rows[j]:=List.getElem?_eq_getElem hjl
  refine⟨_,0,by rw[List.getElem?_map,hq];rfl,V.lst j b _ hj hq⟩
 ·walk_at " j"
  have h1:((r.rows.map λ q=>q.ps.map λ y=>Value.ref y.a).take j).flatten.length≤(r.rows.map λ q=>q.ps.map λ y=>Value.ref y.a).flatten.length:=by
   conv=>rhs;rw[← List.take_append_drop j (r.rows.map λ q=>q.ps.map λ y=>Value.ref y.a),List.flatten_append,List.length_append]
   exact Nat.le_add_right _ _
  rw[efl,List.length_map,hpl] at h1
  exact Nat.le_trans (by assumption) (by decide)
 ·walk_at " vs hvs"
  have h1:=(List.sublist_flatten_of_mem hvs).length_le
  rw[efl,List.length_map,hpl] at h1
  exact Nat.le_trans (by assumption) (by decide)
 walk_at " acc z1 k1 hac st1 hg1"
 rw[efl] at hg1
 have D1:=D.step0 st1
 have hpo1:∀ y∈ps,Ar z1.heap y:=λ y hy=>⟨st1.get (hpo y hy).2.1 (λ h=>nomatch h) (hpo y hy).1,(hpo y hy).2⟩
 refine spliced_none ⟨Bh,Or D1 hg1 hpo1 (by simp_all +arith) (by simp_all) ?_⟩
 walk_at " z2 a e D2 ha0"
 have D2':=D1.under D2.clr
 refine Am ?_
 walk_at "b sorted"
 refine Co (spliced_more ?_)
 refine Ai D2 (H.at 8 rfl) ?_
 have hy2:∀ y∈g.ys,Ar z2.heap y:=λ y hy=>D2'.piece (X.src.pcs y hy)
 refine spliced_none ⟨Bh,Or D2' (D2'.old hlw X.src.w3 hlwL) hy2 (by rw[X.src.eight];decide) (by rw[X.src.eight];decide) ?_⟩
 walk_at " z3 b e3 D3 hb0"
 have D3':=D2'.under D3.clr
 have hp2:∀ y∈ps,Ar z3.heap y:=λ y hy=>D3'.piece (hpo y hy)
 have hy3:∀ y∈g.ys,Ar z3.heap y:=λ y hy=>D3'.piece (X.src.pcs y hy)
 have rng:∀ {xs:List A0},2≤xs.length→∀ i∈srt (ltI (Eb xs)) xs.length,i<xs.length:=λ h i hi=>List.mem_range.mp ((Hh (Oa _) h).1.mem_iff.mp hi)
 have r1:=rng (xs:=ps) (by simp_all +arith)
 have r2:=rng (xs:=g.ys) (by rw[X.src.eight];decide)
 have ea:z3.heap.get? a=some (A6 ((Ex ps (srt (ltI (Eb ps)) ps.length)).map λ y=>Value.ref y.a) e):=by
  rw[← Fg r1]
  have h:=D2.nw _ (.head _)
  exact D3.old h.1 h.2.2 h.2.1
 have eb:z3.heap.get? b=some (A6 ((Ex g.ys (srt (ltI (Eb g.ys)) g.ys.length)).map λ y=>Value.ref y.a) e3):=by
  rw[← Fg r2];exact D3.at 0 rfl
 have m1:∀ y∈Ex ps (srt (ltI (Eb ps)) ps.length),y∈ps:=λ y hy=>by
  obtain⟨i,_,e⟩:=List.mem_filterMap.mp hy
  exact List.mem_of_getElem? e
 have m2:∀ y∈Ex g.ys (srt (ltI (Eb g.ys)) g.ys.length),y∈g.ys:=λ y hy=>by
  obtain⟨i,_,e⟩:=List.mem_filterMap.mp hy
  exact List.mem_of_getElem? e
 have hq2:2≤(Eb ps).length:=by unfold Eb;rw[List.length_map];simp_all
 refine Nd (λ y hy=>hp2 y (m1 y hy)) (λ y hy=>hy3 y (m2 y hy)) ea eb (by rw[Qo,Qo];exact srtQ_same hq2 hpq) ?_ (R.mono (by decide:5≤30)).u64 ?_
 ·walk_at " q hq"
  rw[Qo] at hq
  exact X.src.okQs q (hpq.mem_iff.mp ((Mn hq2).1.mem_iff.mp hq))
 refine wpAny_truthy_bool ?_
 refine Be (by decide) ?_
 refine wpAny_execs_nil ?_
 exact c z3 D3'
section
variable {w:World} {S:List Addr} {s₀:Shared} {L:Addr} {ref:Heap} {m:SV} {news:AO} {s:Shared} {A:Around} {E:VP} {Q:VP}
theorem Cl.newAt (D:Cl w S s₀ L ref m news s) {h':Heap} {o:Obj} (F':Fr Gy L h' m) (N':News Gy L h' ((s.heap.objs.size,o)::Kj s.heap L)):Cl w S s₀ L s.heap m [(s.heap.objs.size,o)] {s with heap:=h'}:=by
 have kp:∀ b o,b≠L→s.heap.get? b=some o→h'.get? b=some o:=λ b o q e=>(N' (b,o) (.tail _ (Bu.mpr ⟨q,e⟩))).1
 have D2:=D.back (h':=h') (t:=s.toks) F'.ns kp (Nat.le_refl _)
 have na:=N' _ (.head _)
 exact⟨D2.ns,λ b o q _ _ e=>kp b o q e,λ p hp=>(by rw[List.mem_singleton.mp hp];exact⟨na.1,na.2.1,D.good.vol.c⟩),D2.st,D2.g1,D2.hL,D2.good,.inr ⟨_,D.ns⟩⟩
theorem Sr {l b:Addr} {vs ws:List Value} {n k:Nat} (D:Cl w S s₀ L ref m news s) (hl:s.heap.get? l=some (A6 vs n)) (hb:s.heap.get? b=some (A6 ws k)) (hsz:vs.length+ws.length≤1000)
  (h:∀ s' a,Cl w S s₀ L s.heap m [(a,A6 (vs++ws) 0)] s'→Q (.ref a) s'):wpAny (MD w) A (binaryOp .Add (.ref l) (.ref b)) Q E s:=by
 obtain⟨F,N⟩:=D.frNo
 exact add_lists F N (Al hl) (Al hb) (λ h' F' N'=>h _ _ (D.newAt F' N')) (Nat.le_trans hsz (by decide +kernel))
theorem n_mulOne {l:Addr} {v:Value} {n:Nat} {x:Int} {u:Tok} (D:Cl w S s₀ L ref m news s) (hl:s.heap.get? l=some (A6 [v] n)) (h0:0≤x) (h1:x≤1000)
  (h:∀ s' a,Cl w S s₀ L s.heap m [(a,A6 (List.replicate x.toNat v) 0)] s'→Q (.ref a) s'):wpAny (MD w) A (binaryOp .Mult (.ref l) (.int x u)) Q E s:=by
 obtain⟨F,N⟩:=D.frNo
 refine mul_list F N hl (by lia) (by lia) (by simp;lia) (λ h' F' N'=>?_)
 have D':=D.newAt F' N'
 have e:(List.foldl (λ x1 x2=>x1++x2) #[] (List.replicate (if ([v]:List Value).toArray.isEmpty=true then 0 else x.toNat) ([v]:List Value).toArray))=(List.replicate x.toNat v).toArray:=by
  rw[listMul_foldl_if,List.flatten_replicate_singleton]
 rw[e] at D'
 exact h _ _ D'
end
theorem ints_rep (n:Nat) (t:Tok):IntsAre (List.replicate n (Value.int 0 t)) (List.replicate n 0):=by
 induction n with
 | zero=>exact .nil
 | succ n ih=>exact .cons 0 t ih
theorem lawG:∀ (w:World) {A:Around} {s z:Shared} {L lto lk:Addr} {m:SV} {g:GI} {t:TI} {r:RI} {bs:List Addr} {vw vo:Option Value} (R:A3 (A.deeper (Ab L)) 30) (D:Cl w [] s L z.heap m [] z) (H:Cz m (g.nmP t r lto lk)) (X:Ei g L (some (.int t.W t.tW)) vw vo z.heap) (V:KSt w.params L lk bs r.lr r.rows z.heap) (hne:r.rows≠[]) (hfew:r.rows.length≤60) (hh0:0≤g.hd∧g.hd≤1000) (hi:(r.rows.map (·.init)).Perm (if g.hd=0 then List.replicate r.rows.length 0 else g.hd::List.replicate (r.rows.length-1) 0)) {Q:FP} (c:∀ z',Cl w [] s L z.heap m [] z'→Q .next z'),
  wpAny (MD w) (A.deeper (Ab L)) (execs (Br.drop 6) (Ab L)) Q (λ _ _=>False) z:=by
 walk_at " w A s z L lto lk m g t r bs vw vo R D H X V hne hfew hh0 hi Q c"
 obtain⟨nr,hlr⟩:=V.er
 walk_at "c nr"
 have hlrL:r.lr≠L:=D.neSeq hlr λ _ _ h=>by cases h
 have hib:∀ q∈r.rows,0≤q.init∧q.init<100000:=λ q hq=>by
  have:=hi.mem_iff.mp (List.mem_map_of_mem (f:=(·.init)) hq)
  split at this
  ·rw[(List.mem_replicate.mp this).2];decide
  ·rcases List.mem_cons.mp this with h|h
   ·rw[h];lia
   ·rw[(List.mem_replicate.mp h).2];decide
 refine wpAny_execs_cons ?_
 refine wpAny_If ?_
 walk_at "s3"
 refine Am ?_
 walk_at "b sorted"
 refine Co (spliced_more ?_)
 refine Fn [] (by kernel_rfl) (by kernel_rfl) (by decide +kernel) ?_
 refine Ai D (H.at 3 rfl) ?_
 refine G0 R.hd D.good hlr V.lr3 (by rw[List.length_map];exact Nat.le_trans (by assumption) (by decide)) (by intro C;kernel_rfl) (λ (i:Nat) (rs:List Value) (_:Tok)=>IntsAre rs ((r.rows.take i).map λ q:A7=>q.init)) (λ _=>by simpa using IntsAre.nil) (λ _ _ _ _ _ h=>h) ?_ ?_
 ·walk_at " C i v z1 m1 rs hv hlen Dz hX"
  rw[List.getElem?_map] at hv
  obtain⟨q,hq,rfl⟩:=Option.map_eq_some_iff.mp hv
  walk_at "c q"
  have hqm:=List.mem_of_getElem? hq
  refine assign_Name ?_
  refine An Dz ?_ (by kernel_rfl) (by kernel_rfl)
  walk_at " z2 D2"
  refine wpAny_tests_nil ?_
  rw[if_pos rfl]
  refine Am ?_
  walk_at "g 268"
  refine Co (spliced_more ?_)
  refine Ai D2 (if_pos rfl) ?_
  have q2:=(V.emp q hqm).step D2.st
  have ea:Au q.init []=q.init:=by simp[Au]
  refine spliced_none ⟨Cr D2.k (by kernel_rfl),wpAny_mono (Ae w D2.good (R.mono (by decide)) q2 (by rw[ea];exact (hib q hqm).1) (by rw[ea];exact (hib q hqm).2)) ?_ λ _ _ e=>e.elim⟩
  walk_at " rv z3 h"
  obtain⟨⟨t3,_,rfl⟩,st3⟩:=h
  walk_at "c t3"
  refine⟨⟨_,_,D2.step0 st3⟩,?_⟩
  have e:r.rows.take (i+1)=r.rows.take i++[q]:=by rw[List.take_add_one,hq];rfl
  rw[e,List.map_append,ea]
  exact ksk_snoc hX
 ·walk_at " acc z1 rs k hac st1 hg1 hX"
  rw[List.length_map,List.take_length] at hX
  have D1:=D.step0 st1
  refine spliced_none ⟨Bh,Qh D1 hg1 hX (by rw[hX.length,List.length_map];exact Nat.lt_of_le_of_lt (by assumption) (by decide)) ?_⟩
  walk_at " z2 a vs' ns' e D2 ha0 ha3 hi' hp' hs'"
  walk_at "s3"
  rename_i z3 t3 D3 ht3 z4 lz D4 lz3 lz0
  refine Am ?_
  walk_at "b len"
  refine Co (spliced_more ?_)
  refine Ai D4 (H.at 3 rfl) ?_
  refine spliced_none ⟨Bh,n_len D4 (D4.old hlr V.lr3 hlrL) (by rw[List.length_map];exact Nat.le_trans (by assumption) (by decide)) ?_⟩
  walk_at " z5 t5 D5"
  walk_at "s3"
  rename_i z6 t6 D6 ht6 z7 t7 D7 ht7
  have hn1:1≤r.rows.length:=List.length_pos_iff.mpr hne
  rw[List.length_map]
  refine n_mulOne D7 (D7.at 0 rfl) (by lia) (by lia) ?_
  walk_at " z8 lm D8"
  refine Gv ?_
  have D8':=D7.under D8.clr
  refine spliced_more ?_
  refine Ay (X.cel.now D8').c1 ?_
  refine spliced_none ?_
  refine C8 D8 ?_ (Nat.le_of_ble_eq_true rfl)
  walk_at " z9 lh D9 lh3 lh0 lhz"
  refine Sr D9 (D9.at 1 rfl) (D9.at 0 rfl) (by simp;exact Nat.le_trans (by assumption) (by decide)) ?_
  walk_at " z10 ld D10"
  have ha7:=D7.nw (a,A6 vs' e) (.tail _ (.head _))
  have ha8:=D8.old ha7.1 ha7.2.2 ha7.2.1
  have ha9:=D9.old ha7.1 ha7.2.2 ha7.2.1
  have ha10:=D10.old ha9 ha7.2.2 ha7.2.1
  have hval:ns'=List.replicate (r.rows.length-1) 0++[g.hd]:=by
   refine Lu (hp'.trans (hi.trans ?_)) hs' ?_
   ·split
    ·rename_i h0
     rw[h0,show r.rows.length=(r.rows.length-1)+1 by lia,List.replicate_succ']
     simp
    ·exact List.perm_append_comm (l₁:=[g.hd])
   ·refine List.pairwise_append.mpr ⟨List.pairwise_replicate.mpr (.inr (Int.le_refl _)),List.pairwise_singleton _ _,?_⟩
    walk_at " x hx y hy"
    rw[(List.mem_replicate.mp hx).2,List.mem_singleton.mp hy]
    exact hh0.1
  have hint:IntsAre (List.replicate (((r.rows.length:Int)-1).toNat) (Value.int 0 t3)++[Value.int g.hd g.th]) (List.replicate (r.rows.length-1) 0++[g.hd]):=by
   rw[show ((r.rows.length:Int)-1).toNat=r.rows.length-1 by simp]
   exact ksk_snoc (ints_rep _ _)
  refine Mh ha10 (D10.at 0 rfl) hi' hint (R.mono (by decide:5≤30)).u64 ?_
  rw[hval]
  refine wpAny_truthy_bool ?_
  refine Be (by simp) ?_
  refine wpAny_execs_nil ?_
  refine wpAny_execs_nil ?_
  exact c z10 ((D7.under D9.clr).under D10.clr).clr
theorem Cw.trans {L:Addr} {a b c:Heap} (x:Cw L a b) (y:Cw L b c):Cw L a c:=λ q o h3 h1 e=>y q o h3 h1 (x q o h3 h1 e)
theorem KSt.kb {P:Params} {L lk lr:Addr} {bs:List Addr} {rows:List A7} {h h':Heap} {m:SV} (V:KSt P L lk bs lr rows h) (k:Cw L h h') (n:h.Ns L m):KSt P L lk bs lr rows h':=by
 have he:∀ r∈rows,A2 P h' r.x r.d r.init []:=λ r hr=>by
  have q:=V.emp r hr
  refine⟨?_,?_,(λ _ h=>nomatch h),q.x3,q.d3,Nat.zero_le _⟩
  ·obtain⟨j,e⟩:=q.ox
   exact⟨j,k _ _ q.x3 (Ed n e λ _ _=>nofun) e⟩
  ·obtain⟨t,ti,e,z⟩:=q.od
   exact⟨t,ti,k _ _ q.d3 (V.nl r hr) e,z⟩
 exact⟨V.ek.elim λ j e=>⟨j,k.lst n V.lk3 e⟩,V.er.elim λ j e=>⟨j,k.lst n V.lr3 e⟩,V.len,λ j b r e1 e2=>k.lst n (V.b3 b (List.mem_of_getElem? e1)) (V.lst j b r e1 e2),V.b3,λ r hr y hy=>(V.pcs r hr y hy).kps (k.S n),he,V.nl,V.lk3,V.lr3⟩
noncomputable def La (g:GI) (t:TI):Prop:=∀ k,k<8→Hr g.p t.W g.hd (T t.zs) k (Gp t.W g.hd (((T t.zs).take (k+1)).map Cn))
theorem Q8 (p:Int):0≤B0 p∧B0 p≤1000:=by
 have hb:=Bo p
 obtain⟨h1,h2⟩:=Bv (p.fdiv 480) (b:=2) (by decide)
 unfold B0
 constructor
 ·exact Int.mul_nonneg (by lia) h1
 ·have:(p.fdiv 480).fmod 2≤1:=by lia
  calc S3 p*(p.fdiv 480).fmod 2≤S3 p*1:=Int.mul_le_mul_of_nonneg_left this (by lia)
   _≤1000:=by omega
theorem law_turn (w:World) {A:Around} {s z:Shared} {L:Addr} {m:SV} {g:GI} {t:TI} {vw vo:Option Value} (R:A3 (A.deeper (Ab L)) 30) (D:Cl w [] s L z.heap m [] z)
  (H:Cz m (g.nmT t)) (X:Ei g L (some (.int t.W t.tW)) vw vo z.heap) (Y:TAt g t z.heap) (TL:La g t) (hW:S3 g.p≤t.W∧t.W<1000) {Q:FP}
  (c:∀ m' z',Cl w [] s L z'.heap m' [] z'→Cz m' g.nm→Cw L z.heap z'.heap→Q .next z') :
  wpAny (MD w) (A.deeper (Ab L)) (execs Br (Ab L)) Q (λ _ _=>False) z:=by
 have h8:t.zs.length=8:=by rw[Y.prm.length_eq,X.src.eight]
 have hT8:(T t.zs).length=8:=by unfold T;rw[List.length_map,h8]
 have n0:=D.ns
 have k1:=@lawA w A s z L m g t vw vo R D H X Y
 refine @k1 _ ?_
 intro m1 z1 r D1 H1 K1 B1 P1
 have hlvl:r.lv.length=8:=by rw[P1.lv,List.length_map,List.length_range,hT8]
 have hlla:r.lla.length=8:=by rw[B1.len,hlvl]
 have hlv:∀ k<8,∃ ls,r.lv[k]?=some ls∧Hr g.p t.W g.hd (T t.zs) k ls:=λ k hk=>by
  refine⟨_,?_,TL k hk⟩
  rw[P1.lv,List.getElem?_map,List.getElem?_range (by rw[hT8];exact hk)]
  rfl
 have X1:=X.kb K1 n0 D.hL
 have k2:=@lawB w A s z1 L m1 g t r vw vo z.heap R D1 H1 X1 B1 hlvl
 refine @k2 _ ?_
 intro m2 z2 lto vt nt D2 H2 K2 lto1 lto0 lto3 hlto hvt
 have n1:=D1.ns
 have k3:=@lawC w A s z2 L lto m2 g t r vt nt vw vo z1.heap z.heap m1 R D2 n1 H2 X1 (Y.kb K1 n0) B1 K2 h8 hlla hlv hW lto3 lto0 lto1 hlto hvt
 refine @k3 _ ?_
 intro m3 z3 D3 H3 K3
 have K03:=K1.trans K3
 have hrow:r.rows.length≤20:=by have:=P1.cnt;lia
 have hs0:∀ a,@LE.le Nat _ 317 a→z.heap.get? a=none→s.heap.get? a=none:=λ a h3 e=>D.fresh0 (λ _ hq=>nomatch hq) h3 e
 have hLb:∃ o,z.heap.get? L=some o:=D.ns.elim λ o qq=>qq.elim λ _ qq=>qq.elim λ _ qq=>qq.elim λ e _=>⟨o,e⟩
 have k4:=@lawD w A s z3 L lto m3 g t r z.heap R D3 H3 (B1.kb K3 n1) K03 (by exact Nat.le_trans (by assumption) (by decide)) hs0 hLb
 refine @k4 _ ?_
 intro m4 z4 lk bs D4 H4 K4 V4
 have X4:=X.kb K4 n0 D.hL
 have k5:=@lawF w A s z4 L lto lk m4 g t r bs vw vo R D4 H4 X4 (Y.kb K4 n0) V4 P1.pcs
 refine @k5 _ ?_
 intro z5 D5
 have K45:Cw L z4.heap z5.heap:=(Cw.refl _ _).now D5
 have n4:=D4.ns
 have hne:r.rows≠[]:=λ e=>by
  have:=P1.pcs.length_eq
  rw[e,hT8] at this
  simp at this
 have k6:=@lawG w A s z5 L lto lk m4 g t r bs vw vo R D5.self H4 (X4.kb K45 n4 D.hL) (V4.kb K45 n4) hne (by exact Nat.le_trans (by assumption) (by decide)) (Q8 g.p) P1.ini
 refine @k6 _ ?_
 intro z6 D6
 exact c m4 z6 D6.self (H4.sub λ q hq=>.tail _ (.tail _ (.tail _ (.tail _ (.tail _ hq))))) ((K4.trans K45).now D6)
theorem Qy:∀ {p:Int} {vs:List Value} (h:IntsAre vs [W0 p,W1 p]),
  ∃ t u,vs[0]?=some (.int (W0 p) t)∧vs[1]?=some (.int (W1 p) u)∧vs.length=2:=by
 walk_at " p vs h"
 cases h with|cons _ t h=>cases h with|cons _ u h=>cases h;exact⟨t,u,rfl,rfl,rfl⟩
theorem Fx (p:Int):(S3 p≤W0 p∧W0 p<1000)∧(S3 p≤W1 p∧W1 p<1000):=by
 have hb:=Bo p
 have h1:=Bv (p.fdiv 24) (b:=2) (by decide)
 have h2:=Bv (p.fdiv 48) (b:=10) (by decide)
 unfold W0 W1
 refine⟨⟨?_,?_⟩,?_,?_⟩
 ·calc S3 p=S3 p*1:=(Int.mul_one _).symm
   _≤S3 p*(1+(p.fdiv 24).fmod 2):=Int.mul_le_mul_of_nonneg_left (by omega) (by omega)
 ·calc S3 p*(1+(p.fdiv 24).fmod 2)≤S3 p*2:=Int.mul_le_mul_of_nonneg_left (by omega) (by omega)
   _<1000:=by omega
 ·omega
 ·omega
theorem Ei.F {g:GI} {L:Addr} {vr vw vo:Option Value} {h h':Heap} (X:Ei g L vr vw vo h) (k:KpF h h') (hL:@LE.le Nat _ 317 L):Ei g L vr vw vo h' :=
 ⟨X.src.kps (El.ofF k),X.cel.F k hL,X.flg.elim λ j e=>⟨j,lst_F k X.lf3 e⟩,X.lf3,X.thn⟩
theorem law4:∀ (w:World) {A:Around} {s z:Shared} {L:Addr} {m:SV} {g:GI} {vr vw vo:Option Value} (R:A3 (A.deeper (Ab L)) 30) (D:Cl w [] s L z.heap m [] z) (H:Cz m g.nm) (X:Ei g L vr vw vo z.heap) (TL0:∀ lt tW,La g ⟨lt,g.ys,W0 g.p,tW⟩) (TL1:∀ lt tW,La g ⟨lt,Ex g.ys (En g.ys),W1 g.p,tW⟩) {Q:FP} (c:∀ m' z' vr',Cl w [] s L z'.heap m' [] z'→Cz m' g.nm→Ei g L vr' vw vo z'.heap →
   wpAny (MD w) (A.deeper (Ab L)) (execs (Bb.drop 5) (Ab L)) Q (λ _ _=>False) z'),
  wpAny (MD w) (A.deeper (Ab L)) (execs (Bb.drop 4) (Ab L)) Q (λ _ _=>False) z:=by
 walk_at " w A s z L m g vr vw vo R D H X TL0 TL1 Q c"
 obtain⟨vd,nd,hlwd,hvd⟩:=X.src.wid
 walk_at "c vd nd"
 obtain⟨t0,t1,hv0,hv1,hvl⟩:=Qy hvd
 walk_at "c t0 t1"
 have hdL:g.lwd≠L:=D.neSeq hlwd λ _ _ h=>by cases h
 refine wpAny_execs_cons ?_
 refine wpAny_For ?_
 refine J5 ?_
 refine spliced_more ?_
 refine J5 ?_
 refine spliced_more ?_
 refine Ai D (H.at 3 rfl) ?_
 refine spliced_more ?_
 refine Aj ?_
 refine Ai D (H.at 2 rfl) ?_
 refine Gx D ?_
 walk_at " z1 u1 D1 _"
 refine Dp (D1.old hlwd X.src.d3 hdL) (by decide) hv0 (by omega) ?_
 refine spliced_none ?_
 refine Ca D1 ?_ (Nat.le_of_ble_eq_true rfl)
 walk_at " z2 ta D2 ta3"
 refine spliced_more ?_
 refine J5 ?_
 refine spliced_more ?_
 refine Ai D2 (H.at 0 rfl) ?_
 refine spliced_more ?_
 refine Aj ?_
 refine Ai D2 (H.at 2 rfl) ?_
 refine Gx D2 ?_
 walk_at " z3 u3 D3 _"
 refine Dp (D3.old hlwd X.src.d3 hdL) (by decide) hv1 (by omega) ?_
 refine spliced_none ?_
 refine Ca D3 ?_ (Nat.le_of_ble_eq_true rfl)
 walk_at " z4 tb D4 tb3"
 refine spliced_none ?_
 refine Ca D4 ?_ (Nat.le_of_ble_eq_true rfl)
 walk_at " z5 tt D5 tt3"
 have n0:=D.ns
 have K5:Cw L z.heap z5.heap:=(Cw.refl _ _).now D5
 have ea:z5.heap.get? ta=some {cls:=.type "tuple", data:=.seq #[.ref g.lw,.int (W0 g.p) t0]}:=D5.at 2 rfl
 have eb:z5.heap.get? tb=some {cls:=.type "tuple", data:=.seq #[.ref g.lf,.int (W1 g.p) t1]}:=D5.at 1 rfl
 refine Rf (vs:=[.ref ta,.ref tb]) R.hd D5 (D5.at 0 rfl) (λ i m' z'=>Cz m' g.nm∧(∃ vr',Ei g L vr' vw vo z'.heap)∧z'.heap.get? ta=some {cls:=.type "tuple", data:=.seq #[.ref g.lw,.int (W0 g.p) t0]}∧z'.heap.get? tb=some {cls:=.type "tuple", data:=.seq #[.ref g.lf,.int (W1 g.p) t1]}∧z'.heap.get? tt=some {cls:=.type "tuple", data:=.seq #[.ref ta,.ref tb]}) ?_ ?_ ?_ ?_
 ·rintro i m z z' hk ht ⟨h1,⟨vr',h2⟩,h3,h4,h5⟩
  walk_at "c i m z z' hk ht h1 vr'"
  exact⟨h1,⟨vr',h2.F hk D.hL⟩,hk _ _ ta3 (λ _=>nofun) h3,hk _ _ tb3 (λ _=>nofun) h4,hk _ _ tt3 (λ _=>nofun) h5⟩
 ·exact⟨H,⟨vr,X.kb K5 n0 D.hL⟩,ea,eb,D5.at 0 rfl⟩
 ·rintro I i m' z' v hv hI3 hIL hI0 ⟨oI,vI,hoI,hdI⟩ ⟨Hi,⟨vr',Xi⟩,e1,e2,e3⟩ Dz
  walk_at "c I i m' z' v hv hI3 hIL hI0 oI vI hoI hdI Hi vr'"
  have main:∀ (Q':FP) (p1 p2 p3:Pos) (kk:Nat) (te lt:Addr) (zs:List A0) (W:Int) (tW:Tok),v=.ref te→@LE.le Nat _ 317 te→z'.heap.get? te=some {cls:=.type "tuple", data:=.seq #[.ref lt,.int W tW]}→La g ⟨lt,zs,W,tW⟩→(S3 g.p≤W∧W<1000)→(∃ n,z'.heap.get? lt=some (A6 (zs.map λ y=>Value.ref y.a) n))→@LE.le Nat _ 317 lt→zs.Perm g.ys→wpAny (MD w) (A.deeper (Ab L)) (assign (.Tuple [.Name "things" p1,.Name "room" p2] kk p3) (Ab L) v) (λ _ s₂=>wpAny (MD w) (A.deeper (Ab L)) (execs Br (Ab L)) (Ac w [] s L [I,tt] (λ i m' z'=>Cz m' g.nm∧(∃ vr',Ei g L vr' vw vo z'.heap)∧z'.heap.get? ta=some {cls:=.type "tuple", data:=.seq #[.ref g.lw,.int (W0 g.p) t0]}∧z'.heap.get? tb=some {cls:=.type "tuple", data:=.seq #[.ref g.lf,.int (W1 g.p) t1]}∧z'.heap.get? tt=some {cls:=.type "tuple", data:=.seq #[.ref ta,.ref tb]}) Q' i z') (λ _ _=>False) s₂) (λ _ _=>False) z':=by
   rintro Q' p1 p2 p3 kk te lt zs W tW rfl te3 het TL hW ⟨nl,hlt⟩ lt3 hprm
   walk_at "c Q' p1 p2 p3 kk te lt zs W tW hv te3 het TL hW nl"
   refine Ch Dz R.hd ⟨_,het,rfl,0,rfl⟩ rfl rfl ?_
   walk_at " z6 D6"
   refine assignInOrder_cons (assign_Name ?_)
   refine An D6 ?_ (by kernel_rfl) (by kernel_rfl)
   walk_at " z7 D7"
   have H7:=Hi.set "things" (.ref lt)
   have K7:Cw L z'.heap z7.heap:=(Cw.refl _ _).now D7
   have X7:=Xi.kb K7 Dz.ns Dz.hL
   refine assignInOrder_cons (assign_Name ?_)
   refine Ck D7 X7.cel.c2 (Bc (Nat.le_trans D7.g1 (Nat.le_add_right _ _))) (Nat.ne_of_gt (Nat.lt_add_of_pos_right (by decide))) (Nat.le_trans D7.hL (Nat.le_add_right _ _)) ?_
   walk_at " z8 D8 hc8 hk8"
   refine assignInOrder_nil ?_
   have cne:∀ {b:Addr} {o:Obj},z7.heap.get? b=some o→(∀ v,o.data≠.cell v)→b≠L+2:=λ {b o} e hd q=>by
    obtain⟨oc,e1,d1⟩:=X7.cel.c2
    rw[q,e1] at e;cases e
    exact hd _ d1
   have k8:El z7.heap z8.heap:=λ b o h3 hs e=>hk8 b o (cne e λ v q=>by obtain⟨⟨vs,n',e2⟩,_⟩:=hs;rw[e2] at q;cases q) e
   have X8:Ei g L (some (.int W tW)) vw vo z8.heap:=⟨X7.src.kps k8,⟨Aq X7.cel.c1 λ o=>hk8 _ o (by simp),hc8,Aq X7.cel.c3 λ o=>hk8 _ o (by simp),Aq X7.cel.c4 λ o=>hk8 _ o (by simp)⟩,X7.flg.elim λ j e=>⟨j,Fq k8 X7.lf3 e⟩,X7.lf3,X7.thn⟩
   have up:∀ b o,@LE.le Nat _ 317 b→b≠L→(∀ v,o.data≠.cell v)→z'.heap.get? b=some o→z8.heap.get? b=some o:=λ b o h3 h1 hd e=>hk8 b o (cne (K7 b o h3 h1 e) hd) (K7 b o h3 h1 e)
   have hltL:lt≠L:=Ed Dz.ns hlt λ _ _=>nofun
   have Y8:TAt g ⟨lt,zs,W,tW⟩ z8.heap:=⟨⟨nl,up _ _ lt3 hltL (λ _=>nofun) hlt⟩,lt3,hprm⟩
   have H8:Cz _ (g.nmT ⟨lt,zs,W,tW⟩):=H7.sub λ q hq=>hq
   have kt:=@law_turn w A s z8 L _ g ⟨lt,zs,W,tW⟩ vw vo R D8 H8 X8 Y8 TL hW
   refine @kt _ ?_
   walk_at " m9 z9 D9 H9 K9"
   have up9:∀ b o,@LE.le Nat _ 317 b→b≠L→(∀ v,o.data≠.cell v)→z'.heap.get? b=some o→z9.heap.get? b=some o:=λ b o h3 h1 hd e=>K9 b o h3 h1 (up b o h3 h1 hd e)
   have tL:∀ {b:Addr} {vs:Array Value},z'.heap.get? b=some {cls:=.type "tuple", data:=.seq vs}→b≠L:=λ e=>Ed Dz.ns e λ _ _=>nofun
   refine⟨m9,_,_,D9,⟨H9,⟨_,X8.kb K9 D8.ns D8.hL⟩,up9 _ _ ta3 (tL e1) (λ _=>nofun) e1,up9 _ _ tb3 (tL e2) (λ _=>nofun) e2,up9 _ _ tt3 (tL e3) (λ _=>nofun) e3⟩,?_⟩
   walk_at " b hb o e"
   rcases List.mem_cons.mp hb with rfl|hb
   ·rw[hoI] at e;cases e
    exact up9 _ _ hI3 hIL (λ v q=>by rw[hdI] at q;cases q) hoI
   ·rw[List.mem_singleton.mp hb] at e ⊢
    rw[e3] at e;cases e
    exact up9 _ _ tt3 (tL e3) (λ _=>nofun) e3
  have hrng:∀ i∈En g.ys,i<g.ys.length:=λ i hi=>List.mem_range.mp ((C9 (by rw[X.src.eight];decide)).mem_iff.mp hi)
  have hpp:(Ex g.ys (En g.ys)).Perm g.ys:=Hu (C9 (by rw[X.src.eight];decide))
  have hWb:=Fx g.p
  have hw:(i=0∧v=.ref ta)∨(i=1∧v=.ref tb):=by
   match i,hv with
   | 0,hv=>exact .inl ⟨rfl,(Option.some.inj hv).symm⟩
   | 1,hv=>exact .inr ⟨rfl,(Option.some.inj hv).symm⟩
   | i+2,hv=>cases hv
  exact hw.elim (λ q=>main _ _ _ _ _ ta g.lw g.ys (W0 g.p) t0 q.2 ta3 e1 (TL0 _ _) hWb.1 Xi.src.wrd Xi.src.w3 (.refl _)) λ q=>main _ _ _ _ _ tb g.lf (Ex g.ys (En g.ys)) (W1 g.p) t1 q.2 tb3 e2 (TL1 _ _) hWb.2 (by obtain⟨n,e⟩:=Xi.flg;exact⟨n,by rw[e,Fg hrng]⟩) Xi.lf3 hpp
 ·rintro m' z' Dz ⟨Hi,⟨vr',Xi⟩,_⟩
  walk_at "c m' z'"
  refine wpAny_execs_nil ?_
  exact c m' z' vr' Dz Hi Xi
structure VI where
 x:Addr
 d:Addr
 la:Addr
 ax:Addr
 ad:Addr
structure VS where
 lines:List Str
 init:Int
 ps:List A0
noncomputable def VI.mut (i:VI):List Addr:=[i.ax,i.ad,i.la]
noncomputable def VI.all (i:VI):List Addr:=[i.x,i.d,i.la,i.ax,i.ad]
noncomputable def VI.at (P:Params) (h:Heap) (i:VI) (mx:Int) (cws sp:Str) (v:VS):Prop:=Aa P h i.x i.d i.la i.ax i.ad mx cws sp v.lines v.init v.ps
theorem VI.keep {P:Params} {h h':Heap} {i:VI} {mx:Int} {cws sp:Str} {v:VS} (V:i.at P h mx cws sp v) (hk:∀ b o,@LE.le Nat _ 317 b→(b∈i.all∨∃ y∈v.ps,b=y.a)→h.get? b=some o→h'.get? b=some o):i.at P h' mx cws sp v:=by
 obtain⟨ox,⟨t1,t2,t3,t4,t5,t6,tm,tc,tl,ts,od⟩,⟨ls,n,e1,e2⟩,acc,x3,d3,l3,few⟩:=V
 have m:i.x∈i.all∧i.d∈i.all∧i.la∈i.all∧i.ax∈i.all∧i.ad∈i.all:=by unfold VI.all;simp
 refine⟨hk _ _ x3 (.inl m.1) ox,⟨t1,t2,t3,t4,t5,t6,tm,tc,tl,ts,hk _ _ d3 (.inl m.2.1) od⟩,⟨ls,n,e1,hk _ _ l3 (.inl m.2.2.1) e2⟩,⟨?_,?_,λ y hy=>?_,acc.x3,acc.d3,acc.few⟩,x3,d3,l3,few⟩
 ·obtain⟨k,e⟩:=acc.ox;exact⟨k,hk _ _ acc.x3 (.inl m.2.2.2.1) e⟩
 ·obtain⟨t,ti,e,z⟩:=acc.od;exact⟨t,ti,hk _ _ acc.d3 (.inl m.2.2.2.2) e,z⟩
 ·obtain⟨e,z⟩:=acc.tup y hy;exact⟨hk _ _ z.1 (.inr ⟨y,hy,rfl⟩) e,z⟩
theorem VI.piece_ne {P:Params} {h:Heap} {i:VI} {mx:Int} {cws sp:Str} {v:VS} (V:i.at P h mx cws sp v) {y:A0} (e:h.get? y.a=some y.obj):y.a∉i.mut:=by
 intro hm
 unfold VI.mut at hm
 simp only[List.mem_cons,List.not_mem_nil,or_false] at hm
 rcases hm with q|q|q
 ·obtain⟨k,e'⟩:=V.acc.ox;rw[q,e'] at e;cases e
 ·obtain⟨t,ti,e',_⟩:=V.acc.od
  rw[q,e'] at e
  have:Value.type "dict" = Value.type "tuple" := congrArg Obj.cls (Option.some.inj e)
  injection this with this;exact absurd this (by decide)
 ·obtain⟨ls,n,_,e'⟩:=V.ol
  rw[q,e'] at e
  have:Value.type "list" = Value.type "tuple" := congrArg Obj.cls (Option.some.inj e)
  injection this with this;exact absurd this (by decide)
theorem VI.other {P:Params} {s s':Shared} {i j:VI} {mx mx':Int} {cws sp cws' sp':Str} {v v':VS} (V:i.at P s.heap mx cws sp v) (V':j.at P s.heap mx' cws' sp' v') (hd:∀ q∈j.mut,q∉i.all) (st:A4 j.mut s s'):i.at P s'.heap mx cws sp v :=
 VI.keep V λ b o h3 hor e=>st.get h3 (λ q=>by
  rcases hor with h|⟨y,hy,rfl⟩
  ·exact hd b q h
  ·exact VI.piece_ne V' (V.acc.tup y hy).1 q) e
theorem VI.mut_all {i:VI} {q:Addr} (h:q∈i.mut):q∈i.all:=by
 unfold VI.mut at h;unfold VI.all
 simp only[List.mem_cons,List.not_mem_nil,or_false] at h ⊢
 rcases h with h|h|h<;>simp[h]
theorem VI.ge {P:Params} {h:Heap} {i:VI} {mx:Int} {cws sp:Str} {v:VS} (V:i.at P h mx cws sp v):∀ q∈i.all,@LE.le Nat _ 317 q:=by
 intro q hq
 unfold VI.all at hq
 simp only[List.mem_cons,List.not_mem_nil,or_false] at hq
 rcases hq with rfl|rfl|rfl|rfl|rfl
 ·exact V.x3
 ·exact V.d3
 ·exact V.l3
 ·exact V.acc.x3
 ·exact V.acc.d3
theorem VI.has {P:Params} {h:Heap} {i:VI} {mx:Int} {cws sp:Str} {v:VS} (V:i.at P h mx cws sp v):∀ q∈i.all,∃ o,h.get? q=some o:=by
 intro q hq
 unfold VI.all at hq
 simp only[List.mem_cons,List.not_mem_nil,or_false] at hq
 rcases hq with rfl|rfl|rfl|rfl|rfl
 ·exact⟨_,V.ox⟩
 ·obtain⟨t1,t2,t3,t4,t5,t6,tm,tc,tl,ts,od⟩:=V.od;exact⟨_,od⟩
 ·obtain⟨ls,n,e1,e2⟩:=V.ol;exact⟨_,e2⟩
 ·obtain⟨k,e⟩:=V.acc.ox;exact⟨_,e⟩
 ·obtain⟨t,ti,e,z⟩:=V.acc.od;exact⟨_,e⟩
noncomputable abbrev GI.nmV (g:GI) (a b:VI) (tot:Int) (tt:Tok):List (Str×Value):=("total", .int tot tt)::("maker", .ref a.x)::("uncut", .ref b.x)::g.nm
structure VV (P:Params) (L:Addr) (hb:Heap) (a b:VI) (mx:Int) (cws sp:Str) (va vb:VS) (h:Heap):Prop where
 va:a.at P h mx cws sp va
 vb:b.at P h mx "" "," vb
 ab:∀ q∈a.mut,q∉b.all
 ba:∀ q∈b.mut,q∉a.all
 fr:∀ q∈a.all++b.all,hb.get? q=none∧q≠L
theorem n_unpackN {w:World} {S:List Addr} {s₀ s:Shared} {L:Addr} {ref:Heap} {m:SV} {news:AO} {A:Around} {E:VP} {t:Addr} {items:Array Value} {n:Nat} {Q:List Value→Shared→Prop} (D:Cl w S s₀ L ref m news s) (hh:A.handled=none) (ht:s.heap.IsTuple t items) (hn:n=items.size)
  (h:∀ s',Cl w S s₀ L ref m news s'→Q items.toList s'):wpAny (MD w) A (unpackItems (.ref t) n none) Q E s:=by
 subst hn
 exact unpackItems_tuple hh ht λ h' he=>h _ (D.grow (h':=h') (t:=s.toks) (λ b _ e=>he b _ (Nat.ne_of_lt (Heap.lt_size e)) e) (Nat.le_refl _))
theorem K8:∀ {p:Int} {vs:List Value} (h:IntsAre vs (Cp p)),
  ∃ t,vs[0]?=some (.int (S0 p) t):=by
 walk_at " p vs h"
 unfold Cp at h
 cases h with|cons _ t h=>exact⟨t,rfl⟩
theorem law5:∀ (w:World) {A:Around} {s z:Shared} {L:Addr} {m:SV} {g:GI} {vr:Option Value} (R:A3 (A.deeper (Ab L)) 30) (D:Cl w [] s L z.heap m [] z) (H:Cz m g.nm) (X:Ei g L vr none none z.heap) {Q:FP} (c:∀ m' z' hb mb tW a b,Cl w [] s L z'.heap m' [] z'→hb.Ns L mb→(∀ q,@LE.le Nat _ 317 q→hb.get? q=none→s.heap.get? q=none)→Ei g L vr (some (.int (W0 g.p) tW)) none hb→Cw L hb z'.heap→Cz m' (g.nmV a b g.hd g.th) →
   VV w.params L hb a b (W0 g.p) (Fc 9 (S0 g.p).toNat) (As g.p) ⟨[],g.hd,[]⟩ ⟨[],0,[]⟩ z'.heap →
   wpAny (MD w) (A.deeper (Ab L)) (execs (Bb.drop 8) (Ab L)) Q (λ _ _=>False) z'),
  wpAny (MD w) (A.deeper (Ab L)) (execs (Bb.drop 5) (Ab L)) Q (λ _ _=>False) z:=by
 walk_at " w A s z L m g vr R D H X Q c"
 obtain⟨vd,nd,hlwd,hvd⟩:=X.src.wid
 walk_at "c vd nd"
 obtain⟨t0,t1,hv0,hv1,hvl⟩:=Qy hvd
 walk_at "c t0 t1"
 have hdL:g.lwd≠L:=D.neSeq hlwd λ _ _ h=>by cases h
 refine wpAny_execs_cons ?_
 refine wpAny_Assign_Name ?_ (by kernel_rfl)
 refine Aj ?_
 refine Ai D (H.at 2 rfl) ?_
 refine Gx D ?_
 walk_at " z1 u1 D1 _"
 refine Dp (D1.old hlwd X.src.d3 hdL) (by decide) hv0 (by omega) ?_
 have X1:=X.kb ((Cw.refl _ _).now D1) D.ns D.hL
 refine Ck D1 X1.cel.c3 (Bc (Nat.le_trans D1.g1 (Nat.le_add_right _ _))) (Nat.ne_of_gt (Nat.lt_add_of_pos_right (by decide))) (Nat.le_trans D1.hL (Nat.le_add_right _ _)) ?_
 walk_at " z2 D2 hc2 hk2"
 have cne:∀ {b:Addr} {o:Obj},z1.heap.get? b=some o→(∀ v,o.data≠.cell v)→b≠L+3:=λ {b o} e hd q=>by
  obtain⟨oc,e1,d1⟩:=X1.cel.c3
  walk_at "c oc"
  rw[q,e1] at e;cases e
  exact hd _ d1
 have k2:El z1.heap z2.heap:=λ b o h3 hs e=>hk2 b o (cne e λ v q=>by obtain⟨⟨vs,n',e2⟩,_⟩:=hs;rw[e2] at q;cases q) e
 have X2:Ei g L vr (some (.int (W0 g.p) t0)) none z2.heap:=⟨X1.src.kps k2,⟨Aq X1.cel.c1 λ o=>hk2 _ o (by simp),Aq X1.cel.c2 λ o=>hk2 _ o (by simp),hc2,Aq X1.cel.c4 λ o=>hk2 _ o (by simp)⟩,X1.flg.elim λ j e=>⟨j,Fq k2 X1.lf3 e⟩,X1.lf3,X1.thn⟩
 refine wpAny_execs_cons ?_
 refine Assign_Tuple_swapped (names:=["maker", "uncut"]) ?_ (by kernel_rfl) (by kernel_rfl)
 refine J5 ?_
 refine spliced_more ?_
 refine Am ?_
 walk_at "g 130"
 refine Co (spliced_more ?_)
 refine Ay X2.cel.c1 ?_
 refine spliced_more ?_
 refine Ay X2.cel.c3 ?_
 refine spliced_more ?_
 refine wpAny_BinOp ?_
 refine Gl D2 ?_
 walk_at " z3 u3 D3 _"
 refine Aj ?_
 refine Ai D3 (H.at 4 rfl) ?_
 refine Gx D3 ?_
 walk_at " z4 u4 D4 _"
 obtain⟨vz,nz,hls,hvz⟩:=X2.src.siz
 walk_at "c vz nz"
 have hlsL:g.ls≠L:=D2.neSeq hls λ _ _ h=>by cases h
 obtain⟨ts0,hs0⟩:=K8 hvz
 walk_at "c ts0"
 have hb:=Bo g.p
 refine Dp (D4.old hls X2.src.s3 hlsL) (by decide) hs0 (by rw[hvz.length];exact Nat.le_of_ble_eq_true rfl) ?_
 refine Mg (c:=9) D4 (by omega) (by omega) ?_
 walk_at " z5 u5 D5"
 refine spliced_more ?_
 refine Ai D5 (H.at 1 rfl) ?_
 refine spliced_none ⟨Cr D5.k (by kernel_rfl),wpAny_mono (vf_make w D5.good (R.mono (by decide)) X2.thn (by rw[Jc];omega)) ?_ λ _ _ e=>e.elim⟩
 walk_at " rv z6 q"
 obtain⟨xa,da,laa,axa,ada,rfl,st6,V6,f1,f2,f3,f4,f5⟩:=q
 walk_at "c xa da laa axa ada"
 have D6':=D5.step0 st6
 have D6:=D6'.rebase
 have C6:=X2.cel.now D6'
 refine spliced_more ?_
 refine Am ?_
 walk_at "g 130"
 refine Co (spliced_more ?_)
 refine Gx D6 ?_
 walk_at " z7 u7 D7 hu7"
 refine spliced_more ?_
 refine Ay (C6.now D7).c3 ?_
 refine spliced_more ?_
 refine Gl D7 ?_
 walk_at " z8 u8 D8 _"
 refine spliced_more ?_
 refine Gl D8 ?_
 walk_at " z9 u9 D9 _"
 refine spliced_none ⟨Cr D9.k (by kernel_rfl),wpAny_mono (vf_make w D9.good (R.mono (by decide)) hu7 (by decide)) ?_ λ _ _ e=>e.elim⟩
 walk_at " rv z10 q"
 obtain⟨xb,db,lab,axb,adb,rfl,st10,V10,e1,e2,e3,e4,e5⟩:=q
 walk_at "c xb db lab axb adb"
 have D10':=D9.step0 st10
 have D10:=D10'.rebase
 have C10:=C6.now D10'
 refine spliced_none ?_
 refine Ca D10 ?_ (Nat.le_of_ble_eq_true rfl)
 walk_at " z11 tp D11 tp3"
 refine n_unpackN (items:=#[.ref xa,.ref xb]) D11 R.hd ⟨_,D11.at 0 rfl,rfl,0,rfl⟩ rfl ?_
 walk_at " z12 D12"
 show wpAny (MD w) _ (assignInOrder [bindName (Ab L) "uncut", bindName (Ab L) "maker"] [.ref xb,.ref xa]) _ _ _
 refine assignInOrder_cons (bindName_ ?_)
 refine An D12 ?_ (by kernel_rfl) (by kernel_rfl)
 walk_at " z13 D13"
 refine assignInOrder_cons (bindName_ ?_)
 refine An D13 ?_ (by kernel_rfl) (by kernel_rfl)
 walk_at " z14 D14"
 refine assignInOrder_nil ?_
 refine wpAny_execs_cons ?_
 refine wpAny_Assign_Name ?_ (by kernel_rfl)
 refine Ay (C10.now D14).c1 ?_
 refine An D14 ?_ (by kernel_rfl) (by kernel_rfl)
 walk_at " z15 D15"
 have Va6:VI.at w.params z6.heap ⟨xa,da,laa,axa,ada⟩ (W0 g.p) (Fc 9 (S0 g.p).toNat) (As g.p) ⟨[],g.hd,[]⟩:=V6
 have Vb10:VI.at w.params z10.heap ⟨xb,db,lab,axb,adb⟩ (W0 g.p) "" "," ⟨[],0,[]⟩:=V10
 have key:∀ {zz zr:Shared} {nw:AO},Cl w [] s L zr.heap m nw zz→∀ q,@LE.le Nat _ 317 q→zz.heap.get? q=none→zr.heap.get? q=none∧q≠L:=λ {zz zr nw} D' q h3 e=>by
  have hqL:q≠L:=λ h=>by
   obtain⟨o,_,_,e',_⟩:=D'.ns
   walk_at "c o"
   rw[h,e'] at e;cases e
  refine⟨?_,hqL⟩
  cases hq:zr.heap.get? q with
  | none=>rfl
  | some o=>have:=D'.old hq h3 hqL;rw[e] at this;cases this
 have five:∀ {P:Addr→Prop} {x d la ax ad:Addr},P x→P d→P la→P ax→P ad→∀ q∈VI.all ⟨x,d,la,ax,ad⟩,P q:=λ {P x d la ax ad} h1 h2 h3 h4 h5 q hq=>by
  unfold VI.all at hq
  simp only[List.mem_cons,List.not_mem_nil,or_false] at hq
  rcases hq with rfl|rfl|rfl|rfl|rfl<;>assumption
 have ga:=VI.ge Va6
 have gb:=VI.ge Vb10
 have fra5:=five (P:=λ q=>z5.heap.get? q=none) f1 f2 f3 f4 f5
 have frb9:=five (P:=λ q=>z9.heap.get? q=none) e1 e2 e3 e4 e5
 have frb6:∀ q∈VI.all ⟨xb,db,lab,axb,adb⟩,z6.heap.get? q=none∧q≠L:=λ q hq=>key D9 q (gb q hq) (frb9 q hq)
 have fra:∀ q∈VI.all ⟨xa,da,laa,axa,ada⟩,z2.heap.get? q=none∧q≠L:=λ q hq=>key D5 q (ga q hq) (fra5 q hq)
 have K6:Cw L z2.heap z6.heap:=(Cw.refl _ _).now D6'
 have frb:∀ q∈VI.all ⟨xb,db,lab,axb,adb⟩,z2.heap.get? q=none∧q≠L:=λ q hq=>by
  obtain⟨h1,h2⟩:=frb6 q hq
  refine⟨?_,h2⟩
  cases hq':z2.heap.get? q with
  | none=>rfl
  | some o=>have:=K6 q o (gb q hq) h2 hq';rw[h1] at this;cases this
 have sep:∀ q∈VI.all ⟨xa,da,laa,axa,ada⟩,q∉VI.all ⟨xb,db,lab,axb,adb⟩:=λ q hq hq'=>by
  obtain⟨o,e⟩:=VI.has Va6 q hq
  walk_at "c o"
  rw[(frb6 q hq').1] at e;cases e
 have Va15:VI.at w.params z15.heap ⟨xa,da,laa,axa,ada⟩ (W0 g.p) (Fc 9 (S0 g.p).toNat) (As g.p) ⟨[],g.hd,[]⟩:=VI.keep Va6 λ b o h3 hor e=>by
  have hbL:b≠L:=by
   rcases hor with h|⟨y,hy,_⟩
   ·exact (fra b h).2
   ·walk_at "c y"
    cases hy
  exact D15.old (D10'.old e h3 hbL) h3 hbL
 have Vb15:VI.at w.params z15.heap ⟨xb,db,lab,axb,adb⟩ (W0 g.p) "" "," ⟨[],0,[]⟩:=VI.keep Vb10 λ b o h3 hor e=>by
  have hbL:b≠L:=by
   rcases hor with h|⟨y,hy,_⟩
   ·exact (frb b h).2
   ·walk_at "c y"
    cases hy
  exact D15.old e h3 hbL
 refine c _ z15 z2.heap m t0 ⟨xa,da,laa,axa,ada⟩ ⟨xb,db,lab,axb,adb⟩ D15.self D2.ns (λ q h3 e=>D2.fresh0 (λ _ hq=>nomatch hq) h3 e) X2 (K6.trans ((((Cw.refl _ _).now D10').now D15))) ?_ ⟨Va15,Vb15,λ q hq=>sep q (VI.mut_all hq),λ q hq hq'=>sep q hq' (VI.mut_all hq),?_⟩
 ·exact (((H.set "uncut" (.ref xb)).set "maker" (.ref xa)).set "total" (.int g.hd g.th)).sub λ q hq=>hq
 ·walk_at " q hq"
  rcases List.mem_append.mp hq with hq|hq
  ·exact fra q hq
  ·exact frb q hq
noncomputable def Ft (L:Addr) (h h':Heap):Prop:=∀ b o,@LE.le Nat _ 317 b→b≠L→(∀ vs,o.data≠.fields vs)→h.get? b=some o→h'.get? b=some o
theorem Cw.G {L:Addr} {h h':Heap} (x:Cw L h h'):Ft L h h':=λ b o h3 hb _ e=>x b o h3 hb e
theorem Ft.F {L:Addr} {h h' h'':Heap} (x:Ft L h h') (y:KpF h' h''):Ft L h h'':=λ b o h3 hb hs e=>y b o h3 hs (x b o h3 hb hs e)
theorem Ft.step {L:Addr} {h:Heap} {X:List Addr} {s s':Shared} (k:Ft L h s.heap) (st:A4 X s s') (hX:∀ x∈X,h.get? x=none):Ft L h s'.heap:=λ b o h3 hb hs e =>
 st.get h3 (λ q=>by rw[hX b q] at e;cases e) (k b o h3 hb hs e)
theorem Ft.now {L:Addr} {h:Heap} {w:World} {S:List Addr} {s₀ s:Shared} {ref:Heap} {m:SV} {news:AO} (k:Ft L h ref) (D:Cl w S s₀ L ref m news s):Ft L h s.heap:=λ b o h3 hb hs e=>D.old (k b o h3 hb hs e) h3 hb
theorem Ft.S {L:Addr} {h h':Heap} {m:SV} (k:Ft L h h') (n:h.Ns L m):El h h':=λ b o h3 hs e =>
 k b o h3 (Ed n e λ es n q=>by obtain⟨⟨vs,n',z⟩,_⟩:=hs;rw[z] at q;cases q) (λ vs q=>by obtain⟨⟨_,_,z⟩,_⟩:=hs;rw[z] at q;cases q) e
theorem Ei.kg {g:GI} {L:Addr} {vr vw vo:Option Value} {h h':Heap} {m:SV} (X:Ei g L vr vw vo h) (k:Ft L h h') (n:h.Ns L m) (hL:@LE.le Nat _ 317 L):Ei g L vr vw vo h':=by
 have one:∀ c v,@LT.lt Nat _ L c→h.IsCell c v→h'.IsCell c v:=λ c v hc qq=>qq.elim λ o qq=>qq.elim λ e d=>⟨o,k c o (Nat.le_trans hL (Nat.le_of_lt hc)) (Nat.ne_of_gt hc) (λ vs q=>by rw[d] at q;cases q) e,d⟩
 have C:=X.cel
 exact⟨X.src.kps (k.S n),⟨one _ _ (Nat.lt_succ_self L) C.c1,one _ _ (Nat.lt_add_of_pos_right (by decide)) C.c2,one _ _ (Nat.lt_add_of_pos_right (by decide)) C.c3,one _ _ (Nat.lt_add_of_pos_right (by decide)) C.c4⟩,X.flg.elim λ j e=>⟨j,Fq (k.S n) X.lf3 e⟩,X.lf3,X.thn⟩
theorem VI.F {P:Params} {h h':Heap} {i:VI} {mx:Int} {cws sp:Str} {v:VS} (V:i.at P h mx cws sp v) (hk:KpF h h'):i.at P h' mx cws sp v:=by
 obtain⟨ox,⟨t1,t2,t3,t4,t5,t6,tm,tc,tl,ts,od⟩,⟨ls,n,e1,e2⟩,acc,x3,d3,l3,few⟩:=V
 exact⟨hk _ _ x3 (λ _=>nofun) ox,⟨t1,t2,t3,t4,t5,t6,tm,tc,tl,ts,hk _ _ d3 (λ _=>nofun) od⟩,⟨ls,n,e1,hk _ _ l3 (λ _=>nofun) e2⟩,acc.F hk,x3,d3,l3,few⟩
theorem VV.F {P:Params} {L:Addr} {hb h h':Heap} {a b:VI} {mx:Int} {cws sp:Str} {va vb:VS} (V:VV P L hb a b mx cws sp va vb h) (hk:KpF h h'):VV P L hb a b mx cws sp va vb h':=⟨VI.F V.va hk,VI.F V.vb hk,V.ab,V.ba,V.fr⟩
theorem VI.now {w:World} {S:List Addr} {s₀ s:Shared} {L:Addr} {ref:Heap} {m:SV} {news:AO} {i:VI} {mx:Int} {cws sp:Str} {v:VS} (V:i.at w.params ref mx cws sp v) (D:Cl w S s₀ L ref m news s) (hL:∀ q∈i.all,q≠L):i.at w.params s.heap mx cws sp v :=
 VI.keep V λ b o h3 hor e=>D.old e h3 (by
  rcases hor with h|⟨y,hy,rfl⟩
  ·exact hL b h
  ·exact D.neSeq (V.acc.tup y hy).1 λ _ _=>nofun)
theorem VV.now {w:World} {S:List Addr} {s₀ s:Shared} {L:Addr} {hb ref:Heap} {m:SV} {news:AO} {a b:VI} {mx:Int} {cws sp:Str} {va vb:VS} (V:VV w.params L hb a b mx cws sp va vb ref) (D:Cl w S s₀ L ref m news s):VV w.params L hb a b mx cws sp va vb s.heap :=
 ⟨VI.now V.va D λ q hq=>(V.fr q (List.mem_append_left _ hq)).2,VI.now V.vb D λ q hq=>(V.fr q (List.mem_append_right _ hq)).2,V.ab,V.ba,V.fr⟩
theorem VV.step0 {P:Params} {s s':Shared} {L:Addr} {hb:Heap} {a b:VI} {mx:Int} {cws sp:Str} {va vb:VS} (V:VV P L hb a b mx cws sp va vb s.heap) (st:∀ b o,@LE.le Nat _ 317 b→s.heap.get? b=some o→s'.heap.get? b=some o):VV P L hb a b mx cws sp va vb s'.heap :=
 ⟨VI.keep V.va λ b o h3 _ e=>st b o h3 e,VI.keep V.vb λ b o h3 _ e=>st b o h3 e,V.ab,V.ba,V.fr⟩
noncomputable def Fo (mx:Int) (sp:Str) (st:List Str×Int×List (Str×Str)) (q:Str×Str):List Str×Int×List (Str×Str):=Fi mx sp st.1 st.2.1 st.2.2 q
noncomputable def Bg (mx:Int) (sp:Str) (init:Int) (qs:LS):List Str×Int×List (Str×Str):=qs.foldl (Fo mx sp) ([],init,[])
noncomputable def VS.st (v:VS):List Str×Int×List (Str×Str):=(v.lines,v.init,T v.ps)
structure Jg (qs:LS) (st:List Str×Int×List (Str×Str)):Prop where
 i0:0≤st.2.1
 len:Cs st.2.1 st.2.2<20000
 few:st.1.length≤100
 lls:∀ l∈st.1,l.length≤10000
 ps:st.2.2.length≤100
 mem:∀ q∈st.2.2,q∈qs
structure PgLaw (p:Int) (qs:LS):Prop where
 good:∀ q∈qs,Fv q∧q.1.length≤1000∧q.2.length≤1000
 ma:∀ i,i≤8→Jg qs (Bg (W0 p) (As p) (B0 p) (qs.take i))
 mb:∀ i,i≤8→Jg qs (Bg (W0 p) "," 0 (qs.take i))
 room:∀ i,i<8→W0 p-Cs (Bg (W0 p) (As p) (B0 p) (qs.take (i+1))).2.1 (Bg (W0 p) (As p) (B0 p) (qs.take (i+1))).2.2=(-(B0 p+((qs.take (i+1)).map Cn).sum)).fmod (W0 p)
theorem sp_ok (p:Int):∀ c∈(As p).cps.toList,c=32∨c=59∨c=44:=by
 obtain⟨h0,h4⟩:=Bv (p.fdiv 960) (b:=4) (by decide)
 unfold As
 generalize ((p.fdiv 960).fmod 4).toNat=j
 intro c hc
 match j with
 | 0|1|2|3=>revert c;decide +kernel
 | j+4=>revert c;simp[signL,List.getD];decide +kernel
theorem VV.push_a:∀ {w:World} {A:Around} {s:Shared} {L:Addr} {hb:Heap} {a b:VI} {mx:Int} {cws sp:Str} {va vb:VS} {qs:LS} {y:A0} (G:A5 w s) (R:A3 A 20) (V:VV w.params L hb a b mx cws sp va vb s.heap) (ok:Jg qs va.st) (good:∀ q∈qs,Fv q) (hy:(y.b,y.p)∈qs) (hyb:y.b.length≤1000) (hyp:y.p.length≤1000) (hsp:∀ c∈sp.cps.toList,c=32∨c=59∨c=44),
  wpAny (MD w) A (call (.ref 127) [.ref a.x,.str y.b y.tb,.str y.p y.tp]) (λ r s'=>r=.none∧A4 a.mut s s'∧∃ va',va'.st=Fo mx sp va.st (y.b,y.p)∧VV w.params L hb a b mx cws sp va' vb s'.heap) no s:=by
 walk_at " w A s L hb a b mx cws sp va vb qs y G R V ok good hy hyb hyp hsp"
 have hl:va.ps.length≤100:=by have:=ok.ps;unfold VS.st T at this;rwa[List.length_map] at this
 refine wpAny_mono (Ml w G R V.va (by exact Nat.le_trans (by assumption) (by decide)) (by have:=ok.few;show va.lines.length≤180;exact Nat.le_trans this (by decide)) ok.i0 (by rw[Es];exact ok.len) hyb hyp (λ l h=>Nat.le_trans (ok.lls l h) (by decide)) hsp ?_) ?_ λ _ _ e=>e
 ·walk_at " _ q hq"
  rcases List.mem_append.mp hq with hq|hq
  ·exact good q (ok.mem q hq)
  ·rw[List.mem_singleton.mp hq];exact good _ hy
 ·walk_at " r s' h"
  obtain⟨rfl,st,ps',hps,V'⟩:=h
  walk_at "c ps'"
  refine⟨rfl,st,⟨_,_,ps'⟩,?_,⟨V',VI.other V.vb V.va V.ab st,V.ab,V.ba,V.fr⟩⟩
  unfold VS.st Fo
  rw[hps]
theorem VV.push_b:∀ {w:World} {A:Around} {s:Shared} {L:Addr} {hb:Heap} {a b:VI} {mx:Int} {cws sp:Str} {va vb:VS} {qs:LS} {y:A0} (G:A5 w s) (R:A3 A 20) (V:VV w.params L hb a b mx cws sp va vb s.heap) (ok:Jg qs vb.st) (good:∀ q∈qs,Fv q) (hy:(y.b,y.p)∈qs) (hyb:y.b.length≤1000) (hyp:y.p.length≤1000),
  wpAny (MD w) A (call (.ref 127) [.ref b.x,.str y.b y.tb,.str y.p y.tp]) (λ r s'=>r=.none∧A4 b.mut s s'∧∃ vb',vb'.st=Fo mx "," vb.st (y.b,y.p)∧VV w.params L hb a b mx cws sp va vb' s'.heap) no s:=by
 walk_at " w A s L hb a b mx cws sp va vb qs y G R V ok good hy hyb hyp"
 have hl:vb.ps.length≤100:=by have:=ok.ps;unfold VS.st T at this;rwa[List.length_map] at this
 refine wpAny_mono (Ml w G R V.vb (by exact Nat.le_trans (by assumption) (by decide)) (by have:=ok.few;show vb.lines.length≤180;exact Nat.le_trans this (by decide)) ok.i0 (by rw[Es];exact ok.len) hyb hyp (λ l h=>Nat.le_trans (ok.lls l h) (by decide)) (by decide +kernel) ?_) ?_ λ _ _ e=>e
 ·walk_at " _ q hq"
  rcases List.mem_append.mp hq with hq|hq
  ·exact good q (ok.mem q hq)
  ·rw[List.mem_singleton.mp hq];exact good _ hy
 ·walk_at " r s' h"
  obtain⟨rfl,st,ps',hps,V'⟩:=h
  walk_at "c ps'"
  refine⟨rfl,st,⟨_,_,ps'⟩,?_,⟨VI.other V.va V.vb V.ba st,V',V.ab,V.ba,V.fr⟩⟩
  unfold VS.st Fo
  rw[hps]
noncomputable def Ld:List Stmt:=Bf (Bb.getD 8 (.Pass default))
noncomputable abbrev GI.nmW (g:GI) (a b:VI) (tot:Int) (tt:Tok) (y:A0):List (Str×Value):=("part", .str y.p y.tp)::("blanks", .str y.b y.tb)::g.nmV a b tot tt
theorem lawV1:∀ (w:World) {A:Around} {s z:Shared} {L:Addr} {m:SV} {g:GI} {a b:VI} {hb:Heap} {va vb:VS} {tot:Int} {tt:Tok} {y:A0} {qs:LS} {cws:Str} (R:A3 (A.deeper (Ab L)) 30) (D:Cl w [] s L z.heap m [] z) (hs0:∀ q,@LE.le Nat _ 317 q→hb.get? q=none→s.heap.get? q=none) (H:Cz m (g.nmW a b tot tt y)) (V:VV w.params L hb a b (W0 g.p) cws (As g.p) va vb z.heap) (oa:Jg qs va.st) (ob:Jg qs vb.st) (good:∀ q∈qs,Fv q) (hy:(y.b,y.p)∈qs) (hyb:y.b.length≤1000) (hyp:y.p.length≤1000) {Q:FP} (c:∀ m' z' va' vb' tt',Cl w [] s L z'.heap m' [] z'→Cz m' (g.nmW a b (tot+Cn (y.b,y.p)) tt' y)→(∀ q o,@LE.le Nat _ 317 q→q≠L→q∉a.all++b.all→z.heap.get? q=some o→z'.heap.get? q=some o)→(Ft L hb z.heap→Ft L hb z'.heap)→VV w.params L hb a b (W0 g.p) cws (As g.p) va' vb' z'.heap →
   va'.st=Fo (W0 g.p) (As g.p) va.st (y.b,y.p)→vb'.st=Fo (W0 g.p) "," vb.st (y.b,y.p) →
   wpAny (MD w) (A.deeper (Ab L)) (execs (Ld.drop 2) (Ab L)) Q (λ _ _=>False) z'),
  wpAny (MD w) (A.deeper (Ab L)) (execs Ld (Ab L)) Q (λ _ _=>False) z:=by
 walk_at " w A s z L m g a b hb va vb tot tt y qs cws R D hs0 H V oa ob good hy hyb hyp Q c"
 have mutOk:∀ {i:VI} {mx:Int} {cws sp:Str} {v:VS} {zz:Shared},i.at w.params zz.heap mx cws sp v→(∀ q∈i.all,hb.get? q=none∧q≠L)→∀ q∈i.mut,(q∈([]:List Addr)∨s.heap.get? q=none)∧q≠L∧@LE.le Nat _ 317 q:=λ V hf q hq =>
  have h3:=VI.ge V q (VI.mut_all hq)
  ⟨.inr (hs0 q h3 (hf q (VI.mut_all hq)).1),(hf q (VI.mut_all hq)).2,h3⟩
 refine wpAny_execs_cons ?_
 refine wpAny_If ?_
 walk_at "s3"
 refine Am ?_
 walk_at "g 225"
 refine Co (spliced_more ?_)
 refine Ak ?_
 refine Ai D (H.at 3 rfl) ?_
 walk_at " pl"
 refine vm (.ref 127) D.k V.va (by kernel_rfl) (by kernel_rfl) (by intros;kernel_rfl) ?_
 refine Co (spliced_more ?_)
 refine Ai D (H.at 1 rfl) ?_
 refine spliced_more ?_
 refine Ai D (H.at 0 rfl) ?_
 refine spliced_none ⟨Cr D.k (by kernel_rfl),wpAny_mono (VV.push_a D.good (R.mono (by decide)) V oa good hy hyb hyp (sp_ok g.p)) ?_ λ _ _ e=>e.elim⟩
 walk_at " r z1 q"
 obtain⟨rfl,st1,va',hva',V1⟩:=q
 walk_at "c va'"
 have D1:=D.step st1 (mutOk V.va λ q hq=>V.fr q (List.mem_append_left _ hq))
 walk_at "s3"
 refine⟨Cr D1.k (by kernel_rfl),wpAny_mono (Mm w D1.good (R.mono (by decide))) ?_ λ _ _ e=>e.elim⟩
 walk_at " r z2 q"
 obtain⟨rfl,st2⟩:=q
 have D2:=D1.step0 st2
 have V2:=V1.step0 (s':=z2) (λ b o h3 e=>st2.get h3 (λ h=>nomatch h) e)
 refine wpAny_truthy_bool ?_
 refine Be (by decide) ?_
 walk_at "s3"
 refine Am ?_
 walk_at "g 225"
 refine Co (spliced_more ?_)
 refine Ak ?_
 refine Ai D2 (H.at 4 rfl) ?_
 walk_at " pl"
 refine vm (.ref 127) D2.k V2.vb (by kernel_rfl) (by kernel_rfl) (by intros;kernel_rfl) ?_
 refine Co (spliced_more ?_)
 refine Ai D2 (H.at 1 rfl) ?_
 refine spliced_more ?_
 refine Ai D2 (H.at 0 rfl) ?_
 refine spliced_none ⟨Cr D2.k (by kernel_rfl),wpAny_mono (VV.push_b D2.good (R.mono (by decide)) V2 ob good hy hyb hyp) ?_ λ _ _ e=>e.elim⟩
 walk_at " r z3 q"
 obtain⟨rfl,st3,vb',hvb',V3⟩:=q
 walk_at "c vb'"
 have D3:=D2.step st3 (mutOk V2.vb λ q hq=>V.fr q (List.mem_append_right _ hq))
 walk_at "s3"
 refine⟨Cr D3.k (by kernel_rfl),wpAny_mono (Mm w D3.good (R.mono (by decide))) ?_ λ _ _ e=>e.elim⟩
 walk_at " r z4 q"
 obtain⟨rfl,st4⟩:=q
 have D4:=(D3.step0 st4).rebase
 have V4:=V3.step0 (s':=z4) (λ b o h3 e=>st4.get h3 (λ h=>nomatch h) e)
 refine wpAny_truthy_bool ?_
 refine Be (by decide) ?_
 walk_at "s3"
 refine Be (by decide) ?_
 refine wpAny_execs_nil ?_
 refine wpAny_execs_cons ?_
 refine wpAny_Assign_Name ?_ (by kernel_rfl)
 refine wpAny_BinOp ?_
 refine Ai D4 (H.at 2 rfl) ?_
 refine Am ?_
 refine Ap (.builtin "len") D4 (by kernel_rfl) (by kernel_rfl) ?_
 refine Co (spliced_more ?_)
 refine wpAny_BinOp ?_
 refine Ai D4 (H.at 1 rfl) ?_
 refine Ai D4 (H.at 0 rfl) ?_
 refine Gn D4 (by lia) ?_
 walk_at " z5 t5 D5"
 refine spliced_none ⟨Bh,len_str (by rw[Str.length_append];lia) ?_⟩
 have D6:=D5.toks 2
 refine Ce D6 ?_
 walk_at " z7 t7 D7 ht7"
 refine An D7 ?_ (by kernel_rfl) (by kernel_rfl)
 walk_at " z8 D8"
 have eS:tot+(((y.b++y.p).length:Nat):Int)=tot+Cn (y.b,y.p):=by unfold Cn;rw[Str.length_append,Int.natCast_add]
 have H8:=H.set "total" (.int (tot+(((y.b++y.p).length:Nat):Int)) t7)
 rw[eS] at H8 D8
 have kp:∀ q o,@LE.le Nat _ 317 q→q≠L→q∉a.mut→q∉b.mut→z.heap.get? q=some o→z8.heap.get? q=some o:=λ q o h3 h1 h2 h2' e =>
  D8.old (st4.get h3 (λ h=>nomatch h) (st3.get h3 h2' (st2.get h3 (λ h=>nomatch h) (st1.get h3 h2 e)))) h3 h1
 have ha:∀ q∈a.mut,hb.get? q=none:=λ q hq=>(V.fr q (List.mem_append_left _ (VI.mut_all hq))).1
 have hbm:∀ q∈b.mut,hb.get? q=none:=λ q hq=>(V.fr q (List.mem_append_right _ (VI.mut_all hq))).1
 refine c _ z8 va' vb' t7 D8.self ?_ (λ q o h3 h1 h2 e=>kp q o h3 h1 (λ h=>h2 (List.mem_append_left _ (VI.mut_all h))) (λ h=>h2 (List.mem_append_right _ (VI.mut_all h))) e) (λ K q o h3 h1 hf e=>kp q o h3 h1 (λ h=>by rw[ha q h] at e;cases e) (λ h=>by rw[hbm q h] at e;cases e) (K q o h3 h1 hf e)) (V4.now D8) hva' hvb'
 walk_at " q hq"
 have:q∈(("total", .int (tot+Cn (y.b,y.p)) t7):Str×Value)::List.filter (λ p=>decide (p.1 ≠ "total")) (g.nmW a b tot tt y):=by
  show q∈[(("total", Value.int (tot+Cn (y.b,y.p)) t7):Str×Value),("part", .str y.p y.tp),("blanks", .str y.b y.tb),("maker", .ref a.x),("uncut", .ref b.x),("falling", .ref g.lf),("signs", .str (As g.p) g.tsg),("widths", .ref g.lwd),("words", .ref g.lw),("sizes", .ref g.ls)]
  simp only[List.mem_cons,List.not_mem_nil,or_false] at hq ⊢
  rcases hq with h|h|h|h|h|h|h|h|h|h<;>simp[h]
 exact H8 q this
section
variable {w:World} {A:Around} {L x d la ax ad:Addr} {mx:Int} {cws sp:Str} {lines:List Str} {init:Int} {ps:List A0}
theorem g_make2 {s:Shared} (G:A5 w s) (R:A3 A 3) (V:Aa w.params s.heap x d la ax ad mx cws sp lines init ps) (h0:0≤Au init ps) (h1:Au init ps<100000) :
  wpAny (MD w) A (call (.ref 113) [.ref x]) (λ v s'=>∃ a gi L gs,v=.ref a∧A4 [] s s'∧s'.heap.IsGen a gi∧@LE.le Nat _ 317 a∧@LE.le Nat _ 317 L∧s.heap.get? L=none∧s.gens.size≤gi∧s'.gens[gi]?=some gs∧Hq w L x d la ax ad mx cws sp lines init ps s' ∧
   ∀ A',A3 A' 12→GenK w A' L x d la ax ad mx cws sp lines init ps 3 gs) no s:=by
 walk_at "c w A x d la ax ad mx cws sp lines init ps s G R V h0 h1"
 refine wpAny_call (codeAny_call_generator (fd:=Ba) (body:=Fp) R.depth (G.st.k 113 ⟨.type "function", none,.func Ba,#[]⟩ (by kernel_rfl)) rfl (by kernel_rfl) (by kernel_rfl) (by kernel_rfl) (codeRec_of G.st.k (by kernel_rfl)) ?_)
 have hb:peek (K w.params) ⟨PySem.Challenge.pw_wv0051_01,w.params⟩ (bindArgs Ba ⟨[.ref x],[]⟩)=some ([("self", Value.ref x)]:List (Str×Value)):=by kernel_rfl
 have hcell:∀ x∈Ba.scope.names,x.2≠.cell:=by decide +kernel
 refine Looks.of_peek (M:=MD w) G.st.k hb A.in1 _ _ s (λ _ _ e=>e) ?_
 refine wpAny_newFunctionEnv hcell (locs (by kernel_rfl)) ?_ (by kernel_rfl)
 walk_at " h₁ hns hsb"
 refine⟨G.st.nolimit.fresh _ hsb,?_⟩
 have up:∀ b o,s.heap.get? b=some o→h₁.get? b=some o:=λ b o e=>hsb.extBut b o (Nat.ne_of_lt (Heap.lt_size e)) (Heap.get?_push_of_some _ e)
 have hz:@LE.le Nat _ s.heap.objs.size h₁.objs.size:=by rw[hsb.1,Heap.size_push];exact Nat.le_succ _
 generalize hgo:({cls:=.type "generator", data:=.fields #[.int s.gens.size 0,.str Ba.name (s.toks+1),.str Ba.qualname (s.toks+1+1)]}:Obj)=og
 have up2:∀ b o,s.heap.get? b=some o→(h₁.push og).get? b=some o:=λ b o e=>Heap.get?_push_of_some _ (up b o e)
 have hz2:@LE.le Nat _ s.heap.objs.size (h₁.push og).objs.size:=by rw[Heap.size_push];exact Nat.le_succ_of_le hz
 have Gd:∀ gens tk,s.toks≤tk→A5 w {s with heap:=h₁.push og,gens:=gens,toks:=tk}:=λ gens tk ht=>⟨G.st.keeps up2,G.vol.keeps hz2 up2,Nat.lt_of_lt_of_le G.tk ht⟩
 refine⟨h₁.objs.size,s.gens.size,s.heap.objs.size,.fresh (.func Fp (fenv Ba 113 s.heap.objs.size)),rfl,?_,?_,Nat.le_trans G.vol.c hz,G.vol.c,Bc (Nat.le_refl _),Nat.le_refl _,?_,?_,?_⟩
 ·refine⟨λ b o _ _ _ e=>up2 b o e,hz2,G.vol.keeps hz2 up2,⟨rfl,?_,?_,?_,?_⟩⟩
  ·show _≤(s.gens.push _).size
   rw[Array.size_push];exact Nat.le_succ _
  ·walk_at " i hi"
   show (s.gens.push _)[i]?=_
   rw[Array.getElem?_push_lt hi];simp[hi]
  ·walk_at " h y hy"
   rcases Array.mem_push.mp hy with q|q
   ·exact h y q
   ·subst q;rfl
  ·show s.toks≤s.toks+1+1+1
   simp +arith
 ·exact⟨og,_,_,Heap.get?_push_size _ (by subst hgo;rfl),by subst hgo;rfl,by subst hgo;rfl,by subst hgo;rfl⟩
 ·show (s.gens.push _)[s.gens.size]?=_
  rw[Array.getElem?_push_size];rfl
 ·refine⟨Gd _ _ (show s.toks≤s.toks+1+1+1 by simp +arith),⟨_,hns.keeps ?_,rfl⟩,V.keeps λ b o _ e=>up2 b o e⟩
  walk_at " b o e"
  refine Heap.get?_push_of_some _ e
 ·walk_at " A' R' s'' r''"
  exact⟨rfl,seg_start R' r'' h0 h1⟩
end
theorem Qi {w:World} {S:List Addr} {s₀ s:Shared} {ref:Heap} {m:SV} {news:AO} {A:Around} {E:VP} {env:Env} {x:Str} {v:Value} {Q:Unit→Shared→Prop} (D:Cl w S s₀ env.locals ref m news s) (h:∀ s',Cl w S s₀ env.locals ref (λ y=>if y=x then some v else m y) news s'→(∀ b o,b≠env.locals→s.heap.get? b=some o→s'.heap.get? b=some o)→s'.gens=s.gens→Q () s')
  (hk:env.scope.kind=.function:=by kernel_rfl) (hl:env.kindOf x=some .local:=by kernel_rfl):wpAny (MD w) A (storeName env x v) Q E s :=
 wpAny_storeName_local hl D.ns (λ h' hn hs=>h _ (D.loc (Nat.le_succ _) hn hs) (λ b o hb e=>(hs.2 b hb).trans e) rfl) (by rw[hk];rfl)
theorem Hq.store {w:World} {S:List Addr} {s₀ s s':Shared} {L:Addr} {ref:Heap} {m:SV} {news:AO} {Lg:Addr} {i:VI} {mx:Int} {cws sp:Str} {v:VS} (r:Hq w Lg i.x i.d i.la i.ax i.ad mx cws sp v.lines v.init v.ps s) (D:Cl w S s₀ L ref m news s') (hk:∀ b o,b≠L→s.heap.get? b=some o→s'.heap.get? b=some o) (hLg:Lg≠L) (hL:∀ q∈i.all,q≠L) (hns:∃ m,s.heap.Ns L m):Hq w Lg i.x i.d i.la i.ax i.ad mx cws sp v.lines v.init v.ps s':=by
 obtain⟨G,⟨m',hn,hm⟩,V⟩:=r
 refine⟨D.good,⟨m',?_,hm⟩,?_⟩
 ·obtain⟨o,es,ep,e,q⟩:=hn
  exact⟨o,es,ep,hk _ _ hLg e,q⟩
 ·have V':i.at w.params s.heap mx cws sp v:=V
  exact VI.keep V' λ b o h3 hor e=>hk b o (by
   rcases hor with h|⟨y,hy,rfl⟩
   ·exact hL b h
   ·obtain⟨mL,hns⟩:=hns
    exact Ed hns (V.acc.tup y hy).1 λ _ _=>nofun) e
theorem VV.grow {P:Params} {L:Addr} {hb h h':Heap} {a b:VI} {mx:Int} {cws sp:Str} {va vb:VS} (V:VV P L hb a b mx cws sp va vb h) (k:∀ q o,@LE.le Nat _ 317 q→h.get? q=some o→h'.get? q=some o):VV P L hb a b mx cws sp va vb h' :=
 ⟨VI.keep V.va λ b o h3 _ e=>k b o h3 e,VI.keep V.vb λ b o h3 _ e=>k b o h3 e,V.ab,V.ba,V.fr⟩
theorem lawV2:∀ (w:World) {A:Around} {s z:Shared} {L:Addr} {m:SV} {g:GI} {a b:VI} {hb:Heap} {mb:SV} {va vb:VS} {tot:Int} {tt tW:Tok} {y:A0} {vr vo:Option Value} (R:A3 (A.deeper (Ab L)) 30) (D:Cl w [] s L z.heap m [] z) (nb:hb.Ns L mb) (H:Cz m (g.nmW a b tot tt y)) (X:Ei g L vr (some (.int (W0 g.p) tW)) vo hb) (Kb:Ft L hb z.heap) (V:VV w.params L hb a b (W0 g.p) (Fc 9 (S0 g.p).toNat) (As g.p) va vb z.heap) (h0:0≤va.init) (h1:Cs va.init (T va.ps)<20000) (hroom:W0 g.p-Cs va.init (T va.ps)=(-tot).fmod (W0 g.p)) {Q:FP} (c:∀ m' z',Cl w [] s L z'.heap m' [] z'→Cz m' (g.nmV a b tot tt)→(∀ q o,@LE.le Nat _ 317 q→q≠L→z.heap.get? q=some o→z'.heap.get? q=some o)→Q .next z'),
  wpAny (MD w) (A.deeper (Ab L)) (execs (Ld.drop 2) (Ab L)) Q (λ _ _=>False) z:=by
 walk_at " w A s z L m g a b hb mb va vb tot tt tW y vr vo R D nb H X Kb V h0 h1 hroom Q c"
 have hLa:∀ q∈a.all,q≠L:=λ q hq=>(V.fr q (List.mem_append_left _ hq)).2
 refine wpAny_execs_cons ?_
 refine wpAny_Assign_Name ?_ (by kernel_rfl)
 refine Ak ?_
 refine Ai D (H.at 3 rfl) ?_
 walk_at " pl"
 refine vm (.ref 113) D.k V.va (by kernel_rfl) (by kernel_rfl) (by intros;kernel_rfl) ?_
 refine Ha ⟨Cr D.k (by kernel_rfl),wpAny_mono (g_make2 D.good (R.mono (by decide)) V.va (by rw[Es];exact J0 h0 _) (by rw[Es];omega)) ?_ λ _ _ e=>e.elim⟩
 walk_at " rv z1 q"
 obtain⟨ga,gi,Lg,gs,rfl,st1,hG1,ga3,Lg3,Lg0,hgi,hgs,r1,hK⟩:=q
 walk_at "c ga gi Lg gs"
 have D1:=D.step0 st1
 have hLgL:Lg≠L:=λ q=>by
  obtain⟨o,_,_,e,_⟩:=D.ns
  walk_at "c o"
  rw[q,e] at Lg0;cases Lg0
 have hsg:s.gens.size≤gi:=Nat.le_trans D.st.calm.size hgi
 refine Qi D1 ?_ (by kernel_rfl) (by kernel_rfl)
 walk_at " z2 D2 hk2 hg2"
 have r2:=Hq.store (i:=a) (v:=va) r1 D2 hk2 hLgL hLa ⟨_,D1.ns⟩
 have hgaL:ga≠L:=λ q=>by
  obtain⟨o,nm,qn,e,_,d,_⟩:=hG1
  walk_at "c o nm qn"
  obtain⟨o',es,ep,e',d',_⟩:=D1.ns
  walk_at "c o' es ep"
  rw[q,e'] at e;cases e;rw[d'] at d;cases d
 have hG2:z2.heap.IsGen ga gi:=by
  obtain⟨o,nm,qn,e,q⟩:=hG1
  walk_at "c o nm qn"
  exact⟨o,nm,qn,hk2 _ _ hgaL e,q⟩
 rw[← hg2] at hgs
 have H2:=H.set "rooms" (.ref ga)
 have R12:A3 (A.deeper (Ab L)).in1.in1 12:=(R.mono (by decide:14≤30)).in1.in1
 refine wpAny_execs_cons ?_
 refine wpAny_If ?_
 refine wpAny_isTrue_Compare1 ?_ (by kernel_rfl)
 refine Gv ?_
 refine spliced_more ?_
 refine Am ?_
 refine Ap (.builtin "next") D2 (by kernel_rfl) (by kernel_rfl) ?_
 refine Co (spliced_more ?_)
 refine Ai D2 (H2.at 0 rfl) ?_
 refine spliced_none ⟨Bh,wpAny_mono (Q6 (k:=2) R.hd R.depth hG2 ga3 hgs Lg3 (hK _ R12) r2) ?_ λ _ _ e=>e.elim⟩
 walk_at " v1 z3 q"
 obtain⟨⟨t1,rfl⟩,y3,hG3,r3,gs3,hgs3,hK3⟩:=q
 walk_at "c t1 y3 hG3 r3 gs3"
 have D3:=D2.withG y3 hsg
 refine spliced_more ?_
 refine Am ?_
 refine Ap (.builtin "next") D3 (by kernel_rfl) (by kernel_rfl) ?_
 refine Co (spliced_more ?_)
 refine Ai D3 (H2.at 0 rfl) ?_
 refine spliced_none ⟨Bh,wpAny_mono (Q6 (k:=1) R.hd R.depth hG3 ga3 hgs3 Lg3 (hK3 (by decide)) r3) ?_ λ _ _ e=>e.elim⟩
 walk_at " v2 z4 q"
 obtain⟨⟨t2,rfl⟩,y4,hG4,r4,gs4,hgs4,hK4⟩:=q
 walk_at "c t2 y4 hG4 r4 gs4"
 have D4:=D3.withG y4 hsg
 refine spliced_more ?_
 refine Am ?_
 refine Ap (.builtin "next") D4 (by kernel_rfl) (by kernel_rfl) ?_
 refine Co (spliced_more ?_)
 refine Ai D4 (H2.at 0 rfl) ?_
 refine spliced_none ⟨Bh,wpAny_mono (Q6 (k:=0) R.hd R.depth hG4 ga3 hgs4 Lg3 (hK4 (by decide)) r4) ?_ λ _ _ e=>e.elim⟩
 walk_at " v3 z5 q"
 obtain⟨⟨t3,rfl⟩,y5,_,_,_⟩:=q
 walk_at "c t3"
 have D5:=D4.withG y5 hsg
 refine spliced_none ?_
 refine C8 D5 ?_ (Nat.le_of_ble_eq_true rfl)
 walk_at " z6 l1 D6 l13 l10 l1z"
 have X6:=X.kg (Kb.now D6) nb D.hL
 have cw:∀ {zz:Shared} {nw:AO},Cl w [] s L z.heap (λ y=>if y=Str.ofString "rooms" then some (.ref ga) else m y) nw zz→zz.heap.IsCell (L+3) (some (.int (W0 g.p) tW)):=λ D'=>(X.kg (Kb.now D') nb D.hL).cel.c3
 have cs:∀ {zz:Shared} {nw:AO},Cl w [] s L z.heap (λ y=>if y=Str.ofString "rooms" then some (.ref ga) else m y) nw zz→∃ vz nz,zz.heap.get? g.ls=some (A6 vz nz)∧IntsAre vz (Cp g.p):=λ D'=>(X.kg (Kb.now D') nb D.hL).src.siz
 have hbS:=Bo g.p
 have hWb:=Fx g.p
 refine Gv ?_
 refine spliced_more ?_
 refine wpAny_BinOp ?_
 refine wpAny_UnaryOp ?_
 refine Ai D6 (H2.at 3 rfl) ?_
 refine n_neg D6 ?_
 walk_at " z7 t7 D7 _"
 refine Ay (cw D7) ?_
 refine Cf D7 (by omega) ?_
 walk_at " z8 t8 D8 _"
 refine spliced_more ?_
 refine wpAny_BinOp ?_
 refine Ay (cw D8) ?_
 refine Aj ?_
 refine Ai D8 (H2.at 10 rfl) ?_
 refine Gx D8 ?_
 walk_at " z9 t9 D9 _"
 obtain⟨vz9,nz9,e9,i9⟩:=cs D9
 walk_at "c vz9 nz9"
 obtain⟨ts9,hs9⟩:=K8 i9
 walk_at "c ts9"
 refine Dp e9 (by decide) hs9 (by rw[i9.length];exact Nat.le_of_ble_eq_true rfl) ?_
 refine Cd D9 ?_
 walk_at " z10 t10 D10 _"
 refine spliced_more ?_
 refine wpAny_BinOp ?_
 refine Ay (cw D10) ?_
 refine Aj ?_
 refine Ai D10 (H2.at 10 rfl) ?_
 refine Gx D10 ?_
 walk_at " z11 t11 D11 _"
 obtain⟨vz11,nz11,e11,i11⟩:=cs D11
 walk_at "c vz11 nz11"
 obtain⟨ts11,hs11⟩:=K8 i11
 walk_at "c ts11"
 refine Dp e11 (by decide) hs11 (by rw[i11.length];exact Nat.le_of_ble_eq_true rfl) ?_
 refine Cd D11 ?_
 walk_at " z12 t12 D12 _"
 refine spliced_none ?_
 refine C8 D12 ?_ (Nat.le_of_ble_eq_true rfl)
 walk_at " z13 l2 D13 l23 l20 l2z"
 have ecw:(((Fc 9 (S0 g.p).toNat).length:Nat):Int)=S0 g.p:=by rw[Jc];omega
 refine Mh (D13.at 1 rfl) (D13.at 0 rfl) (.cons _ t1 (.cons _ t2 (.cons _ t3 .nil))) (.cons _ t8 (.cons _ t10 (.cons _ t12 .nil))) (R.mono (by decide:5≤30)).u64 ?_
 rw[if_pos rfl,if_neg (by decide),if_neg (by decide),ecw,Es,hroom]
 refine wpAny_truthy_bool ?_
 refine Be (by simp) ?_
 refine wpAny_execs_nil ?_
 refine wpAny_execs_nil ?_
 exact c _ z13 D13.self (H2.sub λ q hq=>.tail _ (.tail _ (.tail _ hq))) (λ q o h3 h1 e=>D13.old e h3 h1)
noncomputable abbrev GI.fal (g:GI):List A0:=Ex g.ys (En g.ys)
theorem Ll {mx:Int} {sp:Str} {init:Int} {qs:LS} {i:Nat} {q:Str×Str} (h:qs[i]?=some q):Bg mx sp init (qs.take (i+1))=Fo mx sp (Bg mx sp init (qs.take i)) q:=by
 unfold Bg
 rw[List.take_add_one,h]
 simp
theorem law6:∀ (w:World) {A:Around} {s z:Shared} {L:Addr} {m:SV} {g:GI} {vr vo:Option Value} {hb:Heap} {mb:SV} {tW:Tok} {a b:VI} (R:A3 (A.deeper (Ab L)) 30) (D:Cl w [] s L z.heap m [] z) (nb:hb.Ns L mb) (hs0:∀ q,@LE.le Nat _ 317 q→hb.get? q=none→s.heap.get? q=none) (X:Ei g L vr (some (.int (W0 g.p) tW)) vo hb) (Kb:Cw L hb z.heap) (H:Cz m (g.nmV a b g.hd g.th)) (V:VV w.params L hb a b (W0 g.p) (Fc 9 (S0 g.p).toNat) (As g.p) ⟨[],g.hd,[]⟩ ⟨[],0,[]⟩ z.heap) (P:PgLaw g.p (T g.fal)) {Q:FP} (c:∀ m' z' va vb tt,Cl w [] s L z'.heap m' [] z'→Ft L hb z'.heap→Cz m' (g.nmV a b (g.hd+((T g.fal).map Cn).sum) tt)→VV w.params L hb a b (W0 g.p) (Fc 9 (S0 g.p).toNat) (As g.p) va vb z'.heap →
   va.st=Bg (W0 g.p) (As g.p) (B0 g.p) (T g.fal)→vb.st=Bg (W0 g.p) "," 0 (T g.fal) →
   wpAny (MD w) (A.deeper (Ab L)) (execs (Bb.drop 9) (Ab L)) Q (λ _ _=>False) z'),
  wpAny (MD w) (A.deeper (Ab L)) (execs (Bb.drop 8) (Ab L)) Q (λ _ _=>False) z:=by
 walk_at " w A s z L m g vr vo hb mb tW a b R D nb hs0 X Kb H V P Q c"
 have hrng:∀ i∈En g.ys,i<g.ys.length:=λ i hi=>List.mem_range.mp ((C9 (by rw[X.src.eight];decide)).mem_iff.mp hi)
 have hpp:g.fal.Perm g.ys:=Hu (C9 (by rw[X.src.eight];decide))
 have h8:g.fal.length=8:=by rw[hpp.length_eq,X.src.eight]
 have hT8:(T g.fal).length=8:=by unfold T;rw[List.length_map,h8]
 have body:∀ (Q':FP) (I:Addr) (i:Nat) (m':SV) (z':Shared) (y:A0) (va vb:VS) (tt:Tok),g.fal[i]?=some y→Cl w [] s L z'.heap m' [] z'→Ft L hb z'.heap→Cz m' (g.nmW a b (g.hd+(((T g.fal).take i).map Cn).sum) tt y)→VV w.params L hb a b (W0 g.p) (Fc 9 (S0 g.p).toNat) (As g.p) va vb z'.heap →
   va.st=Bg (W0 g.p) (As g.p) (B0 g.p) ((T g.fal).take i)→vb.st=Bg (W0 g.p) "," 0 ((T g.fal).take i) →
   (∀ m'' z'' va' vb' tt',Cl w [] s L z''.heap m'' [] z''→Ft L hb z''.heap→Cz m'' (g.nmV a b (g.hd+(((T g.fal).take (i+1)).map Cn).sum) tt')→VV w.params L hb a b (W0 g.p) (Fc 9 (S0 g.p).toNat) (As g.p) va' vb' z''.heap →
    va'.st=Bg (W0 g.p) (As g.p) (B0 g.p) ((T g.fal).take (i+1))→vb'.st=Bg (W0 g.p) "," 0 ((T g.fal).take (i+1))→(∀ q o,@LE.le Nat _ 317 q→q≠L→q∉a.all++b.all→z'.heap.get? q=some o→z''.heap.get? q=some o)→Q' .next z'') →
   wpAny (MD w) (A.deeper (Ab L)) (execs Ld (Ab L)) Q' (λ _ _=>False) z':=by
  walk_at " Q' I i m' z' y va vb tt hy Dz Kz Hz Vz ea eb cont"
  have hi:i<8:=by rw[← h8];exact (List.getElem?_eq_some_iff.mp hy).1
  have hq:(T g.fal)[i]?=some (y.b,y.p):=by unfold T;rw[List.getElem?_map,hy];rfl
  have hqm:=List.mem_of_getElem? hq
  have gd:=P.good _ hqm
  have v1:=@lawV1 w A s z' L m' g a b hb va vb (g.hd+(((T g.fal).take i).map Cn).sum) tt y (T g.fal) (Fc 9 (S0 g.p).toNat) R Dz hs0 Hz Vz (ea ▸ P.ma i (by exact Nat.le_of_lt (by assumption))) (eb ▸ P.mb i (by exact Nat.le_of_lt (by assumption))) (λ q hq=>(P.good q hq).1) hqm gd.2.1 gd.2.2
  refine @v1 _ ?_
  walk_at " m1 z1 va' vb' tt' D1 H1 kp1 K1 V1 ea' eb'"
  rw[ea,← Ll hq] at ea'
  rw[eb,← Ll hq] at eb'
  have etot:g.hd+(((T g.fal).take i).map Cn).sum+Cn (y.b,y.p)=g.hd+(((T g.fal).take (i+1)).map Cn).sum:=by
   rw[List.take_add_one,hq];simp[Int.add_assoc]
  rw[etot] at H1
  have ok:=P.ma (i+1) (by assumption)
  have hrm:=P.room i hi
  rw[← ea'] at ok hrm
  have v2:=@lawV2 w A s z1 L m1 g a b hb mb va' vb' (g.hd+(((T g.fal).take (i+1)).map Cn).sum) tt' tW y vr vo R D1 nb H1 X (K1 Kz) V1 ok.i0 ok.len hrm
  refine @v2 _ ?_
  walk_at " m2 z2 D2 H2 kp2"
  have V2:VV w.params L hb a b (W0 g.p) (Fc 9 (S0 g.p).toNat) (As g.p) va' vb' z2.heap:=by
   have ka:∀ {i:VI} {mx:Int} {cws sp:Str} {v:VS},i.at w.params z1.heap mx cws sp v→(∀ q∈i.all,q≠L)→i.at w.params z2.heap mx cws sp v:=λ V hL=>VI.keep V λ b o h3 hor e=>kp2 b o h3 (by
    rcases hor with h|⟨y,hy,rfl⟩
    ·exact hL b h
    ·exact D1.neSeq (V.acc.tup y hy).1 λ _ _=>nofun) e
   exact⟨ka V1.va λ q hq=>(V1.fr q (List.mem_append_left _ hq)).2,ka V1.vb λ q hq=>(V1.fr q (List.mem_append_right _ hq)).2,V1.ab,V1.ba,V1.fr⟩
  exact cont m2 z2 va' vb' tt' D2 (λ q o h3 h1 hf e=>kp2 q o h3 h1 (K1 Kz q o h3 h1 hf e)) H2 V2 ea' eb' λ q o h3 h1 h2 e=>kp2 q o h3 h1 (kp1 q o h3 h1 h2 e)
 obtain⟨nf,hlfb⟩:=X.flg
 walk_at "c nf"
 have KS:=(Cw.G Kb).S nb
 have hlf:=Fq KS X.lf3 hlfb
 rw[Fg hrng] at hlf
 have hlfL:g.lf≠L:=Ed nb hlfb λ _ _=>nofun
 refine wpAny_execs_cons ?_
 refine wpAny_For ?_
 refine Ai D (H.at 3 rfl) ?_
 refine Nc R.hd D hlf X.lf3 (λ i m' z'=>Ft L hb z'.heap∧∃ va vb tt,Cz m' (g.nmV a b (g.hd+(((T g.fal).take i).map Cn).sum) tt)∧VV w.params L hb a b (W0 g.p) (Fc 9 (S0 g.p).toNat) (As g.p) va vb z'.heap∧va.st=Bg (W0 g.p) (As g.p) (B0 g.p) ((T g.fal).take i)∧vb.st=Bg (W0 g.p) "," 0 ((T g.fal).take i)) ?_ ?_ ?_ ?_
 ·rintro i m z z' hk ht ⟨h1,va,vb,tt,h2,h3,h4⟩
  walk_at "c i m z z' hk ht h1 va vb tt"
  exact⟨h1.F hk,va,vb,tt,h2,h3.F hk,h4⟩
 ·exact⟨Kb.G,_,_,g.th,by simpa using H,V,rfl,rfl⟩
 ·rintro I i m' z' v hv hI3 hIL hI0 ⟨oI,vI,hoI,hdI⟩ hlfz ⟨Kz,va,vb,tt,Hi,Vi,ea,eb⟩ Dz
  walk_at "c I i m' z' v hv hI3 hIL hI0 oI vI hoI hdI hlfz Kz va vb tt"
  rw[List.getElem?_map] at hv
  obtain⟨y,hy,rfl⟩:=Option.map_eq_some_iff.mp hv
  walk_at "c y"
  have hyz:Ar z'.heap y:=(X.kg Kz nb Dz.hL).src.pcs y (hpp.mem_iff.mp (List.mem_of_getElem? hy))
  refine Ch Dz R.hd ⟨_,hyz.1,rfl,0,rfl⟩ rfl rfl ?_
  walk_at " z2 D2"
  refine assignInOrder_cons (assign_Name ?_)
  refine An D2 ?_ (by kernel_rfl) (by kernel_rfl)
  walk_at " z3 D3"
  refine assignInOrder_cons (assign_Name ?_)
  refine An D3 ?_ (by kernel_rfl) (by kernel_rfl)
  walk_at " z4 D4"
  refine assignInOrder_nil ?_
  have H4:=(Hi.set "blanks" (.str y.b y.tb)).set "part" (.str y.p y.tp)
  refine body _ I i _ z4 y va vb tt hy D4.self (Kz.now D4) (H4.sub λ q hq=>hq) (Vi.now D4) ea eb ?_
  walk_at " m5 z5 va' vb' tt' D5 K5 H5 V5 ea' eb' kp5"
  have nI:I∉a.all++b.all:=λ q=>by
   rcases List.mem_append.mp q with q|q
   ·obtain⟨o,e⟩:=VI.has V.va I q
    walk_at "c o"
    rw[hI0] at e;cases e
   ·obtain⟨o,e⟩:=VI.has V.vb I q
    walk_at "c o"
    rw[hI0] at e;cases e
  have nlf:g.lf∉a.all++b.all:=λ q=>by
   have:=(V.fr _ q).1
   rw[hlfb] at this;cases this
  refine⟨m5,_,_,D5,⟨K5,va',vb',tt',H5,V5,ea',eb'⟩,?_⟩
  walk_at " b' hb' o e"
  rcases List.mem_cons.mp hb' with rfl|hb'
  ·exact kp5 _ _ hI3 hIL nI (D4.old e hI3 hIL)
  ·rw[List.mem_singleton.mp hb'] at e ⊢
   exact kp5 _ _ X.lf3 hlfL nlf (D4.old e X.lf3 hlfL)
 ·rintro m' z' Dz ⟨Kz,va,vb,tt,Hi,Vi,ea,eb⟩
  walk_at "c m' z' Dz Kz va vb tt"
  refine wpAny_execs_nil ?_
  have e8:(T g.fal).take ((g.fal.map λ y=>Value.ref y.a).length)=T g.fal:=by rw[List.length_map,h8,← hT8,List.take_length]
  rw[e8] at Hi ea eb
  exact c m' z' va vb tt Dz Kz Hi Vi ea eb
noncomputable abbrev GI.nmG (g:GI) (a b:VI) (tot:Int) (tt:Tok) (pg:Str) (tp:Tok):List (Str×Value):=("page", .str pg tp)::g.nmV a b tot tt
theorem VV.mutOk {P:Params} {s:Shared} {L:Addr} {hb h:Heap} {a b:VI} {mx:Int} {cws sp:Str} {va vb:VS} (V:VV P L hb a b mx cws sp va vb h) (hs0:∀ q,@LE.le Nat _ 317 q→hb.get? q=none→s.heap.get? q=none) :
  (∀ q∈a.mut,(q∈([]:List Addr)∨s.heap.get? q=none)∧q≠L∧@LE.le Nat _ 317 q)∧(∀ q∈b.mut,(q∈([]:List Addr)∨s.heap.get? q=none)∧q≠L∧@LE.le Nat _ 317 q) :=
 ⟨λ q hq=>have h3:=VI.ge V.va q (VI.mut_all hq);have f:=V.fr q (List.mem_append_left _ (VI.mut_all hq));⟨.inr (hs0 q h3 f.1),f.2,h3⟩,
  λ q hq=>have h3:=VI.ge V.vb q (VI.mut_all hq);have f:=V.fr q (List.mem_append_right _ (VI.mut_all hq));⟨.inr (hs0 q h3 f.1),f.2,h3⟩⟩
theorem VV.freA {P:Params} {L:Addr} {hb h:Heap} {a b:VI} {mx:Int} {cws sp:Str} {va vb:VS} (V:VV P L hb a b mx cws sp va vb h):(∀ q∈a.mut,hb.get? q=none)∧∀ q∈b.mut,hb.get? q=none :=
 ⟨λ q hq=>(V.fr q (List.mem_append_left _ (VI.mut_all hq))).1,λ q hq=>(V.fr q (List.mem_append_right _ (VI.mut_all hq))).1⟩
theorem VV.str_a {w:World} {A:Around} {s:Shared} {L:Addr} {hb:Heap} {a b:VI} {mx:Int} {cws sp sep:Str} {ts:Tok} {va vb:VS} (G:A5 w s) (R:A3 A 18) (V:VV w.params L hb a b mx cws sp va vb s.heap) (hps:va.ps.length≤190) (hl:va.lines.length≤190) (h0:0≤va.init) (h1:Cs va.init (T va.ps)<50000) (hll:∀ l∈va.lines,l.length≤100000)
  (hsum:((Aw va.lines va.init (T va.ps)).map (·.length)).sum+(Aw va.lines va.init (T va.ps)).length*sep.length≤16777216) :
  wpAny (MD w) A (call (.ref 78) [.ref a.x,.str sep ts]) (λ r s'=>(∃ t,r=.str (Str.join sep (Aw va.lines va.init (T va.ps))) t)∧A4 a.mut s s'∧VV w.params L hb a b mx cws sp ⟨Aw va.lines va.init (T va.ps),0,[]⟩ vb s'.heap) no s :=
 wpAny_mono (s_VFstr w G R V.va hps hl h0 (by rw[Es];exact h1) hll hsum) (λ _ _ qq=>qq.elim λ h qq=>qq.elim λ st V'=>⟨h,st,⟨V',VI.other V.vb V.va V.ab st,V.ab,V.ba,V.fr⟩⟩) λ _ _ e=>e
theorem VV.str_b {w:World} {A:Around} {s:Shared} {L:Addr} {hb:Heap} {a b:VI} {mx:Int} {cws sp sep:Str} {ts:Tok} {va vb:VS} (G:A5 w s) (R:A3 A 18) (V:VV w.params L hb a b mx cws sp va vb s.heap) (hps:vb.ps.length≤190) (hl:vb.lines.length≤190) (h0:0≤vb.init) (h1:Cs vb.init (T vb.ps)<50000) (hll:∀ l∈vb.lines,l.length≤100000)
  (hsum:((Aw vb.lines vb.init (T vb.ps)).map (·.length)).sum+(Aw vb.lines vb.init (T vb.ps)).length*sep.length≤16777216) :
  wpAny (MD w) A (call (.ref 78) [.ref b.x,.str sep ts]) (λ r s'=>(∃ t,r=.str (Str.join sep (Aw vb.lines vb.init (T vb.ps))) t)∧A4 b.mut s s'∧VV w.params L hb a b mx cws sp va ⟨Aw vb.lines vb.init (T vb.ps),0,[]⟩ s'.heap) no s :=
 wpAny_mono (s_VFstr w G R V.vb hps hl h0 (by rw[Es];exact h1) hll hsum) (λ _ _ qq=>qq.elim λ h qq=>qq.elim λ st V'=>⟨h,st,⟨VI.other V.va V.vb V.ba st,V',V.ab,V.ba,V.fr⟩⟩) λ _ _ e=>e
theorem VV.trans_a {w:World} {A:Around} {s:Shared} {L:Addr} {hb:Heap} {a b:VI} {mx:Int} {cws sp:Str} {va vb:VS} (G:A5 w s) (R:A3 A 9) (V:VV w.params L hb a b mx cws sp va vb s.heap) (hps:va.ps.length≤190) :
  wpAny (MD w) A (call (.ref 99) [.ref a.x]) (λ r s'=>r=.none∧A4 a.mut s s'∧∃ va',va'.lines=va.lines∧va'.init=va.init∧T va'.ps=T va.ps++[((" " : Str),("" : Str))]∧VV w.params L hb a b mx cws sp va' vb s'.heap) no s :=
 wpAny_mono (Mk w G R V.va (by exact Nat.le_trans (by assumption) (by decide))) (λ _ _ qq=>qq.elim λ h qq=>qq.elim λ st qq=>qq.elim λ y qq=>qq.elim λ hb' qq=>qq.elim λ hp' V'=>by
  have st':A4 a.mut _ _:=st.weaken λ q hq=>by
   unfold VI.mut
   simp only[List.mem_cons,List.not_mem_nil,or_false] at hq ⊢
   rcases hq with q|q<;>simp[q]
  exact⟨h,st',⟨va.lines,va.init,va.ps++[y]⟩,rfl,rfl,by unfold T;rw[List.map_append];simp[hb',hp'],⟨V',VI.other V.vb V.va V.ab st',V.ab,V.ba,V.fr⟩⟩) λ _ _ e=>e
noncomputable def Bt (p:Int) (qs:LS):List Str:=Aw (Bg (W0 p) (As p) (B0 p) qs).1 (Bg (W0 p) (As p) (B0 p) qs).2.1 ((Bg (W0 p) (As p) (B0 p) qs).2.2++[((" " : Str),("" : Str))])
noncomputable abbrev Cy:Str := "|"
theorem law7:∀ (w:World) {A:Around} {s z:Shared} {L:Addr} {m:SV} {g:GI} {hb:Heap} {a b:VI} {va vb:VS} {tot:Int} {tt:Tok} {cws:Str} {qs:LS} (R:A3 (A.deeper (Ab L)) 30) (D:Cl w [] s L z.heap m [] z) (hs0:∀ q,@LE.le Nat _ 317 q→hb.get? q=none→s.heap.get? q=none) (Kb:Ft L hb z.heap) (H:Cz m (g.nmV a b tot tt)) (V:VV w.params L hb a b (W0 g.p) cws (As g.p) va vb z.heap) (ea:va.st=Bg (W0 g.p) (As g.p) (B0 g.p) qs) (ok:Jg qs va.st) (hsum:((Bt g.p qs).map (·.length)).sum+(Bt g.p qs).length*Cy.length≤16777216) {Q:FP} (c:∀ m' z' tp,Cl w [] s L z'.heap m' [] z'→Ft L hb z'.heap→Cz m' (g.nmG a b tot tt (Str.join Cy (Bt g.p qs)) tp)→VV w.params L hb a b (W0 g.p) cws (As g.p) ⟨Bt g.p qs,0,[]⟩ vb z'.heap →
   wpAny (MD w) (A.deeper (Ab L)) (execs (Bb.drop 11) (Ab L)) Q (λ _ _=>False) z'),
  wpAny (MD w) (A.deeper (Ab L)) (execs (Bb.drop 9) (Ab L)) Q (λ _ _=>False) z:=by
 walk_at " w A s z L m g hb a b va vb tot tt cws qs R D hs0 Kb H V ea ok hsum Q c"
 have hpl:va.ps.length≤100:=by have:=ok.ps;unfold VS.st T at this;rwa[List.length_map] at this
 refine wpAny_execs_cons ?_
 refine wpAny_If ?_
 walk_at "s3"
 refine Am ?_
 walk_at "g 225"
 refine Co (spliced_more ?_)
 refine Ak ?_
 refine Ai D (H.at 1 rfl) ?_
 walk_at " pl"
 refine vm (.ref 99) D.k V.va (by kernel_rfl) (by kernel_rfl) (by intros;kernel_rfl) ?_
 refine Ha ⟨Cr D.k (by kernel_rfl),wpAny_mono (VV.trans_a D.good (R.mono (by decide)) V (by exact Nat.le_trans (by assumption) (by decide))) ?_ λ _ _ e=>e.elim⟩
 walk_at " r z1 q"
 obtain⟨rfl,st1,va1,e1,e2,e3,V1⟩:=q
 walk_at "c va1"
 have D1:=D.step st1 (V.mutOk hs0).1
 walk_at "s3"
 refine⟨Cr D1.k (by kernel_rfl),wpAny_mono (Mm w D1.good (R.mono (by decide))) ?_ λ _ _ e=>e.elim⟩
 walk_at " r z2 q"
 obtain⟨rfl,st2⟩:=q
 have D2:=(D1.step0 st2).rebase
 have V2:=V1.grow (h':=z2.heap) (λ b o h3 e=>st2.get h3 (λ h=>nomatch h) e)
 refine wpAny_truthy_bool ?_
 refine Be (by decide) ?_
 refine wpAny_execs_nil ?_
 refine wpAny_execs_cons ?_
 refine wpAny_Assign_Name ?_ (by kernel_rfl)
 refine Ak ?_
 refine Ai D2 (H.at 1 rfl) ?_
 walk_at " pl"
 refine vm (.ref 78) D2.k V2.va (by kernel_rfl) (by kernel_rfl) (by intros;kernel_rfl) ?_
 refine Co (spliced_more ?_)
 refine Gl D2 ?_
 walk_at " z3 t3 D3 _"
 have V3:=V2.now D3
 have f1:va.lines=(Bg (W0 g.p) (As g.p) (B0 g.p) qs).1:=congrArg (·.1) ea
 have f2:va.init=(Bg (W0 g.p) (As g.p) (B0 g.p) qs).2.1:=congrArg (·.2.1) ea
 have f3:T va.ps=(Bg (W0 g.p) (As g.p) (B0 g.p) qs).2.2:=congrArg (·.2.2) ea
 have epg:Aw va1.lines va1.init (T va1.ps)=Bt g.p qs:=by rw[e1,e2,e3,f1,f2,f3];rfl
 have hps1:va1.ps.length≤190:=by
  have:=congrArg List.length e3
  unfold T at this
  rw[List.length_map,List.length_append,List.length_map] at this
  simp at this
  lia
 have ht1:Cs va1.init (T va1.ps)<50000:=by
  rw[e2,e3]
  have:=ok.len
  unfold VS.st at this
  unfold Cs at this ⊢
  rw[List.map_append,List.sum_append]
  have e:(((" " : Str),("" : Str))::([]:LS)).map (λ q=>(q.1.length:Int)+(q.2.length:Int))=[1]:=by decide +kernel
  rw[e]
  simp at this ⊢
  lia
 refine spliced_none ⟨Cr D3.k (by kernel_rfl),wpAny_mono (VV.str_a D3.good (R.mono (by decide)) V3 hps1 (by rw[e1];exact Nat.le_trans ok.few (by decide)) (by rw[e2];exact ok.i0) ht1 (λ l hl=>by rw[e1] at hl;exact Nat.le_trans (ok.lls l hl) (by decide)) (by rw[epg];exact hsum)) ?_ λ _ _ e=>e.elim⟩
 walk_at " r z4 q"
 obtain⟨⟨tp,rfl⟩,st4,V4⟩:=q
 walk_at "c tp"
 rw[epg] at V4 ⊢
 have D4:=D3.step st4 (V.mutOk hs0).1
 refine An D4 ?_ (by kernel_rfl) (by kernel_rfl)
 walk_at " z5 D5"
 have K5:Ft L hb z5.heap:=((((Kb.step st1 V.freA.1).step st2 (λ _ h=>nomatch h)).now D3).step st4 V.freA.1).now D5
 exact c _ z5 tp D5.self K5 (H.set "page" _) (V4.now D5)
noncomputable def Em (qs:LS):List Str:=qs.map λ q=>q.1++q.2
noncomputable def Cj (qs:LS):Str:=Txt.join "" (Em qs)
noncomputable def Fm (tot W:Int):Int:=-((-tot).fdiv W)
theorem Oy {vs:List Value} {xs:List Str} {x:Str} {t:Tok} (H:StrsAre vs xs):StrsAre (vs++[.str x t]) (xs++[x]):=by
 induction H with
 | nil=>exact .cons x t .nil
 | cons y u h ih=>exact .cons y u ih
noncomputable abbrev GI.nmH (g:GI) (a b:VI) (tot:Int) (tt:Tok) (pg:Str) (tp:Tok) (cnt:Int) (tc:Tok):List (Str×Value):=("count", .int cnt tc)::g.nmG a b tot tt pg tp
theorem law8:∀ (w:World) {A:Around} {s z:Shared} {L:Addr} {m:SV} {g:GI} {hb:Heap} {mb:SV} {a b:VI} {va vb:VS} {tot:Int} {tt tW tp:Tok} {cws pg:Str} {vr:Option Value} (R:A3 (A.deeper (Ab L)) 30) (D:Cl w [] s L z.heap m [] z) (nb:hb.Ns L mb) (hs0:∀ q,@LE.le Nat _ 317 q→hb.get? q=none→s.heap.get? q=none) (X:Ei g L vr (some (.int (W0 g.p) tW)) none hb) (Kb:Ft L hb z.heap) (H:Cz m (g.nmG a b tot tt pg tp)) (V:VV w.params L hb a b (W0 g.p) cws (As g.p) va vb z.heap) (ht:0≤tot∧tot<100000) (hsum:((Em (T g.fal)).map (·.length)).sum≤10000) {Q:FP} (c:∀ m' z' tw tc,Cl w [] s L z'.heap m' [] z'→Ei g L vr (some (.int (W0 g.p) tW)) (some (.str (Cj (T g.fal)) tw)) z'.heap→Cz m' (g.nmH a b tot tt pg tp (Fm tot (W0 g.p)) tc)→VV w.params L hb a b (W0 g.p) cws (As g.p) va vb z'.heap →
   wpAny (MD w) (A.deeper (Ab L)) (execs (Bb.drop 13) (Ab L)) Q (λ _ _=>False) z'),
  wpAny (MD w) (A.deeper (Ab L)) (execs (Bb.drop 11) (Ab L)) Q (λ _ _=>False) z:=by
 walk_at " w A s z L m g hb mb a b va vb tot tt tW tp cws pg vr R D nb hs0 X Kb H V ht hsum Q c"
 have hrng:∀ i∈En g.ys,i<g.ys.length:=λ i hi=>List.mem_range.mp ((C9 (by rw[X.src.eight];decide)).mem_iff.mp hi)
 have hpp:g.fal.Perm g.ys:=Hu (C9 (by rw[X.src.eight];decide))
 have h8:g.fal.length=8:=by rw[hpp.length_eq,X.src.eight]
 have Xz:=X.kg Kb nb D.hL
 obtain⟨nf,hlf⟩:=Xz.flg
 walk_at "c nf"
 rw[Fg hrng] at hlf
 refine wpAny_execs_cons ?_
 refine wpAny_Assign_Name ?_ (by kernel_rfl)
 refine Ak ?_
 refine Gl D ?_
 walk_at " z1 t1 D1 _"
 walk_at " pl"
 refine GM.join (Co (spliced_more ?_))
 have X1:=X.kg (Kb.now D1) nb D.hL
 have hlf1:=D1.old hlf Xz.lf3 (Ed D.ns hlf λ _ _=>nofun)
 refine Fn [] (by kernel_rfl) (by kernel_rfl) (by decide +kernel) ?_
 refine Ai D1 (H.at 4 rfl) ?_
 refine G0 R.hd D1.good hlf1 Xz.lf3 (by rw[List.length_map];exact Nat.le_trans (Nat.le_of_eq h8) (by decide)) (by intro C;kernel_rfl) (λ (i:Nat) (rs:List Value) (_:Tok)=>StrsAre rs ((Em (T g.fal)).take i)) (λ _=>.nil) (λ _ _ _ _ _ h=>h) ?_ ?_
 ·walk_at " C i v z2 m2 rs hv hlen Dz hX"
  rw[List.getElem?_map] at hv
  obtain⟨y,hy,rfl⟩:=Option.map_eq_some_iff.mp hv
  walk_at "c y"
  have hyp:=X1.src.pcs y (hpp.mem_iff.mp (List.mem_of_getElem? hy))
  have hy2:Ar z2.heap y:=⟨Dz.st.get hyp.2.1 (λ h=>nomatch h) hyp.1,hyp.2⟩
  refine Ch Dz R.hd ⟨_,hy2.1,rfl,0,rfl⟩ (by kernel_rfl) (by kernel_rfl) ?_
  walk_at " z3 D3"
  refine assignInOrder_cons (assign_Name ?_)
  refine An D3 ?_ (by kernel_rfl) (by kernel_rfl)
  walk_at " z4 D4"
  refine assignInOrder_cons (assign_Name ?_)
  refine An D4 ?_ (by kernel_rfl) (by kernel_rfl)
  walk_at " z5 D5"
  refine assignInOrder_nil ?_
  refine wpAny_tests_nil ?_
  rw[if_pos rfl]
  refine wpAny_BinOp ?_
  refine Ai D5 ((if_neg (by decide)).trans (if_pos rfl)) ?_
  refine Ai D5 (if_pos rfl) ?_
  have l1:=hyp.2.2.1
  have l2:=hyp.2.2.2
  refine Gn D5 (by lia) ?_
  walk_at " z6 t6 D6"
  refine⟨⟨_,_,D6⟩,?_⟩
  have e:(Em (T g.fal)).take (i+1)=(Em (T g.fal)).take i++[y.b++y.p]:=by
   have:(Em (T g.fal))[i]?=some (y.b++y.p):=by unfold Em T;rw[List.getElem?_map,List.getElem?_map,hy];rfl
   rw[List.take_add_one,this];rfl
  rw[e]
  exact Oy hX
 ·walk_at " acc z2 rs k hac st2 hg2 hX"
  have e8:(Em (T g.fal)).take ((g.fal.map λ y=>Value.ref y.a).length)=Em (T g.fal):=by
   have:(Em (T g.fal)).length=(g.fal.map λ y=>Value.ref y.a).length:=by unfold Em T;simp
   rw[← this,List.take_length]
  rw[e8] at hX
  have D2:=D1.step0 st2
  refine spliced_none ⟨Bh,wpAny_with_toks (Nat.le_refl z2.toks) (join_list (x := "") (items:=rs.toArray) (ys:=Em (T g.fal)) (Al hg2) (by simpa using hX) (by
   have:("" : Str).length=0:=rfl
   rw[this];exact Nat.le_trans (by assumption) (by decide)) λ tw k hk=>?_)⟩
  have D3:=D2.grow (h':=z2.heap) (t:=k) (λ _ _ e=>e) hk
  have X3:=X.kg (Kb.now D3) nb D.hL
  refine Ck D3 X3.cel.c4 (Bc (Nat.le_trans D3.g1 (Nat.le_add_right _ _))) (Nat.ne_of_gt (Nat.lt_add_of_pos_right (by decide))) (Nat.le_trans D3.hL (Nat.le_add_right _ _)) ?_
  walk_at " z4 D4 hc4 hk4"
  have cne:∀ {b:Addr} {o:Obj},z2.heap.get? b=some o→(∀ v,o.data≠.cell v)→b≠L+4:=λ {b o} e hd q=>by
   obtain⟨oc,e1,d1⟩:=X3.cel.c4
   walk_at "c oc"
   rw[q,e1] at e;cases e
   exact hd _ d1
  have k4:El z2.heap z4.heap:=λ b o h3 hs e=>hk4 b o (cne e λ v q=>by obtain⟨⟨vs,n',e2⟩,_⟩:=hs;rw[e2] at q;cases q) e
  have X4:Ei g L vr (some (.int (W0 g.p) tW)) (some (.str (Cj (T g.fal)) tw)) z4.heap:=⟨X3.src.kps k4,⟨Aq X3.cel.c1 λ o=>hk4 _ o (by simp),Aq X3.cel.c2 λ o=>hk4 _ o (by simp),Aq X3.cel.c3 λ o=>hk4 _ o (by simp),hc4⟩,X3.flg.elim λ j e=>⟨j,Fq k4 X3.lf3 e⟩,X3.lf3,X3.thn⟩
  have V3:=V.now D3
  have hcl:∀ {i:VI} {mx:Int} {cws sp:Str} {v:VS},(∀ q∈i.all,q≠L+4)→i.at w.params z2.heap mx cws sp v→i.at w.params z4.heap mx cws sp v:=λ {i mx cws sp v} hi V=>VI.keep V λ b o h3 hor e=>hk4 b o (by
   rcases hor with h|⟨y,hy,rfl⟩
   ·exact hi b h
   ·walk_at "c y"
    exact cne (V.acc.tup y hy).1 λ _=>nofun) e
  have ncell:∀ q∈a.all++b.all,q≠L+4:=λ q hq e=>by
   obtain⟨oc,e1,_⟩:=X.cel.c4
   walk_at "c oc"
   have:=(V.fr q hq).1
   rw[e,e1] at this;cases this
  have V4:VV w.params L hb a b (W0 g.p) cws (As g.p) va vb z4.heap:=⟨hcl (λ q hq=>ncell q (List.mem_append_left _ hq)) V3.va,hcl (λ q hq=>ncell q (List.mem_append_right _ hq)) V3.vb,V.ab,V.ba,V.fr⟩
  refine wpAny_execs_cons ?_
  refine wpAny_Assign_Name ?_ (by kernel_rfl)
  refine wpAny_UnaryOp ?_
  refine wpAny_BinOp ?_
  refine wpAny_UnaryOp ?_
  refine Ai D4 (H.at 1 rfl) ?_
  refine n_neg D4 ?_
  walk_at " z5 t5 D5 _"
  refine Ay (X4.cel.now D5).c3 ?_
  have hWb:=Fx g.p
  have hbS:=Bo g.p
  refine Cg D5 (by lia) (PyProof.noPylong_small (by lia)) ?_
  walk_at " z6 t6 D6 _"
  refine n_neg D6 ?_
  walk_at " z7 t7 D7 _"
  refine An D7 ?_ (by kernel_rfl) (by kernel_rfl)
  walk_at " z8 D8"
  exact c _ z8 tw t7 D8.self (X4.kb ((Cw.refl _ _).now D8) D4.ns D.hL) (H.set "count" (.int (Fm tot (W0 g.p)) t7)) (V4.now D8)
section
variable {w:World} {S:List Addr} {s₀:Shared} {L:Addr} {ref:Heap} {m:SV} {news:AO} {s:Shared} {A:Around} {E:VP} {Q:VP}
theorem n_maxTwo {a b:Int} {t u:Tok} (D:Cl w S s₀ L ref m news s) (hh:A.handled=none) (h:∀ s' t',Cl w S s₀ L ref m news s'→Q (.int (max a b) t') s'):wpAny (MD w) A (call (.builtin "max") [.int a t,.int b u]) Q E s:=by
 refine wpAny_with_toks (Nat.le_refl s.toks) (max_two_ints hh λ h' tk hk ht=>?_)
 have D':=D.grow (h':=h') (t:=tk) hk ht
 split
 ·rename_i c
  have:=h _ u D'
  rwa[show max a b=b from Int.max_eq_right (Int.le_of_lt c)] at this
 ·rename_i c
  have:=h _ t D'
  rwa[show max a b=a from Int.max_eq_left (Int.not_lt.mp c)] at this
theorem Su {x:Str} {t:Tok} {a:Addr} {i j:Int} {ui uj:Tok} (D:Cl w S s₀ L ref m news s) (ha:s.heap.get? a=some {cls:=.type "slice", data:=.fields #[.int i ui,.int j uj,.none]}) (hsz:x.length≤100000)
  (h:∀ s' t',Cl w S s₀ L ref m news s'→Q (.str (Txt.slice x (some i) (some j)) t') s'):wpAny (MD w) A (getitemInPython (.str x t)) (λ b s₃=>b=false∧wpAny (MD w) A (getItem (.str x t) (.ref a)) Q E s₃) E s:=by
 refine Fa (T := "str") (id := "str.__getitem__") (typeIs_str _ _ _) F.slot_str_getitem.lookup ⟨rfl,?_⟩
 refine wpAny_with_toks (Nat.le_refl s.toks) (wpAny_getItem_str_slice (l:=some (i,ui)) (u:=some (j,uj)) (st:=none) ⟨_,ha,rfl,rfl⟩ rfl ?_)
 refine post_val_or_str ⟨Nat.le_trans (Txt.slice_le x _ _) (Nat.le_trans hsz (by decide +kernel)),λ t' k hk=>?_⟩
 exact h _ t' (D.grow (h':=s.heap) (t:=k) (λ _ _ e=>e) hk)
end
section
variable {w:World} {A:Around} {E:VP} {env:Env}
theorem R6 {s₁:Shared} {elt target iter:PySem.Expr} {ifs:List PySem.Expr} {scope:Scope} {cl:List (Str×Addr)} {pos:Pos} {r:Addr} {b:Int} {n:Nat} {t u v:Tok} {use:Option (Value→Sem Unit)} {Q:VP} (go:∀ I St,Iy w A target I St)
  (hh:A.handled=none) (G:A5 w s₁) (hr:s₁.heap.get? r=some {cls:=.type "range", data:=.fields #[.int 0 t,.int b u,.int 1 v]}) (hs:Builtin.Range.small 0 b 1=true) (hn:Builtin.Range.rangeSize 0 b 1=n) (hn5:n≤500) (hcs:∀ C,Bm C scope=[])
  (X:Nat→List Value→Prop) (hX0:X 0 [])
  (turn:∀ C (i:Nat) tk z m rs,i<n→rs.length≤i→Cl w [] s₁ C z.heap m [] z→X i rs →
   wpAny (MD w) A (assign target (Ew scope cl C env) (.int (i:Int) tk)) (λ _ z1=>wpAny (MD w) A (Jd ifs (Ew scope cl C env)) (λ ok z2 =>
    if ok=true then wpAny (MD w) A (eval elt (Ew scope cl C env)) (λ y z3=>(∃ m' news,Cl w [] s₁ C z.heap m' news z3)∧X (i+1) (rs++[y])) (λ _ _=>False) z2
    else False) (λ _ _=>False) z1) (λ _ _=>False) z)
  (fin:∀ acc C s' rs k m,acc≠C→@LE.le Nat _ s₁.heap.objs.size acc→@LE.le Nat _ s₁.heap.objs.size C→A4 [] s₁ s'→s'.heap.get? acc=some (A6 rs k)→s'.heap.Ns C m→X n rs →
   compPost (MD w) A E use Q (.ref acc) C (.ok .next) s') :
  L7 w A env elt target iter ifs scope pos cl use E Q (.ref r) s₁:=by
 have up:∀ b' o,s₁.heap.get? b'=some o→(s₁.heap.push (riO 0 n 1)).get? b'=some o:=λ b o e=>Heap.get?_push_of_some _ e
 have hz:@LE.le Nat _ s₁.heap.objs.size (s₁.heap.push (riO 0 n 1)).objs.size:=by rw[Heap.size_push];exact Nat.le_succ _
 unfold L7
 refine wpAny_pyIter_range hr hs ?_
 rw[hn]
 refine Ok (s₁:=s₁) (Walks.range hh s₁.heap.objs.size 0 1 n) (go _ _) hn5 G ⟨λ b o _ _ _ e=>up b o e,hz,G.vol.keeps hz up,Cx.heap (Nat.le_refl _)⟩
  ?_ [] (λ _ h=>nomatch h) ?_ ?_ (λ F i rs z=>X i rs) (λ _ _ _=>hX0) (λ _ _ _ _ _ _ _ h=>h) ?_ ?_
 ·have e:(0:Int)+((0:Nat):Int)*1=0:=by rfl
  have e2:((n:Int)-((0:Nat):Int))=n:=by rfl
  show IsRangeIter _ _ ((0:Int)+((0:Nat):Int)*1) ((n:Int)-((0:Nat):Int)) 1
  rw[e,e2]
  exact Heap.get?_push_size _ rfl
 ·intro b' hb
  rw[List.mem_singleton.mp hb]
  refine⟨?_,G.vol.c,λ h=>nomatch h⟩
  show _<(s₁.heap.push (riO 0 n 1)).objs.size
  rw[Heap.size_push];exact Nat.lt_succ_self _
 ·intro b' hb
  rw[List.mem_singleton.mp hb];exact Nat.le_refl _
 ·rintro F C i vv z m rs hi ⟨tk,rfl⟩ hlen D hF hX hcells
  have e:(0:Int)+(i:Int)*1=(i:Int):=by simp_all +arith
  rw[e]
  refine wpAny_mono (turn C i tk z m rs hi hlen D hX) (λ _ z1 h1=>wpAny_mono h1 (λ ok z2 h2=>?_) λ _ _ e=>e) λ _ _ e=>e
  cases ok with
  | false=>simp at h2
  | true =>
   simp only[if_true] at h2 ⊢
   refine wpAny_mono h2 (λ y z3 h3=>?_) λ _ _ e=>e
   obtain⟨⟨m',news,D3⟩,hX3⟩:=h3
   refine⟨⟨m',D3.rebase⟩,λ b' o _ hbC _ h3 e=>D3.old e h3 hbC,λ c hc=>?_,hX3⟩
   rw[hcs C] at hc;cases hc
 ·intro F acc C s' rs k m _ hac _ ha hC st hg hns hX
  exact fin acc C s' rs k m hac ha hC st hg hns hX
end
noncomputable def cutAt (W hd:Int) (wh:Str) (k:Nat):Str:=Txt.slice wh (some (max 0 ((k:Int)*W-hd))) (some (((k:Int)+1)*W-hd))
noncomputable def cutL (W hd:Int) (wh:Str) (n:Nat):List Str:=(List.range n).map (cutAt W hd wh)
noncomputable abbrev GI.nmI (g:GI) (a b:VI) (tot:Int) (tt:Tok) (pg:Str) (tp:Tok) (cnt:Int) (tc:Tok) (lc:Addr):List (Str×Value):=("cut", .ref lc)::g.nmH a b tot tt pg tp cnt tc
theorem law9:∀ (w:World) {A:Around} {s z:Shared} {L:Addr} {m:SV} {g:GI} {hb:Heap} {a b:VI} {va vb:VS} {tot cnt:Int} {tt tW tp tw tc:Tok} {cws pg wh:Str} {vr:Option Value} (R:A3 (A.deeper (Ab L)) 30) (D:Cl w [] s L z.heap m [] z) (X:Ei g L vr (some (.int (W0 g.p) tW)) (some (.str wh tw)) z.heap) (H:Cz m (g.nmH a b tot tt pg tp cnt tc)) (V:VV w.params L hb a b (W0 g.p) cws (As g.p) va vb z.heap) (hc:0≤cnt∧cnt≤400) (hwl:wh.length≤10000) {Q:FP} (c:∀ m' z' lc n vs,Cl w [] s L z'.heap m' [] z'→Ei g L vr (some (.int (W0 g.p) tW)) (some (.str wh tw)) z'.heap→Cz m' (g.nmI a b tot tt pg tp cnt tc lc)→VV w.params L hb a b (W0 g.p) cws (As g.p) va vb z'.heap →
   z'.heap.get? lc=some (A6 vs n)→@LE.le Nat _ 317 lc→z.heap.get? lc=none→StrsAre vs (cutL (W0 g.p) g.hd wh cnt.toNat) →
   wpAny (MD w) (A.deeper (Ab L)) (execs (Bb.drop 14) (Ab L)) Q (λ _ _=>False) z'),
  wpAny (MD w) (A.deeper (Ab L)) (execs (Bb.drop 13) (Ab L)) Q (λ _ _=>False) z:=by
 walk_at " w A s z L m g hb a b va vb tot cnt tt tW tp tw tc cws pg wh vr R D X H V hc hwl Q c"
 have hWb:=Fx g.p
 have hbS:=Bo g.p
 have hh:=Q8 g.p
 refine wpAny_execs_cons ?_
 refine Kn [("width", L+3),("whole", L+4),("head", L+1)] (by kernel_rfl) (by kernel_rfl) (by kernel_rfl) (by decide +kernel) ?_
 refine Am ?_
 refine Ap (.type "range") D (by kernel_rfl) (by kernel_rfl) ?_
 refine Co (spliced_more ?_)
 refine Ai D (H.at 0 rfl) ?_
 refine spliced_none ⟨Gk,Mi D ?_⟩
 walk_at " z2 rg t2 v2 D2"
 have X2:=X.kb ((Cw.refl _ _).now D2) D.ns D.hL
 have hsm:=Im 0 cnt (by decide) (by decide) hc.1 (by lia)
 refine R6 (t:=t2) (u:=tc) (v:=v2) (λ _ _=>go_name) R.hd D2.good (D2.at 0 rfl) hsm.1 hsm.2 (by lia) (by intro C;kernel_rfl) (λ i rs=>StrsAre rs ((List.range i).map (cutAt (W0 g.p) g.hd wh))) .nil ?_ ?_
 ·walk_at " C i tk z3 m3 rs hi hlen Dz hX"
  have cell:∀ {cc:Addr} {v:Value} {zz:Shared} {mm:SV} {nw:AO},@LT.lt Nat _ L cc→z2.heap.IsCell cc (some v)→Cl w [] z2 C z3.heap mm nw zz→zz.heap.IsCell cc (some v):=λ hL hcc D'=>Aq hcc λ o e=>D'.st.get (Nat.le_trans D.hL (Nat.le_of_lt hL)) (λ h=>nomatch h) e
  have cH:=X2.cel.c1
  have cW:=X2.cel.c3
  have cO:=X2.cel.c4
  have l1:@LT.lt Nat _ L (L+1):=Nat.lt_succ_self L
  have l3:@LT.lt Nat _ L (L+3):=Nat.lt_add_of_pos_right (by decide)
  have l4:@LT.lt Nat _ L (L+4):=Nat.lt_add_of_pos_right (by decide)
  have hi4:(i:Int)<400:=by lia
  have hm1:(i:Int)*W0 g.p≤400*1000:=Int.mul_le_mul (by exact Int.le_of_lt (by assumption)) (by omega) (by lia) (by simp)
  have hm0:0≤(i:Int)*W0 g.p:=Int.mul_nonneg (by simp +arith) (by lia)
  refine assign_Name ?_
  refine An Dz ?_ (by kernel_rfl) (by kernel_rfl)
  walk_at " z4 D4"
  refine wpAny_tests_nil ?_
  rw[if_pos rfl]
  refine Aj ?_
  refine Ay (cell l4 cO D4) ?_
  refine n_slice ?_
  refine Os ?_
  refine Am ?_
  refine Ap (.builtin "max") D4 (by kernel_rfl) (by kernel_rfl) ?_
  refine Co (spliced_more ?_)
  refine Gx D4 ?_
  walk_at " z5 t5 D5 _"
  refine spliced_more ?_
  refine wpAny_BinOp ?_
  refine wpAny_BinOp ?_
  refine Ai D5 (if_pos rfl) ?_
  refine Ay (cell l3 cW D5) ?_
  refine Jz D5 (Ff (by simp +arith) (by lia)) ?_
  walk_at " z6 t6 D6 _"
  refine Ay (cell l1 cH D6) ?_
  refine Cd D6 ?_
  walk_at " z7 t7 D7 _"
  refine spliced_none ⟨Bh,n_maxTwo D7 R.hd ?_⟩
  walk_at " z8 t8 D8"
  refine Os ?_
  refine wpAny_BinOp ?_
  refine wpAny_BinOp ?_
  refine wpAny_BinOp ?_
  refine Ai D8 (if_pos rfl) ?_
  refine Gx D8 ?_
  walk_at " z9 t9 D9 _"
  refine Ce D9 ?_
  walk_at " z10 t10 D10 _"
  refine Ay (cell l3 cW D10) ?_
  refine Jz D10 (Ff (by lia) (by lia)) ?_
  walk_at " z11 t11 D11 _"
  refine Ay (cell l1 cH D11) ?_
  refine Cd D11 ?_
  walk_at " z12 t12 D12 _"
  refine⟨_,_,_,_,_,_,D12,?_⟩
  walk_at " z13 sl D13"
  refine Su D13 (D13.at 0 rfl) (by exact Nat.le_trans (by assumption) (by decide)) ?_
  walk_at " z14 t14 D14"
  refine⟨⟨_,_,D14⟩,?_⟩
  rw[List.range_succ,List.map_append]
  exact Oy hX
 ·walk_at " acc C z3 rs k m3 hac ha hC st hg hns hX"
  have hn:(cnt-0).toNat=cnt.toNat:=by rw[Int.sub_zero]
  have D3:=D2.step0 st
  have hzL:@LT.lt Nat _ L z2.heap.objs.size:=D2.ns.lt
  have hCL:C≠L:=Nat.ne_of_gt (Nat.lt_of_lt_of_le hzL hC)
  have hC3:@LE.le Nat _ 317 C:=Nat.le_trans D2.good.vol.c hC
  have haL:acc≠L:=Nat.ne_of_gt (Nat.lt_of_lt_of_le hzL ha)
  have ha3:@LE.le Nat _ 317 acc:=Nat.le_trans D2.good.vol.c ha
  show wpAny (MD w) _ (assign (.Name "cut" _) (Ab L) (.ref acc)) _ _ _
  refine assign_Name ?_
  refine Qi D3 ?_ (by kernel_rfl) (by kernel_rfl)
  walk_at " z4 D4 hk4 _"
  refine⟨m3,?_,?_⟩
  ·obtain⟨o,es,ep,e,q⟩:=hns
   walk_at "c o es ep"
   exact⟨o,es,ep,hk4 _ _ hCL e,q⟩
  walk_at " h5 hs5"
  have D5:=D4.mut (Bc (Nat.le_trans D2.st.size hC)) hCL hC3 hs5
  have up:∀ b o,b≠C→b≠L→@LE.le Nat _ 317 b→z.heap.get? b=some o→h5.get? b=some o:=λ b o h1 h2 h3 e=>(hs5.2 b h1).trans (D4.old e h3 h2)
  have K5:Cw L z.heap h5:=λ b o h3 h1 e=>up b o (λ q=>by
   have:=(Cw.refl L z.heap).now D2 b o h3 h1 e
   exact absurd (Heap.lt_size this) (by rw[q];exact Nat.not_lt.mpr hC)) h1 h3 e
  have V5:VV w.params L hb a b (W0 g.p) cws (As g.p) va vb h5:=by
   have ka:∀ {i:VI} {mx:Int} {cws sp:Str} {v:VS},i.at w.params z.heap mx cws sp v→(∀ q∈i.all,q≠L)→i.at w.params h5 mx cws sp v:=λ V hL=>VI.keep V λ b o h3 hor e=>K5 b o h3 (by
    rcases hor with h|⟨y,hy,rfl⟩
    ·exact hL b h
    ·walk_at "c y"
     exact D.neSeq (V.acc.tup y hy).1 λ _ _=>nofun) e
   exact⟨ka V.va λ q hq=>(V.fr q (List.mem_append_left _ hq)).2,ka V.vb λ q hq=>(V.fr q (List.mem_append_right _ hq)).2,V.ab,V.ba,V.fr⟩
  have hz0:z.heap.get? acc=none:=by
   cases hq:z.heap.get? acc with
   | none=>rfl
   | some o =>
    walk_at "c o"
    have:=(Cw.refl L z.heap).now D2 acc o ha3 haL hq
    exact absurd (Heap.lt_size this) (Nat.not_lt.mpr ha)
  rw[hn] at hX
  exact c _ _ acc k rs D5 (X.kb K5 D.ns D.hL) (H.set "cut" (.ref acc)) V5 ((hs5.2 acc hac).trans (hk4 _ _ haL hg)) ha3 hz0 hX
theorem nl_nil (lines:List Str):Aw lines 0 []=lines:=by
 unfold Aw
 rw[if_neg (by decide +kernel)]
theorem join_same (x:Str) (l:List Str):Txt.join x l=Str.join x l:=StrLaws.glued_eq_join ..
theorem VI.ncell {P:Params} {h:Heap} {i:VI} {mx:Int} {cws sp:Str} {v:VS} (V:i.at P h mx cws sp v):∀ q∈i.mut,∀ u,¬ h.IsCell q u:=by
 rintro q hq u ⟨o,e,d⟩
 unfold VI.mut at hq
 simp only[List.mem_cons,List.not_mem_nil,or_false] at hq
 rcases hq with rfl|rfl|rfl
 ·obtain⟨k,e'⟩:=V.acc.ox;rw[e'] at e;cases e;cases d
 ·obtain⟨t,ti,e',_⟩:=V.acc.od;rw[e'] at e;cases e;cases d
 ·obtain⟨ls,n,_,e'⟩:=V.ol;rw[e'] at e;cases e;cases d
theorem law10:∀ (w:World) {A:Around} {s z:Shared} {L:Addr} {m:SV} {g:GI} {hb:Heap} {a b:VI} {vb:VS} {tot cnt:Int} {tt tW tp tw tc:Tok} {cws wh:Str} {vr:Option Value} {lc:Addr} {LA:List Str} {vs:List Value} {n:Nat} (R:A3 (A.deeper (Ab L)) 30) (D:Cl w [] s L z.heap m [] z) (hs0:∀ q,@LE.le Nat _ 317 q→hb.get? q=none→s.heap.get? q=none) (X:Ei g L vr (some (.int (W0 g.p) tW)) (some (.str wh tw)) z.heap) (H:Cz m (g.nmI a b tot tt (Str.join Cy LA) tp cnt tc lc)) (V:VV w.params L hb a b (W0 g.p) cws (As g.p) ⟨LA,0,[]⟩ vb z.heap) (hlc:z.heap.get? lc=some (A6 vs n)) (lc3:@LE.le Nat _ 317 lc) (hcut:StrsAre vs LA) (hLl:∀ l∈LA,l.length≤100000) (hLf:LA.length≤190) (hsum:(LA.map (·.length)).sum+LA.length*Cy.length≤16777216) (ob:vb.ps.length≤190∧vb.lines.length≤190∧0≤vb.init∧Cs vb.init (T vb.ps)<50000∧(∀ l∈vb.lines,l.length≤100000)) (hsumb:((Aw vb.lines vb.init (T vb.ps)).map (·.length)).sum+(Aw vb.lines vb.init (T vb.ps)).length*Cy.length≤16777216) (hwh:Str.join Cy (Aw vb.lines vb.init (T vb.ps))=wh) {Q:FP} (c:∀ z' vb',Cl w [] s L z'.heap m [] z'→VV w.params L hb a b (W0 g.p) cws (As g.p) ⟨LA,0,[]⟩ vb' z'.heap→(∀ q o,@LE.le Nat _ 317 q→q≠L→q∉a.mut→q∉b.mut→z.heap.get? q=some o→z'.heap.get? q=some o) →
   wpAny (MD w) (A.deeper (Ab L)) (execs (Bb.drop 15) (Ab L)) Q (λ _ _=>False) z'),
  wpAny (MD w) (A.deeper (Ab L)) (execs (Bb.drop 14) (Ab L)) Q (λ _ _=>False) z:=by
 walk_at " w A s z L m g hb a b vb tot cnt tt tW tp tw tc cws wh vr lc LA vs n R D hs0 X H V hlc lc3 hcut hLl hLf hsum ob hsumb hwh Q c"
 refine wpAny_execs_cons ?_
 refine wpAny_If ?_
 refine isTrue_or ?_
 refine wpAny_isTrue_Compare1 ?_ (by kernel_rfl)
 refine Ai D (H.at 2 rfl) ?_
 refine Ak ?_
 refine Gl D ?_
 walk_at " z1 t1 D1 _"
 walk_at " pl"
 refine GM.join (Co (spliced_more ?_))
 refine Ai D1 (H.at 0 rfl) ?_
 have hlcL:lc≠L:=D.neSeq hlc λ _ _ h=>by cases h
 refine spliced_none ⟨Bh,wpAny_with_toks (Nat.le_refl z1.toks) (join_list (x:=Cy) (items:=vs.toArray) (ys:=LA) (Al (D1.old hlc lc3 hlcL)) (by simpa using hcut) hsum ?_)⟩
 walk_at " t2 k hk"
 have D2:=D1.grow (h':=z1.heap) (t:=k) (λ _ _ e=>e) hk
 rw[join_same]
 refine PySem.P.ne_str ?_
 refine wpAny_truthy_bool ?_
 refine Be (by simp) ?_
 refine isTrue_or ?_
 refine wpAny_isTrue_Compare1 ?_ (by kernel_rfl)
 have V2:=V.now D2
 have X2:=X.cel.now D2
 refine Ak ?_
 refine Ai D2 (H.at 5 rfl) ?_
 walk_at " pl"
 refine vm (.ref 78) D2.k V2.vb (by kernel_rfl) (by kernel_rfl) (by intros;kernel_rfl) ?_
 refine Co (spliced_more ?_)
 refine Gl D2 ?_
 walk_at " z3 t3 D3 _"
 have V3:=V.now D3
 have C3:=X.cel.now D3
 refine spliced_none ⟨Cr D3.k (by kernel_rfl),wpAny_mono (VV.str_b D3.good (R.mono (by decide)) V3 ob.1 ob.2.1 ob.2.2.1 ob.2.2.2.1 ob.2.2.2.2 hsumb) ?_ λ _ _ e=>e.elim⟩
 walk_at " r z4 q"
 obtain⟨⟨t4,rfl⟩,st4,V4⟩:=q
 walk_at "c t4"
 have D4:=D3.step st4 (V.mutOk hs0).2
 have C4:=C3.step D3 st4 (VI.ncell V3.vb)
 refine Ay C4.c4 ?_
 rw[hwh]
 refine PySem.P.ne_str ?_
 refine wpAny_truthy_bool ?_
 refine Be (by simp) ?_
 refine isTrue_or ?_
 refine wpAny_isTrue_Compare1 ?_ (by kernel_rfl)
 refine Ak ?_
 refine Ai D4 (H.at 4 rfl) ?_
 walk_at " pl"
 refine vm (.ref 78) D4.k V4.va (by kernel_rfl) (by kernel_rfl) (by intros;kernel_rfl) ?_
 refine Co (spliced_more ?_)
 refine Gl D4 ?_
 walk_at " z5 t5 D5 _"
 have V5:=V4.now D5
 refine spliced_none ⟨Cr D5.k (by kernel_rfl),wpAny_mono (VV.str_a D5.good (R.mono (by decide)) V5 (Nat.zero_le _) hLf (Int.le_refl _) (show Cs 0 []<50000 by decide +kernel) hLl (by rw[show T ([]:List A0)=[] from rfl,nl_nil];exact hsum)) ?_ λ _ _ e=>e.elim⟩
 walk_at " r z6 q"
 obtain⟨⟨t6,rfl⟩,st6,V6⟩:=q
 walk_at "c t6"
 have e6:Aw LA 0 (T ([]:List A0))=LA:=nl_nil LA
 rw[e6] at V6 ⊢
 have D6:=D5.step st6 (V.mutOk hs0).1
 refine Ai D6 (H.at 2 rfl) ?_
 refine PySem.P.ne_str ?_
 refine wpAny_truthy_bool ?_
 refine Be (by simp) ?_
 walk_at "s3"
 refine Be (by simp) ?_
 refine wpAny_execs_nil ?_
 exact c z6 _ D6 V6 (λ q o h3 h1 h2 h2' e=>st6.get h3 h2 (D5.old (st4.get h3 h2' (D3.old e h3 h1)) h3 h1))
theorem join_last (sep x:Str) (l:List Str) (hne:l≠[]):Str.join sep (l.dropLast++[l.getLastD "" ++ x])=Str.join sep l++x:=by
 induction l with
 | nil=>exact absurd rfl hne
 | cons a q ih=>cases q with
 | nil=>simp[Str.join]
 | cons b r =>
  have ih:=ih (by simp)
  have e1:(a::b::r).dropLast++[(a::b::r).getLastD "" ++ x]=a::((b::r).dropLast++[(b::r).getLastD "" ++ x]):=by simp[List.getLastD]
  rw[e1]
  have e2:∀ l:List Str,l≠[]→Str.join sep (a::l)=a++sep++Str.join sep l:=λ l h=>by
   cases l with
   | nil=>exact absurd rfl h
   | cons y ys=>rfl
  rw[e2 _ (by simp),e2 (b::r) (by simp),ih]
  exact str_ext (by show ((a++sep).cps++((Str.join sep (b::r)).cps++x.cps)).toList=(((a++sep).cps++(Str.join sep (b::r)).cps)++x.cps).toList;rw[Array.append_assoc])
theorem n_strT {w:World} {S:List Addr} {s₀ s:Shared} {L:Addr} {ref:Heap} {m:SV} {news:AO} {A:Around} {E:VP} {env:Env} {x:Str} {k:Nat} {pos:Pos} {Q:VP} (D:Cl w S s₀ L ref m news s) (h:∀ s' t,Cl w S s₀ L ref m news s'→t≠0→t<s'.toks→Q (.str x t) s'):wpAny (MD w) A (eval (.Constant (.str x) k pos) env) Q E s :=
 wpAny_Constant_str (h _ _ (D.toks 1) (Nat.ne_of_gt D.good.tk) (Nat.lt_succ_self _))
noncomputable abbrev q2:Str×Str:=("  ", "")
theorem law11:∀ (w:World) {A:Around} {s z:Shared} {L:Addr} {m:SV} {g:GI} {hb:Heap} {a b:VI} {vb:VS} {tot cnt:Int} {tt tW tp tc:Tok} {cws:Str} {vr vo:Option Value} {lc:Addr} {LA:List Str} (R:A3 (A.deeper (Ab L)) 30) (D:Cl w [] s L z.heap m [] z) (hs0:∀ q,@LE.le Nat _ 317 q→hb.get? q=none→s.heap.get? q=none) (C:LC L z.heap (some (.int g.hd g.th)) vr (some (.int (W0 g.p) tW)) vo) (H:Cz m (g.nmI a b tot tt (Str.join Cy LA) tp cnt tc lc)) (V:VV w.params L hb a b (W0 g.p) cws (As g.p) ⟨LA,0,[]⟩ vb z.heap) (hne:LA≠[]) (hLl:∀ l∈LA,l.length≤10000) (hLf:LA.length≤100) (hsum:(LA.map (·.length)).sum+LA.length*Cy.length≤100000) (hpl:(Str.join Cy LA).length≤50000) (hasc:strIterType (Str.join Cy LA) = "str_ascii_iterator") (hcount:(((Str.join Cy LA).cps.toList.count 124:Nat):Int)+1=cnt) (hidx:cnt≠1→∃ p:Nat,(Str.join Cy LA).cps[p]?=some 124∧(∀ i<p,(Str.join Cy LA).cps[i]?≠some 124)∧(p:Int)=W0 g.p-g.hd) {Q:FP} (c:∀ m' z',Cl w [] s L z'.heap m' [] z'→Q (.ret (.bool true)) z'),
  wpAny (MD w) (A.deeper (Ab L)) (execs (Bb.drop 15) (Ab L)) Q (λ _ _=>False) z:=by
 walk_at " w A s z L m g hb a b vb tot cnt tt tW tp tc cws vr vo lc LA R D hs0 C H V hne hLl hLf hsum hpl hasc hcount hidx Q c"
 have hWb:=Fx g.p
 have hbS:=Bo g.p
 refine wpAny_execs_cons ?_
 refine wpAny_Expr ?_ (by kernel_rfl) (by kernel_rfl)
 refine Ak ?_
 refine Ai D (H.at 4 rfl) ?_
 walk_at " pl"
 refine vm (.ref 127) D.k V.va (by kernel_rfl) (by kernel_rfl) (by intros;kernel_rfl) ?_
 refine Co (spliced_more ?_)
 refine Gl D ?_
 walk_at " z1 t1 D1 _"
 refine spliced_more ?_
 refine Gl D1 ?_
 walk_at " z2 t2 D2 _"
 have V2:=V.now D2
 have C2:=C.now D2
 have t2W:Cs 0 (T ([]:List A0)++[q2])≤W0 g.p:=by
  have:Cs 0 (T ([]:List A0)++[q2])=2:=by decide +kernel
  rw[this];lia
 refine spliced_none ⟨Cr D2.k (by kernel_rfl),wpAny_mono (Ml w (b := "  ") (p := "") D2.good (R.mono (by decide)) V2.va (Nat.zero_le _) (Nat.le_trans hLf (by decide)) (Int.le_refl _) (by rw[Es];show Cs 0 []<20000;decide +kernel) (by decide) (by decide) (λ l h=>Nat.le_trans (hLl l h) (by decide)) (sp_ok g.p) (λ h=>absurd t2W h)) ?_ λ _ _ e=>e.elim⟩
 walk_at " r z3 q"
 obtain⟨rfl,st3,ps3,eps,V3a⟩:=q
 walk_at "c ps3"
 have er:Fi (W0 g.p) (As g.p) LA 0 (T ([]:List A0)) ("  ", "")=(LA,0,T ([]:List A0)++[q2]):=by
  unfold Fi
  rw[if_pos t2W]
 rw[er] at eps V3a
 have V3:VV w.params L hb a b (W0 g.p) cws (As g.p) ⟨LA,0,ps3⟩ vb z3.heap:=⟨V3a,VI.other V2.vb V2.va V.ab st3,V.ab,V.ba,V.fr⟩
 have D3:=D2.step st3 (V.mutOk hs0).1
 have C3:=C2.step D2 st3 (VI.ncell V2.va)
 have enl:Aw LA 0 (T ps3)=LA.dropLast++[LA.getLastD "" ++ "  "]:=by
  rw[eps]
  have e1:Eg (T ([]:List A0)++[q2])=[q2]:=by decide +kernel
  unfold Aw
  rw[e1,if_pos (by decide +kernel),if_pos ⟨rfl,by decide +kernel,hne⟩]
  rfl
 have hsum2:((LA.dropLast++[LA.getLastD "" ++ "  "]).map (·.length)).sum+(LA.dropLast++[LA.getLastD "" ++ "  "]).length*Cy.length≤16777216:=by
  obtain⟨r,y,e⟩:=Oi hne
  walk_at "c r y"
  have e2:LA.dropLast=r∧LA.getLastD "" = y:=by rw[e];simp[List.getLastD_eq_getLast?]
  rw[e2.1,e2.2]
  rw[e] at hsum
  have e3:(y ++ "  ").length=y.length+2:=by rw[Str.length_append];rfl
  simp only[List.map_append,List.map_cons,List.map_nil,List.sum_append,List.length_append,List.length_cons,List.length_nil,List.sum_cons,List.sum_nil,e3] at hsum ⊢
  lia
 have ejn:Str.join Cy (LA.dropLast++[LA.getLastD "" ++ "  "])=Str.join Cy LA ++ "  " := join_last Cy "  " LA hne
 refine wpAny_execs_cons ?_
 refine wpAny_If ?_
 refine isTrue_or ?_
 refine wpAny_isTrue_Compare1 ?_ (by kernel_rfl)
 refine Ak ?_
 refine Ai D3 (H.at 4 rfl) ?_
 walk_at " pl"
 refine vm (.ref 78) D3.k V3.va (by kernel_rfl) (by kernel_rfl) (by intros;kernel_rfl) ?_
 refine Co (spliced_more ?_)
 refine Gl D3 ?_
 walk_at " z4 t4 D4 _"
 have V4:=V3.now D4
 have C4:=C3.now D4
 have hp3:ps3.length≤190:=by
  have:=congrArg List.length eps
  unfold T at this
  simp at this
  lia
 refine spliced_none ⟨Cr D4.k (by kernel_rfl),wpAny_mono (VV.str_a D4.good (R.mono (by decide)) V4 hp3 (Nat.le_trans hLf (by decide)) (Int.le_refl _) (show Cs 0 (T ps3)<50000 by rw[eps];exact (show Cs 0 [q2]<50000 by decide +kernel)) (λ l h=>Nat.le_trans (hLl l h) (by decide)) (by show ((Aw LA 0 (T ps3)).map (·.length)).sum+(Aw LA 0 (T ps3)).length*Cy.length≤16777216;rw[enl];exact hsum2)) ?_ λ _ _ e=>e.elim⟩
 walk_at " r z5 q"
 obtain⟨⟨t5,rfl⟩,st5,V5⟩:=q
 walk_at "c t5"
 have D5:=D4.step st5 (V.mutOk hs0).1
 have C5:=C4.step D4 st5 (VI.ncell V4.va)
 show wpAny (MD w) _ _ _ _ _
 have enl':Aw (VS.mk LA 0 ps3).lines (VS.mk LA 0 ps3).init (T (VS.mk LA 0 ps3).ps)=LA.dropLast++[LA.getLastD "" ++ "  "]:=enl
 rw[enl',ejn]
 refine wpAny_BinOp ?_
 refine Ai D5 (H.at 2 rfl) ?_
 refine Gl D5 ?_
 walk_at " z6 t6 D6 _"
 refine Gn D6 (by show _+2≤_;lia) ?_
 walk_at " z7 t7 D7"
 refine PySem.P.ne_str ?_
 refine wpAny_truthy_bool ?_
 refine Be (by simp) ?_
 refine isTrue_or ?_
 refine wpAny_isTrue_Compare1 ?_ (by kernel_rfl)
 refine Am ?_
 walk_at "g 275"
 refine Co (spliced_more ?_)
 refine Am ?_
 walk_at "g 239"
 refine Co (spliced_more ?_)
 refine Ai D7 (H.at 2 rfl) ?_
 refine spliced_more ?_
 refine n_strT D7 ?_
 walk_at " z8 t8 D8 ht8 ht8'"
 refine spliced_none ⟨Cr D8.k (by kernel_rfl),wpAny_mono (s_countOf w (c:=124) D8.good (R.mono (by decide)) hasc ht8 ht8') ?_ λ _ _ e=>e.elim⟩
 walk_at " r z9 q"
 obtain⟨⟨t9,_,rfl⟩,st9⟩:=q
 walk_at "c t9"
 have D9:=D8.step0 st9
 refine spliced_more ?_
 refine Gx D9 ?_
 walk_at " z10 t10 D10 _"
 refine spliced_none ⟨Cr D10.k (by kernel_rfl),wpAny_mono (s_iadd w D10.good (R.mono (by decide))) ?_ λ _ _ e=>e.elim⟩
 walk_at " r z11 q"
 obtain⟨⟨t11,_,rfl⟩,st11⟩:=q
 walk_at "c t11"
 have D11:=D10.step0 st11
 refine Ai D11 (H.at 1 rfl) ?_
 refine PySem.P.ne_int ?_
 rw[hcount]
 refine wpAny_truthy_bool ?_
 refine Be (by simp) ?_
 walk_at "s3"
 refine Be (by simp) ?_
 refine wpAny_execs_nil ?_
 refine wpAny_execs_cons ?_
 refine wpAny_Return_some ?_
 refine BoolOp_or ?_
 refine wpAny_Compare1 ?_ (by kernel_rfl)
 refine Ai D11 (H.at 1 rfl) ?_
 refine Gx D11 ?_
 walk_at " z12 t12 D12 _"
 refine PySem.P.eq_int ?_
 refine wpAny_truthy_bool ?_
 by_cases h1:cnt=1
 ·rw[if_pos (by simpa using h1)]
  rw[show (cnt == 1)=true by simpa using h1]
  exact c m z12 D12.self
 ·rw[if_neg (by simpa using h1)]
  obtain⟨p,hp1,hp2,hp3⟩:=hidx h1
  refine BoolOp_one ?_
  refine wpAny_Compare1 ?_ (by kernel_rfl)
  refine Am ?_
  walk_at "g 260"
  refine Co (spliced_more ?_)
  refine Ai D12 (H.at 2 rfl) ?_
  refine spliced_more ?_
  refine n_strT D12 (λ z13 t13 D13 ht13 ht13'=>?_)
  refine spliced_none ⟨Cr D13.k (by kernel_rfl),wpAny_mono (Sy w (c:=124) (p:=p) D13.good (R.mono (by decide)) hasc ht13 ht13' hp1 hp2) (λ r z14 q=>?_) λ _ _ e=>e.elim⟩
  obtain⟨⟨t14,rfl⟩,st14⟩:=q
  have D14:=D13.step0 st14
  have C14:=C5.now D14
  refine Am ?_
  walk_at "g 282"
  refine Co (spliced_more ?_)
  refine Ay C14.c3 ?_
  refine spliced_more ?_
  refine Ay C14.c1 ?_
  refine spliced_none ⟨Cr D14.k (by kernel_rfl),wpAny_mono (s_isub w D14.good (R.mono (by decide))) (λ r z15 q=>?_) λ _ _ e=>e.elim⟩
  obtain⟨⟨t15,_,rfl⟩,st15⟩:=q
  have D15:=D14.step0 st15
  refine PySem.P.eq_int ?_
  rw[hp3,show (W0 g.p-g.hd == W0 g.p-g.hd)=true from beq_self_eq_true _]
  exact c m z15 D15.self
noncomputable def Er (p:Int) (cs:List Int):List (Str×Str):=(List.range 8).map λ k=>Fd p (cs.getD (k+1) 0) k
noncomputable def Hx (qs:LS):List (Str×Str):=(srt (ltz (qs.map λ q=>-Cn q)) qs.length).filterMap λ i=>qs[i]?
noncomputable def Ix (p:Int) (qs:LS):Int:=B0 p+(qs.map Cn).sum
structure PgEnd (p:Int) (qs:LS):Prop where
 ne:Bt p qs≠[]
 len:∀ l∈Bt p qs,l.length≤10000
 few:(Bt p qs).length≤100
 sum:((Bt p qs).map (·.length)).sum+(Bt p qs).length*Cy.length≤100000
 pl:(Str.join Cy (Bt p qs)).length≤50000
 asc:strIterType (Str.join Cy (Bt p qs)) = "str_ascii_iterator"
 wl:((Em qs).map (·.length)).sum≤10000
 wn:(Cj qs).length≤10000
 tot:0≤Ix p qs∧Ix p qs<100000
 cnt:0≤Fm (Ix p qs) (W0 p)∧Fm (Ix p qs) (W0 p)≤400
 cut:cutL (W0 p) (B0 p) (Cj qs) (Fm (Ix p qs) (W0 p)).toNat=Bt p qs
 unc:Str.join Cy (Aw (Bg (W0 p) "," 0 qs).1 (Bg (W0 p) "," 0 qs).2.1 (Bg (W0 p) "," 0 qs).2.2)=Cj qs
 usum:((Aw (Bg (W0 p) "," 0 qs).1 (Bg (W0 p) "," 0 qs).2.1 (Bg (W0 p) "," 0 qs).2.2).map (·.length)).sum+(Aw (Bg (W0 p) "," 0 qs).1 (Bg (W0 p) "," 0 qs).2.1 (Bg (W0 p) "," 0 qs).2.2).length*Cy.length≤16777216
 num:(((Str.join Cy (Bt p qs)).cps.toList.count 124:Nat):Int)+1=Fm (Ix p qs) (W0 p)
 idx:Fm (Ix p qs) (W0 p)≠1→∃ j:Nat,(Str.join Cy (Bt p qs)).cps[j]?=some 124∧(∀ i<j,(Str.join Cy (Bt p qs)).cps[i]?≠some 124)∧(j:Int)=W0 p-B0 p
noncomputable def L9 (p W:Int) (qs:LS):Prop:=∀ k,k<8→Hr p W (B0 p) qs k (Gp W (B0 p) ((qs.take (k+1)).map Cn))
noncomputable def Nq:Prop:=∀ (p:Int) (cs:List Int),L9 p (W0 p) (Er p cs)∧L9 p (W1 p) (Hx (Er p cs))∧PgLaw p (Hx (Er p cs))∧PgEnd p (Hx (Er p cs))
theorem words_eq {h:Heap} {p:Int} {cs:List Int} {ys:List A0} (H:I6 h p cs ys) (h8:ys.length=8):T ys=Er p cs:=by
 refine List.ext_getElem? λ j=>?_
 unfold T Er
 rw[List.getElem?_map,List.getElem?_map]
 by_cases hj:j<8
 ·have e:ys[j]?=some ys[j]:=List.getElem?_eq_getElem (by omega)
  rw[List.getElem?_range hj,e]
  exact congrArg some (H j _ e).2
 ·rw[List.getElem?_eq_none (by simp_all),List.getElem?_eq_none (by rw[List.length_range];simp_all)];rfl
theorem fall_eq {ys:List A0}:T (Ex ys (En ys))=Hx (T ys):=by
 have e:=qs_pick ys (En ys)
 have e1:Fw ys=(T ys).map λ q=>-Cn q:=by unfold Fw T Cn;rw[List.map_map];rfl
 have e2:(T ys).length=ys.length:=by unfold T;rw[List.length_map]
 unfold Hx
 rw[← e1,e2]
 exact e
noncomputable def LawKept (s z:Shared):Prop:=(∀ b o,b≠176→b≠183→b≠313→s.heap.get? b=some o→z.heap.get? b=some o)∧(∃ ps,z.heap.get? 313=some (tabObj ps))∧Fh z.heap∧Cx s z
theorem law_walk:∀ (PL:Nq) (w:World) {A:Around} {s:Shared} {lsc:Addr} {vsc:List Value} {nsc:Nat} {scr:List Int} (G:A5 w s) (R:A3 A 31) (h313:s.heap.get? 313=some (tabObj #[])) (hsc:s.heap.get? lsc=some (A6 vsc nsc)) (hsc3:@LE.le Nat _ 317 lsc) (hvs:IntsAre vsc scr) (hn:vsc.length≤500),
  wpAny (MD w) A (call (.ref 316) [.ref lsc]) (λ r s'=>r=.bool true∧LawKept s s') no s:=by
 walk_at " PL w A s lsc vsc nsc scr G R h313 hsc hsc3 hvs hn"
 refine Nx (binds:=[("script", .ref lsc)]) [] (O2 w) G R (by kernel_rfl) (by kernel_rfl) ?_
 walk_at " L s₁ D hcells"
 have R':A3 (A.deeper (Ab L)) 30:=R.deeper _
 have hm:(bindL (cfenv E4 316 L).kindOf [(("script" : Str),Value.ref lsc)] λ _=>none) "script" = some (.ref lsc):=by kernel_rfl
 obtain⟨c1,_⟩:=hcells "head" (L+1) (by kernel_rfl)
 obtain⟨c2,_⟩:=hcells "room" (L+2) (by kernel_rfl)
 obtain⟨c3,_⟩:=hcells "width" (L+3) (by kernel_rfl)
 obtain⟨c4,_⟩:=hcells "whole" (L+4) (by kernel_rfl)
 have C0:LC L s₁.heap none none none none:=⟨c1,c2,c3,c4⟩
 have hscL:lsc≠L:=D.ne0 hsc
 have h1:=@law1 w A s s₁ L lsc _ vsc nsc scr R' D.rebase hm (D.old hsc hsc3 hscL) hsc3 hvs hn C0
 refine @h1 _ ?_
 walk_at " m1 z1 p cs ls lw lwd ys th tsg D1 h9 hp H1 X1 C1 hth"
 obtain⟨P1,P2,P3,P4⟩:=PL p cs
 have h2:=@law2 w A s z1 L ls lw lwd m1 p cs ys th tsg R' D1 H1 X1 C1
 refine @h2 _ ?_
 walk_at " m2 z2 lf n D2 H2 X2 C2 lf3 lf0 hlf"
 have h3:=@law3 w A s z2 L ls lw lwd lf n m2 p cs ys th tsg R' h313 D2 H2 X2 C2 lf3 hlf
 refine @h3 _ ?_
 walk_at " z3 sg hgr D3 X3 C3 hlf3"
 refine letI g:GI:=⟨p,cs,ls,lw,lwd,lf,ys,th,tsg⟩;?_
 have G3:Ei g L none none none z3.heap:=⟨X3,C3,⟨n,hlf3⟩,lf3,hth⟩
 have ew:T ys=Er p cs:=words_eq X3.words X3.eight
 have ef:T g.fal=Hx (Er p cs):=by rw[← ew];exact fall_eq
 have h4:=@law4 w A sg z3 L m2 g none none none R' D3 H2 G3 (λ lt tW k hk=>by show Hr p (W0 p) (B0 p) (T ys) k (Gp _ _ _);rw[ew];exact P1 k hk) (λ lt tW k hk=>by show Hr p (W1 p) (B0 p) (T g.fal) k (Gp (W1 p) (B0 p) (((T g.fal).take (k+1)).map Cn));rw[ef];exact P2 k hk)
 refine @h4 _ ?_
 walk_at " m4 z4 vr4 D4 H4 G4"
 have h5:=@law5 w A sg z4 L m4 g vr4 R' D4 H4 G4
 refine @h5 _ ?_
 walk_at " m5 z5 hb mb tW a b D5 nb hs0 G5 K5 H5 V5"
 rw[← ef] at P3 P4
 have h6:=@law6 w A sg z5 L m5 g vr4 none hb mb tW a b R' D5 nb hs0 G5 K5 H5 V5 P3
 refine @h6 _ ?_
 walk_at " m6 z6 va vb tt D6 K6 H6 V6 ea eb"
 have hpp:g.fal.Perm g.ys:=Hu (C9 (by show 2≤ys.length;rw[X3.eight];decide))
 have h8:(T g.fal).length=8:=by unfold T;rw[List.length_map,hpp.length_eq];exact X3.eight
 have t8:(T g.fal).take 8=T g.fal:=by rw[← h8,List.take_length]
 have oka:Jg (T g.fal) va.st:=by rw[ea,← t8];simpa [t8] using P3.ma 8 (Nat.le_refl _)
 have okb:Jg (T g.fal) vb.st:=by rw[eb,← t8];simpa [t8] using P3.mb 8 (Nat.le_refl _)
 have h7:=@law7 w A sg z6 L m6 g hb a b va vb (g.hd+((T g.fal).map Cn).sum) tt _ (T g.fal) R' D6 hs0 K6 H6 V6 ea oka (Nat.le_trans P4.sum (by decide))
 refine @h7 _ ?_
 walk_at " m7 z7 tp D7 K7 H7 V7"
 have h8':=@law8 w A sg z7 L m7 g hb mb a b _ vb (g.hd+((T g.fal).map Cn).sum) tt tW tp _ _ vr4 R' D7 nb hs0 G5 K7 H7 V7 P4.tot P4.wl
 refine @h8' _ ?_
 walk_at " m8 z8 tw tc D8 G8 H8 V8"
 have h9':=@law9 w A sg z8 L m8 g hb a b _ vb (g.hd+((T g.fal).map Cn).sum) (Fm (g.hd+((T g.fal).map Cn).sum) (W0 g.p)) tt tW tp tw tc _ _ (Cj (T g.fal)) vr4 R' D8 G8 H8 V8 P4.cnt P4.wn
 refine @h9' _ ?_
 walk_at " m9 z9 lc n9 vs9 D9 G9 H9 V9 hlc lc3 lc0 hcut"
 have ecut:cutL (W0 g.p) g.hd (Cj (T g.fal)) (Fm (g.hd+((T g.fal).map Cn).sum) (W0 g.p)).toNat=Bt g.p (T g.fal):=P4.cut
 rw[ecut] at hcut
 have b1:vb.lines=(Bg (W0 g.p) "," 0 (T g.fal)).1:=congrArg (·.1) eb
 have b2:vb.init=(Bg (W0 g.p) "," 0 (T g.fal)).2.1:=congrArg (·.2.1) eb
 have b3:T vb.ps=(Bg (W0 g.p) "," 0 (T g.fal)).2.2:=congrArg (·.2.2) eb
 have hpsb:vb.ps.length≤190:=by
  have:=okb.ps
  unfold VS.st T at this
  rw[List.length_map] at this
  exact Nat.le_trans this (by decide)
 have h10:=@law10 w A sg z9 L m9 g hb a b vb (g.hd+((T g.fal).map Cn).sum) (Fm (g.hd+((T g.fal).map Cn).sum) (W0 g.p)) tt tW tp tw tc _ (Cj (T g.fal)) vr4 lc (Bt g.p (T g.fal)) vs9 n9 R' D9 hs0 G9 H9 V9 hlc lc3 hcut (λ l hl=>Nat.le_trans (P4.len l hl) (by decide)) (Nat.le_trans P4.few (by decide)) (Nat.le_trans P4.sum (by decide))
  ⟨hpsb,Nat.le_trans okb.few (by decide),okb.i0,Int.lt_trans okb.len (by decide),λ l hl=>Nat.le_trans (okb.lls l hl) (by decide)⟩ (by rw[b1,b2,b3];exact P4.usum) (by rw[b1,b2,b3];exact P4.unc)
 refine @h10 _ ?_
 walk_at " z10 vb10 D10 V10 kp10"
 have C10:LC L z10.heap (some (.int g.hd g.th)) vr4 (some (.int (W0 g.p) tW)) (some (.str (Cj (T g.fal)) tw)):=G9.cel.keep λ q o l1 l2 e=>by
  have hcl:∃ v,z9.heap.IsCell q v:=by
   have:q=L+1∨q=L+2∨q=L+3∨q=L+4:=by
    have l1':L<q:=l1
    have l2':q≤L+4:=l2
    lia
   rcases this with rfl|rfl|rfl|rfl
   ·exact⟨_,G9.cel.c1⟩
   ·exact⟨_,G9.cel.c2⟩
   ·exact⟨_,G9.cel.c3⟩
   ·exact⟨_,G9.cel.c4⟩
  obtain⟨v,hv⟩:=hcl
  walk_at "c v"
  exact kp10 q o (Nat.le_trans D9.hL (Nat.le_of_lt l1)) (Nat.ne_of_gt l1) (λ h=>VI.ncell V9.va q h v hv) (λ h=>VI.ncell V9.vb q h v hv) e
 have h11:=@law11 w A sg z10 L m9 g hb a b vb10 (g.hd+((T g.fal).map Cn).sum) (Fm (g.hd+((T g.fal).map Cn).sum) (W0 g.p)) tt tW tp tc _ vr4 _ lc (Bt g.p (T g.fal)) R' D10 hs0 C10 H9 V10 P4.ne P4.len P4.few P4.sum P4.pl P4.asc P4.num P4.idx
 refine @h11 _ ?_
 walk_at " m11 z11 D11"
 obtain⟨g1,⟨pt,g2⟩,g3,g4,g5,g6⟩:=hgr
 walk_at "c pt"
 have st:=D11.st
 refine⟨rfl,λ q o h1 h2 h3 e=>st.keep q o (λ h=>nomatch h) h1 h2 ((g1 q h3).trans e),⟨pt,st.keep 313 _ (λ h=>nomatch h) (by decide) (by decide) g2⟩,st.vol,?_⟩
 have cm:=st.calm
 refine⟨cm.os.trans g5,by rw[← g4];exact cm.size,λ i hi=>by rw[← g4] at hi ⊢;exact cm.gens i hi,λ h=>cm.bare (by rw[g4];exact h),by rw[← g6];exact cm.toks⟩
open PyProof
theorem ins_pw:∀ {R:Int→Int→Prop} (v:Int) {ls:List Int} (h:ls.Pairwise (·≤·)) (hp:ls.Pairwise R) (h1:∀ a∈ls,a<v→R a v) (h2:∀ a∈ls,v≤a→R v a),
  (Hv v ls).Pairwise R:=by
 walk_at " R v ls h hp h1 h2"
 induction ls with
 | nil=>simp[Hv,Hf,Fb]
 | cons x r ih =>
  walk_at "c x r"
  have h':=List.pairwise_cons.mp h
  have hp':=List.pairwise_cons.mp hp
  have ih:=ih h'.2 hp'.2 (λ a ha=>h1 a (.tail _ ha)) (λ a ha=>h2 a (.tail _ ha))
  unfold Hv Hf Fb
  by_cases hx:x<v
  ·rw[if_pos (by simpa using hx)]
   show List.Pairwise R (x::Hv v r)
   refine List.pairwise_cons.mpr ⟨?_,ih⟩
   walk_at " a ha"
   rcases List.mem_cons.mp ((Js v r).mem_iff.mp ha) with rfl|ha
   ·exact h1 x (.head _) hx
   ·exact hp'.1 a ha
  ·rw[if_neg (by simpa using hx)]
   show List.Pairwise R (v::x::r)
   refine List.pairwise_cons.mpr ⟨?_,hp⟩
   walk_at " a ha"
   rcases List.mem_cons.mp ha with rfl|ha
   ·exact h2 a (.head _) (by lia)
   ·exact h2 a (.tail _ ha) (by have:=h'.1 a ha;lia)
theorem Pq:∀ (W t:Int) {ls:List Int} (h:ls.Pairwise (·≤·)),
  ((∀ x∈ls,W-t<x)∧Ey W ls t=Hv t ls)∨∃ A l B,ls=A++l::B∧l≤W-t∧(∀ x∈A,x≤l)∧(∀ x∈B,W-t<x∧l≤x)∧Ey W ls t=Hv (l+t) (A++B):=by
 walk_at " W t ls h"
 have hge:=Li (le_mono (W-t)) ls h
 have hlt:=@Ja (λ x=>decide (x≤W-t)) ls
 have hle:=J9 (λ x=>decide (x≤W-t)) ls
 unfold Ey Ie
 generalize Fb (λ x=>decide (x≤W-t)) ls=p at *
 by_cases hp:p=0
 ·left
  rw[if_pos hp]
  refine⟨?_,rfl⟩
  walk_at " x hx"
  obtain⟨i,e⟩:=List.mem_iff_getElem?.mp hx
  walk_at "c i"
  have:=hge i x (by simp_all) e
  simpa using this
 ·right
  rw[if_neg hp]
  obtain⟨q,rfl⟩:∃ q,p=q+1:=⟨p-1,by lia⟩
  walk_at "c q"
  have hq:q<ls.length:=by assumption
  have e0:ls=ls.take q++ls[q]::ls.drop (q+1):=by
   rw[← List.drop_eq_getElem_cons hq,List.take_append_drop]
  have hs:=h
  rw[e0,List.pairwise_append] at hs
  refine⟨ls.take q,ls[q],ls.drop (q+1),e0,?_,λ x hx=>hs.2.2 x hx _ (.head _),?_,?_⟩
  ·have:=hlt q ls[q] (by lia) (List.getElem?_eq_getElem hq)
   simpa using this
  ·walk_at " x hx"
   refine⟨?_,(List.pairwise_cons.mp hs.2.1).1 x hx⟩
   obtain⟨i,e⟩:=List.mem_iff_getElem?.mp hx
   walk_at "c i"
   rw[List.getElem?_drop] at e
   have:=hge _ x (by lia) e
   simpa using this
  ·rw[Nat.add_sub_cancel,List.getD_eq_getElem?_getD,List.getElem?_eq_getElem hq,List.eraseIdx_eq_take_drop_succ]
   rfl
theorem M3:∀ (W t:Int) {ls:List Int} (h:ls.Pairwise (·≤·)),
  ((∀ x∈ls,W-t<x)∧(Ey W ls t).Perm (t::ls))∨∃ l r,ls.Perm (l::r)∧l+t≤W∧(Ey W ls t).Perm ((l+t)::r):=by
 walk_at " W t ls h"
 rcases Pq W t h with ⟨h1,e⟩|⟨A,l,B,e0,h1,_,_,e⟩
 ·exact .inl ⟨h1,e ▸ Js t ls⟩
 ·walk_at "c A l B"
  exact .inr ⟨l,A++B,e0 ▸ List.perm_middle,by lia,e ▸ Js (l+t) (A++B)⟩
structure Chn (Z:List Int):Prop where
 pos:∀ z∈Z,0<z
 ch:∀ a∈Z,∀ b∈Z,a≤b→a ∣ b
noncomputable def Dv (Z:List Int) (W l1 l2:Int):Prop:=l2<W→∃ s∈Z,W-l2<s∧s ∣ W-l1
theorem dv_step:∀ {Z:List Int} {W t:Int} {ls:List Int} (C:Chn Z) (hW:∀ z∈Z,z ∣ W) (ht:t∈Z) (hs:ls.Pairwise (·≤·)) (hp:ls.Pairwise (Dv Z W)) (hb:∀ x∈ls,x≤W),
  (Ey W ls t).Pairwise (Dv Z W):=by
 walk_at " Z W t ls C hW ht hs hp hb"
 have t0:=C.pos t ht
 rcases Pq W t hs with ⟨h1,e⟩|⟨A,l,B,e0,h1,hA,hB,e⟩
 ·rw[e]
  refine ins_pw t hs hp ?_ (λ a ha hta haW=>⟨t,ht,by have:=h1 a ha;lia,Int.dvd_sub (hW t ht) (Int.dvd_refl t)⟩)
  walk_at " a ha hat hlt"
  have d:t ∣ W-t:=Int.dvd_sub (hW t ht) (Int.dvd_refl t)
  have:=Int.le_of_dvd (by lia) d
  have:=h1 a ha
  lia
 ·walk_at "c A l B"
  rw[e]
  subst e0
  have hs':=List.pairwise_append.mp hs
  have hp':=List.pairwise_append.mp hp
  have hpl:=List.pairwise_cons.mp hp'.2.1
  have sub:List.Sublist (A++B) (A++l::B):=List.Sublist.append (List.Sublist.refl _) (List.sublist_cons_self _ _)
  have key:∀ b∈B,b<W→∃ s∈Z,W-b<s∧s ∣ W-(l+t):=by
   walk_at " b hb hbW"
   obtain⟨s1,m1,g1,g2⟩:=hpl.1 b hb hbW
   walk_at "c s1"
   have e1:W-(l+t)=W-l-t:=by simp +arith
   rw[e1]
   by_cases hst:s1≤t
   ·exact⟨s1,m1,g1,Int.dvd_sub g2 (C.ch s1 m1 t ht hst)⟩
   ·have h4:=(hB b hb).1
    exact⟨t,ht,by lia,Int.dvd_sub (Int.dvd_trans (C.ch t ht s1 m1 (by lia)) g2) (Int.dvd_refl t)⟩
  refine ins_pw (l+t) (hs.sublist sub) (hp.sublist sub) ?_ ?_
  ·walk_at " a ha hat hlt"
   rcases List.mem_append.mp ha with ha|ha
   ·obtain⟨s,m,g1,g2⟩:=hp'.2.2 a ha l (.head _) (by lia)
    walk_at "c s"
    exact⟨s,m,by lia,g2⟩
   ·obtain⟨s,m,g1,g2⟩:=key a ha (by lia)
    walk_at "c s"
    have:=Int.le_of_dvd (by lia) g2
    lia
  ·walk_at " a ha hta haW"
   rcases List.mem_append.mp ha with ha|ha
   ·have:=hA a ha
    lia
   ·exact key a ha haW
theorem room_sum {Z:List Int} {W:Int} (C:Chn Z):∀ (ls:List Int) (s:Int),ls.Pairwise (·≤·)→ls.Pairwise (Dv Z W)→(∀ x∈ls,x≤W)→0<s→(∀ z∈Z,z ∣ s∨s≤z)→(∀ x∈ls,W-x<s)→(ls.map λ x=>W-x).sum<s:=by
 intro ls
 induction ls with
 | nil=>intro s _ _ _ h0 _ _;simpa using h0
 | cons l q ih=>cases q with
 | nil =>
  intro s _ _ _ _ _ h
  have:=h l (.head _)
  simpa using this
 | cons l2 r =>
  intro s hs hp hb h0 hz h
  have hs':=List.pairwise_cons.mp hs
  have hp':=List.pairwise_cons.mp hp
  have hl:=h l (.head _)
  have hbl:=hb l (.head _)
  have hbl2:=hb l2 (.tail _ (.head _))
  have hl2:=hs'.1 l2 (.head _)
  have hall:∀ x∈l2::r,l2≤x:=λ x hx=>by
   rcases List.mem_cons.mp hx with rfl|hx
   ·exact Int.le_refl _
   ·exact (List.pairwise_cons.mp hs'.2).1 x hx
  rw[List.map_cons,List.sum_cons]
  by_cases hw:l2=W
  ·have:((l2::r).map λ x=>W-x).sum=0:=by
    have:∀ q:List Int,(∀ x∈q,x=W)→(q.map λ x=>W-x).sum=0:=by
     intro q
     induction q with
     | nil=>intro _;rfl
     | cons x q ih =>
      intro hq
      rw[List.map_cons,List.sum_cons,ih λ y hy=>hq y (.tail _ hy),hq x (.head _)]
      simp_all
    exact this _ λ x hx=>by have:=hall x hx;have:=hb x (.tail _ hx);grind
   lia
  ·obtain⟨s1,m1,g1,g2⟩:=hp'.1 l2 (.head _) (by lia)
   have h1:=C.pos s1 m1
   have ih:=ih s1 hs'.2 hp'.2 (λ x hx=>hb x (.tail _ hx)) h1 (λ z hz'=>by
    by_cases hzz:z≤s1
    ·exact .inl (C.ch z hz' s1 m1 hzz)
    ·exact .inr (by lia)) (λ x hx=>by have:=hall x hx;lia)
   have h2:=Int.le_of_dvd (by lia) g2
   have h3:s1 ∣ s:=(hz s1 m1).resolve_right (by lia)
   have h4:=Int.le_of_dvd (by lia) (Int.dvd_sub h3 g2)
   lia
theorem sum_room (W:Int) (ls:List Int):(ls.map λ x=>W-x).sum=(ls.length:Int)*W-ls.sum:=by
 induction ls with
 | nil=>simp
 | cons x r ih =>
  rw[List.map_cons,List.sum_cons,ih,List.sum_cons,List.length_cons]
  push_cast
  rw[Int.add_mul]
  simp +arith
theorem Mj {a b:List Int} (h:a.Perm b):a.sum=b.sum:=by
 induction h with
 | nil=>rfl
 | cons x _ ih=>simp[ih]
 | swap x y l=>simp;simp +arith
 | trans _ _ i j=>exact i.trans j
theorem Pr (W t:Int) {ls:List Int} (h:ls.Pairwise (·≤·)):(Ey W ls t).sum=ls.sum+t:=by
 rcases M3 W t h with ⟨_,p⟩|⟨l,r,p1,_,p2⟩
 ·rw[Mj p];simp;simp +arith
 ·rw[Mj p2,Mj p1];simp;simp +arith
theorem Mu {W t:Int} {ls:List Int} {P:Int→Prop} (h:ls.Pairwise (·≤·)) (hp:∀ x∈ls,P x) (ht:P t) (ha:∀ x,P x→x+t≤W→P (x+t)):∀ x∈Ey W ls t,P x:=by
 intro x hx
 rcases M3 W t h with ⟨_,p⟩|⟨l,r,p1,h1,p2⟩
 ·rcases List.mem_cons.mp (p.mem_iff.mp hx) with rfl|hx
  ·exact ht
  ·exact hp x hx
 ·have hl:P l:=hp l (p1.mem_iff.mpr (.head _))
  rcases List.mem_cons.mp (p2.mem_iff.mp hx) with rfl|hx
  ·exact ha l hl h1
  ·exact hp x (p1.mem_iff.mpr (.tail _ hx))
theorem Mv:∀ {W t:Int} {ls:List Int} (h:ls.Pairwise (·≤·)),
  ((∀ x∈ls,W-t<x)∧(Ey W ls t).length=ls.length+1)∨((Ey W ls t).length=ls.length∧0<ls.length):=by
 walk_at " W t ls h"
 rcases M3 W t h with ⟨h1,p⟩|⟨l,r,p1,h1,p2⟩
 ·exact .inl ⟨h1,by simpa using p.length_eq⟩
 ·walk_at "c l r"
  have e1:=p1.length_eq
  have e2:=p2.length_eq
  simp at e1 e2
  exact .inr ⟨by simp_all,by simp_all⟩
noncomputable def Eh (told:List Int) (s:Int):Int:=((told.filter (λ x=>decide (s≤x))).map (λ x=>x.fdiv s)).sum
theorem Kc (a b:List Int) (s:Int):Eh (a++b) s=Eh a s+Eh b s:=by
 unfold Eh
 rw[List.filter_append,List.map_append,List.sum_append]
theorem Hk (x s:Int):Eh [x] s=if s≤x then x.fdiv s else 0:=by
 unfold Eh
 by_cases h:s≤x
 ·rw[if_pos h,List.filter_cons_of_pos (by simpa using h)];simp
 ·rw[if_neg h,List.filter_cons_of_neg (by simpa using h)];simp
theorem Jq {s x:Int} (h:s ∣ x) (h0:0<s):s*x.fdiv s=x:=by
 obtain⟨k,rfl⟩:=h
 rw[Int.fdiv_eq_ediv_of_nonneg _ (Int.le_of_lt h0),Int.mul_ediv_cancel_left _ (by lia)]
theorem tsum_le {s:Int} (h0:0<s) {told:List Int} (h:∀ x∈told,0≤x∧(s≤x→s ∣ x)):s*Eh told s≤told.sum:=by
 induction told with
 | nil=>simp[Eh]
 | cons x r ih =>
  have ih:=ih λ y hy=>h y (.tail _ hy)
  have e:Eh (x::r) s=Eh [x] s+Eh r s:=Kc [x] r s
  rw[e,Int.mul_add,List.sum_cons,Hk]
  have hx:=h x (.head _)
  split
  ·rw[Jq (hx.2 (by assumption)) h0];simp_all
  ·lia
theorem tsum_eq {s:Int} (h0:0<s) {told:List Int} (h:∀ x∈told,s≤x∧s ∣ x):s*Eh told s=told.sum:=by
 induction told with
 | nil=>simp[Eh]
 | cons x r ih =>
  have ih:=ih λ y hy=>h y (.tail _ hy)
  have e:Eh (x::r) s=Eh [x] s+Eh r s:=Kc [x] r s
  have hx:=h x (.head _)
  rw[e,Int.mul_add,List.sum_cons,Hk,if_pos hx.1,Jq hx.2 h0,ih]
theorem J4 {T M n:Int} (h:0<M):-((-T).fdiv M)≤n↔T≤n*M:=by
 rw[Int.fdiv_eq_ediv_of_nonneg _ (Int.le_of_lt h)]
 have:=Int.le_ediv_iff_mul_le (a:=-n) (b:=-T) h
 rw[Int.neg_mul] at this
 constructor
 ·intro q
  have:=this.mp (by lia)
  lia
 ·intro q
  have:=this.mpr (by lia)
  lia
theorem Ny {T M n:Int} (h:0<M) (h1:T≤n*M) (h2:(n-1)*M<T):-((-T).fdiv M)=n:=by
 have a:=(J4 (T:=T) (n:=n) h).mpr h1
 have b:¬ -((-T).fdiv M)≤n-1:=λ q=>by
  have:=(J4 h).mp q
  lia
 lia
theorem Qu {c:Int} {ls:List Int} (h:∀ x∈ls,x≤c):ls.sum≤(ls.length:Int)*c:=by
 induction ls with
 | nil=>simp
 | cons x r ih =>
  have ih:=ih λ y hy=>h y (.tail _ hy)
  have:=h x (.head _)
  rw[List.sum_cons,List.length_cons]
  push_cast
  rw[Int.add_mul]
  omega
theorem sum_dn {c:Int} {ls:List Int} (h:∀ x∈ls,c≤x):(ls.length:Int)*c≤ls.sum:=by
 induction ls with
 | nil=>simp
 | cons x r ih =>
  have ih:=ih λ y hy=>h y (.tail _ hy)
  have:=h x (.head _)
  rw[List.sum_cons,List.length_cons]
  push_cast
  rw[Int.add_mul]
  omega
theorem floor_up {s l W:Int} (h0:0<s) (h:s ∣ l) (hl:l≤W):l≤s*W.fdiv s:=by
 obtain⟨k,rfl⟩:=h
 rw[Int.fdiv_eq_ediv_of_nonneg _ (Int.le_of_lt h0)]
 have:k≤W / s:=(Int.le_ediv_iff_mul_le h0).mpr (by rw[Int.mul_comm];exact hl)
 exact Int.mul_le_mul_of_nonneg_left this (Int.le_of_lt h0)
theorem floor_dn {s l W:Int} (h0:0<s) (h:s ∣ l) (hl:W-s<l):s*W.fdiv s≤l:=by
 have h1:s*W.fdiv s≤W:=by
  rw[Int.fdiv_eq_ediv_of_nonneg _ (Int.le_of_lt h0)]
  exact Int.mul_ediv_self_le (by omega)
 have h2:s ∣ s*W.fdiv s-l:=Int.dvd_sub (Int.dvd_mul_right ..) h
 by_cases hh:s*W.fdiv s≤l
 ·exact hh
 ·have:=Int.le_of_dvd (by omega) h2
  omega
theorem Eo {s W:Int} (h0:0<s) (h:s≤W):0<W.fdiv s:=by
 rw[Int.fdiv_eq_ediv_of_nonneg _ (Int.le_of_lt h0)]
 have:=(Int.le_ediv_iff_mul_le (a:=1) (b:=W) h0).mpr (by omega)
 omega
structure IA (Z:List Int) (W:Int) (told ls:List Int):Prop where
 srt:ls.Pairwise (·≤·)
 le:∀ x∈ls,x≤W
 pos:∀ x∈ls,0<x
 sum:ls.sum=told.sum
 pw:ls.Pairwise (Dv Z W)
 mem:∀ x∈told,x∈Z
theorem IA.step {Z:List Int} {W:Int} {told ls:List Int} {t:Int} (I:IA Z W told ls) (C:Chn Z) (hW:∀ z∈Z,z ∣ W) (hW0:0<W) (ht:t∈Z):IA Z W (told++[t]) (Ey W ls t):=by
 have t0:=C.pos t ht
 have tW:=Int.le_of_dvd hW0 (hW t ht)
 refine⟨Gu W t I.srt,Mu I.srt I.le tW λ x _ h=>h,Mu I.srt I.pos t0 λ x h _=>by omega,?_,dv_step C hW ht I.srt I.pw I.le,?_⟩
 ·rw[Pr W t I.srt,List.sum_append,I.sum];simp
 ·intro x hx
  rcases List.mem_append.mp hx with hx|hx
  ·exact I.mem x hx
  ·rw[List.mem_singleton.mp hx];exact ht
theorem IA.run {Z:List Int} {W:Int} (C:Chn Z) (hW:∀ z∈Z,z ∣ W) (hW0:0<W) {ts told ls:List Int} (I:IA Z W told ls) (h:∀ t∈ts,t∈Z):IA Z W (told++ts) (ts.foldl (Ey W) ls):=by
 induction ts generalizing told ls with
 | nil=>rw[List.append_nil];exact I
 | cons t r ih =>
  have:=ih (I.step C hW hW0 (h t (.head _))) λ x hx=>h x (.tail _ hx)
  rw[List.append_assoc] at this
  exact this
theorem IA.zero {Z:List Int} {W hd:Int} (hW:∀ z∈Z,z ∣ W) (hW0:0<W) (C:Chn Z) (hh:hd=0∨hd∈Z):IA Z W (Ge hd) (Ge hd):=by
 unfold Ge
 by_cases h:hd=0
 ·rw[if_pos h];exact⟨.nil,λ _ h=>(nomatch h),λ _ h=>(nomatch h),rfl,.nil,λ _ h=>(nomatch h)⟩
 ·rw[if_neg h]
  have hm:=hh.resolve_left h
  refine⟨by simp,?_,?_,rfl,by simp,?_⟩
  ·intro x hx;rw[List.mem_singleton.mp hx];exact Int.le_of_dvd hW0 (hW _ hm)
  ·intro x hx;rw[List.mem_singleton.mp hx];exact C.pos _ hm
  ·intro x hx;rw[List.mem_singleton.mp hx];exact hm
theorem IA.due {Z:List Int} {W:Int} {told ls:List Int} (I:IA Z W told ls) (C:Chn Z) (hW:∀ z∈Z,z ∣ W) (hW0:0<W):∀ s∈Z,-((-(Eh told s)).fdiv (W.fdiv s))≤(ls.length:Int):=by
 intro s hs
 have s0:=C.pos s hs
 have hsW:=Int.le_of_dvd hW0 (hW s hs)
 refine (J4 (Eo s0 hsW)).mpr ?_
 have h1:=tsum_le s0 (told:=told) λ x hx=>⟨Int.le_of_lt (C.pos x (I.mem x hx)),λ h=>C.ch s hs x (I.mem x hx) h⟩
 have h2:=Qu I.le
 rw[I.sum] at h2
 have h3:s*((ls.length:Int)*W.fdiv s)=(ls.length:Int)*W:=by
  rw[Int.mul_left_comm,Jq (hW s hs) s0]
 refine Int.le_of_mul_le_mul_left (a:=s) ?_ s0
 rw[h3]
 omega
theorem IA.due_eq {Z:List Int} {W:Int} {told ls:List Int} {z0:Int} (I:IA Z W told ls) (C:Chn Z) (hW:∀ z∈Z,z ∣ W) (hW0:0<W) (hz:z0∈Z) (hm:∀ z∈Z,z0≤z):-((-(Eh told z0)).fdiv (W.fdiv z0))=(ls.length:Int):=by
 have s0:=C.pos z0 hz
 have hsW:=Int.le_of_dvd hW0 (hW z0 hz)
 refine Ny (Eo s0 hsW) ((J4 (Eo s0 hsW)).mp (I.due C hW hW0 z0 hz)) ?_
 have h1:=tsum_eq s0 (told:=told) λ x hx=>⟨hm x (I.mem x hx),C.ch z0 hz x (I.mem x hx) (hm x (I.mem x hx))⟩
 have h2:=room_sum C ls W I.srt I.pw I.le hW0 (λ z hz=>.inl (hW z hz)) λ x hx=>by have:=I.pos x hx;omega
 rw[sum_room,I.sum] at h2
 refine Int.lt_of_mul_lt_mul_left (a:=z0) ?_ (Int.le_of_lt s0)
 rw[Int.mul_left_comm,Jq (hW z0 hz) s0,h1,Int.sub_mul]
 omega
structure IB (Z:List Int) (W:Int) (told ls:List Int):Prop where
 srt:ls.Pairwise (·≤·)
 le:∀ x∈ls,x≤W
 sum:ls.sum=told.sum
 mem:∀ x∈told,x∈Z
 div:∀ z∈Z,(∀ x∈told,z≤x)→∀ l∈ls,z ∣ l
 ge:∀ s∈Z,Eh told s≤(ls.length:Int)*W.fdiv s
 eq:∃ s∈Z,((ls.length:Int)-1)*W.fdiv s<Eh told s
theorem IB.step:∀ {Z:List Int} {W:Int} {told ls:List Int} {t:Int} (I:IB Z W told ls) (C:Chn Z) (hW:∀ z∈Z,z≤W) (ht:t∈Z) (hf:∀ x∈told,t≤x),
  IB Z W (told++[t]) (Ey W ls t):=by
 walk_at " Z W told ls t I C hW ht hf"
 have t0:=C.pos t ht
 have tW:=hW t ht
 have hmem:∀ x∈told++[t],x∈Z:=by
  walk_at " x hx"
  rcases List.mem_append.mp hx with hx|hx
  ·exact I.mem x hx
  ·rw[List.mem_singleton.mp hx];exact ht
 have hdiv:∀ z∈Z,(∀ x∈told++[t],z≤x)→∀ l∈Ey W ls t,z ∣ l:=by
  walk_at " z hz hx"
  have hzt:z ∣ t:=C.ch z hz t ht (hx t (List.mem_append_right _ (.head _)))
  exact Mu I.srt (I.div z hz λ x h=>hx x (List.mem_append_left _ h)) hzt λ x h _=>Int.dvd_add h hzt
 have hle:∀ x∈Ey W ls t,x≤W:=Mu I.srt I.le tW λ x _ h=>h
 have hsum:(Ey W ls t).sum=(told++[t]).sum:=by rw[Pr W t I.srt,List.sum_append,I.sum];simp
 have hts:∀ s∈Z,s≤t→s*Eh (told++[t]) s=(Ey W ls t).sum:=by
  walk_at " s hs hst"
  rw[hsum]
  refine tsum_eq (C.pos s hs) ?_
  walk_at " x hx"
  have hxs:s≤x:=by
   rcases List.mem_append.mp hx with hx|hx
   ·have:=hf x hx;omega
   ·rw[List.mem_singleton.mp hx];exact hst
  exact⟨hxs,C.ch s hs x (hmem x hx) hxs⟩
 refine⟨Gu W t I.srt,hle,hsum,hmem,hdiv,?_,?_⟩
 ·walk_at " s hs"
  have s0:=C.pos s hs
  by_cases hst:s≤t
  ·have h1:=hts s hs hst
   have h2:(Ey W ls t).sum≤((Ey W ls t).length:Int)*(s*W.fdiv s):=Qu λ x hx=>floor_up s0 (hdiv s hs (λ y hy=>by
    rcases List.mem_append.mp hy with hy|hy
    ·have:=hf y hy;omega
    ·rw[List.mem_singleton.mp hy];exact hst) x hx) (hle x hx)
   refine Int.le_of_mul_le_mul_left (a:=s) ?_ s0
   rw[h1,Int.mul_left_comm]
   exact h2
  ·rw[Kc,Hk,if_neg hst,Int.add_zero]
   refine Int.le_trans (I.ge s hs) (Int.mul_le_mul_of_nonneg_right ?_ (Int.le_of_lt (Eo s0 (hW s hs))))
   have:=Mv (W:=W) (t:=t) I.srt
   omega
 ·rcases Mv (W:=W) (t:=t) I.srt with ⟨h1,h2⟩|⟨h2,_⟩
  ·refine⟨t,ht,?_⟩
   rw[h2]
   have h3:=hts t ht (Int.le_refl _)
   rw[Pr W t I.srt] at h3
   have h4:(ls.length:Int)*(t*W.fdiv t)≤ls.sum:=sum_dn λ x hx=>floor_dn t0 (I.div t ht hf x hx) (h1 x hx)
   refine Int.lt_of_mul_lt_mul_left (a:=t) ?_ (Int.le_of_lt t0)
   rw[h3,Int.mul_left_comm]
   push_cast
   rw[Int.add_sub_cancel]
   omega
  ·obtain⟨s,hs,h⟩:=I.eq
   walk_at "c s"
   refine⟨s,hs,?_⟩
   rw[h2,Kc,Hk]
   split
   ·rename_i hst
    have:=Eo (C.pos s hs) hst
    omega
   ·omega
theorem IB.run {Z:List Int} {W:Int} (C:Chn Z) (hW:∀ z∈Z,z≤W) {ts told ls:List Int} (I:IB Z W told ls) (h:∀ t∈ts,t∈Z) (hf:(told++ts).Pairwise (λ a b=>b≤a)):IB Z W (told++ts) (ts.foldl (Ey W) ls):=by
 induction ts generalizing told ls with
 | nil=>rw[List.append_nil];exact I
 | cons t r ih =>
  have hp:=List.pairwise_append.mp hf
  have e:told++t::r=(told++[t])++r:=by rw[List.append_assoc];rfl
  have:=ih (I.step C hW (h t (.head _)) λ x hx=>hp.2.2 x hx t (.head _)) (λ x hx=>h x (.tail _ hx)) (e ▸ hf)
  rw[e]
  exact this
theorem IB.zero {Z:List Int} {W hd:Int} (C:Chn Z) (hW:∀ z∈Z,z≤W) (hh:hd=0∨hd∈Z) (hZ:∃ z,z∈Z):IB Z W (Ge hd) (Ge hd):=by
 unfold Ge
 by_cases h:hd=0
 ·rw[if_pos h]
  refine⟨.nil,λ _ h=>(nomatch h),rfl,λ _ h=>(nomatch h),λ _ _ _ _ h=>(nomatch h),λ s hs=>by simp[Eh],?_⟩
  obtain⟨z,hz⟩:=hZ
  have:=Eo (C.pos z hz) (hW z hz)
  refine⟨z,hz,?_⟩
  have e:Eh [] z=0:=rfl
  rw[e]
  show ((0:Int)-1)*_<0
  omega
 ·rw[if_neg h]
  have hm:=hh.resolve_left h
  have one:∀ {P:Int→Prop},P hd→∀ x∈[hd],P x:=λ h x hx=>by rw[List.mem_singleton.mp hx];exact h
  refine⟨by simp,one (hW _ hm),rfl,one hm,λ z hz hx=>one (C.ch z hz hd hm (hx hd (.head _))),λ s hs=>?_,hd,hm,?_⟩
  ·rw[Hk]
   show _≤(1:Int)*_
   rw[Int.one_mul]
   have s0:=C.pos s hs
   split
   ·rw[Int.fdiv_eq_ediv_of_nonneg _ (Int.le_of_lt s0),Int.fdiv_eq_ediv_of_nonneg _ (Int.le_of_lt s0)]
    exact Int.ediv_le_ediv s0 (hW _ hm)
   ·exact Int.le_of_lt (Eo s0 (hW s hs))
  ·rw[Hk,if_pos (Int.le_refl _)]
   show ((1:Int)-1)*_<_
   have:=Eo (C.pos hd hm) (Int.le_refl _)
   omega
theorem IB.due {Z:List Int} {W:Int} {told ls:List Int} (I:IB Z W told ls) (C:Chn Z) (hW:∀ z∈Z,z≤W):(∀ s∈Z,-((-(Eh told s)).fdiv (W.fdiv s))≤(ls.length:Int))∧∃ s∈Z,-((-(Eh told s)).fdiv (W.fdiv s))=(ls.length:Int):=by
 refine⟨λ s hs=>(J4 (Eo (C.pos s hs) (hW s hs))).mpr (I.ge s hs),?_⟩
 obtain⟨s,hs,h⟩:=I.eq
 exact⟨s,hs,Ny (Eo (C.pos s hs) (hW s hs)) (I.ge s hs) h⟩
theorem fold_ne (W:Int):∀ (ts ls:List Int),ls.Pairwise (·≤·)→ls≠[]∨ts≠[]→ts.foldl (Ey W) ls≠[]
 | [],ls,_,h=>h.resolve_right λ q=>q rfl
 | t::r,ls,hs,_=>by
  refine fold_ne W r _ (Gu W t hs) (.inl λ e=>?_)
  have:=Mv (W:=W) (t:=t) hs
  rw[e] at this
  simp at this
  omega
theorem Q4 (W:Int):∀ (ts ls:List Int),ls.Pairwise (·≤·)→(ts.foldl (Ey W) ls).length≤ls.length+ts.length
 | [],ls,_=>Nat.le_refl _
 | t::r,ls,hs=>by
  have:=Q4 W r _ (Gu W t hs)
  have:=Mv (W:=W) (t:=t) hs
  rw[List.foldl_cons,List.length_cons]
  omega
noncomputable def cl (x:Str):List Nat:=x.cps.toList
theorem Ec (x:Str):(cl x).length=x.length:=by simp[cl,Str.length]
theorem Ig (x y:Str):cl (x++y)=cl x++cl y:=by
 show (x.cps++y.cps).toList=_
 rw[Array.toList_append];rfl
theorem cl_S (l:List Nat):cl (S l)=l:=rfl
theorem Qs {x y:Str} (h:cl x=cl y):x=y:=by
 cases x;cases y
 exact congrArg Str.mk (Array.toList_inj.mp h)
theorem S_cl (x:Str):S (cl x)=x:=Qs rfl
theorem Mo (i:Int) (a b:LS):Cs i (a++b)=Cs i a+Cs 0 b:=by
 unfold Cs
 rw[List.map_append,List.sum_append]
 simp_all +arith
theorem Go (q:Str×Str):Cs 0 [q]=Cn q:=by simp[Cs,Cn]
theorem Iw (i:Int) (l:LS):Cs i l=i+Cs 0 l:=by unfold Cs;simp_all
theorem Mp (i:Int) (l:LS):Cs i l=i+(l.map Cn).sum:=rfl
theorem I4 (a b:LS):B4 (a++b)=B4 a++B4 b:=by
 unfold B4
 rw[List.map_append,List.flatten_append]
theorem Ka (q:Str×Str):B4 [q]=cl q.1++cl q.2:=by simp[B4,cl]
theorem I5 (l:LS):((B4 l).length:Int)=Cs 0 l:=by
 induction l with
 | nil=>simp[B4,Cs]
 | cons q r ih =>
  have e:q::r=[q]++r:=rfl
  rw[e,I4,Mo,Go,Ka,List.length_append,List.length_append,Ec,Ec,← ih]
  unfold Cn
  push_cast
  rfl
theorem Io (l:LS):0≤Cs 0 l:=by rw[← I5];simp
structure NF (W hd:Int) (qs:LS) (st:List Str×Int×List (Str×Str)):Prop where
 ini:st.2.1=if st.1.length=0 then hd else 0
 flat:(st.1.map cl).flatten++B4 st.2.2=B4 qs
 len:∀ j x,st.1[j]?=some x→(x.length:Int)=if j=0 then W-hd else W
 cur:Cs st.2.1 st.2.2=hd+(qs.map Cn).sum-W*(st.1.length:Int)
 le:Cs st.2.1 st.2.2≤W
 ne:qs≠[]→st.2.2≠[]∧0<Cs st.2.1 st.2.2
 mem:∀ q∈st.2.2,q∈qs
 cnt:st.1.length≤qs.length
 ps:st.2.2.length≤qs.length
theorem NF.zero {W hd:Int} (h:hd≤W):NF W hd [] ([],hd,[]) where
 ini:=rfl
 flat:=rfl
 len j x h:=by simp at h
 cur:=by simp[Cs]
 le:=by simpa [Cs] using h
 ne h:=absurd rfl h
 mem q h:=nomatch h
 cnt:=Nat.le_refl _
 ps:=Nat.le_refl _
theorem nl_nil_hd:∀ {lines:List Str} {hd:Int} (h:0<hd),
  Aw lines hd []=lines++[S (B4 [(("" : Str),("" : Str))])]:=by
 walk_at " lines hd h"
 have e:Eg []=[(("" : Str),("" : Str))]:=rfl
 unfold Aw
 rw[e]
 have e2:Cs hd [(("" : Str),("" : Str))]=hd:=by
  rw[Iw,Go]
  have e3:Cn (("" : Str),("" : Str))=0:=rfl
  rw[e3]
  simp_all
 rw[e2,if_pos h,if_neg λ q=>by simp_all]
theorem Re:B4 [(("" : Str),("" : Str))]=[]:=by rw[Ka];rfl
theorem NF.step:∀ {W hd:Int} {sp:Str} {qs:LS} {st:List Str×Int×List (Str×Str)} {q:Str×Str} (N:NF W hd qs st) (hW:0<W) (h0:0≤hd) (hs:0<Cn q) (hsW:Cn q≤W) (hd1:Cn q ∣ W) (hd2:Cn q ∣ hd+(qs.map Cn).sum) (hsp:He sp=true),
  NF W hd (qs++[q]) (Fo W sp st q):=by
 walk_at " W hd sp qs st q N hW h0 hs hsW hd1 hd2 hsp"
 obtain⟨lines,init,l⟩:=st
 walk_at "c lines init l"
 obtain⟨n1,n2,n3,n4,n5,n6,n7,n8,n9⟩:=N
 dsimp only at n1 n2 n3 n4 n5 n6 n7 n8 n9
 have e1:Cs init (l++[q])=Cs init l+Cn q:=by rw[Mo,Go]
 have e2:((qs++[q]).map Cn).sum=(qs.map Cn).sum+Cn q:=by rw[List.map_append,List.sum_append];simp
 have e3:B4 (qs++[q])=B4 qs++B4 [q]:=I4 qs [q]
 have hin:0≤init:=by rw[n1];split<;>omega
 have hnn:0≤Cs init l:=by have:=Io l;rw[Iw];lia
 have hlq:(qs++[q]).length=qs.length+1:=by simp
 show NF W hd (qs++[q]) (Fi W sp lines init l q)
 unfold Fi
 by_cases hc:Cs init (l++[q])≤W
 ·rw[if_pos hc]
  refine⟨n1,?_,n3,?_,hc,?_,?_,?_,?_⟩
  ·dsimp only
   rw[I4,← List.append_assoc,n2,e3]
  ·dsimp only
   rw[e1,e2,n4];lia
  ·walk_at " _"
   refine⟨by simp,?_⟩
   dsimp only
   rw[e1];lia
  ·dsimp only
   walk_at " x hx"
   rcases List.mem_append.mp hx with hx|hx
   ·exact List.mem_append_left _ (n7 x hx)
   ·exact List.mem_append_right _ hx
  ·dsimp only;lia
  ·dsimp only;rw[List.length_append,List.length_singleton];lia
 ·rw[if_neg hc]
  rw[e1] at hc
  have hfull:Cs init l=W:=by
   have hdv:Cn q ∣ W-Cs init l:=by
    rw[n4]
    have h1:Cn q ∣ W*(lines.length:Int):=Int.dvd_mul_of_dvd_left hd1
    exact Int.dvd_sub hd1 (Int.dvd_sub hd2 h1)
   by_cases hz:W-Cs init l=0
   ·lia
   ·have:=Int.le_of_dvd (by lia) hdv
    lia
  have fin:∀ x:Str,cl x=B4 l→(x.length:Int)=(if lines.length=0 then W-hd else W)→NF W hd (qs++[q]) (lines++[x],0,[q]):=by
   walk_at " x hx hxl"
   have hll:((lines++[x]).length:Int)=(lines.length:Int)+1:=by simp
   refine⟨by rw[if_neg (by simp)],?_,?_,?_,?_,?_,?_,?_,?_⟩
   ·dsimp only
    rw[List.map_append,List.flatten_append,e3,← n2]
    simp[hx]
   ·dsimp only
    walk_at " j y hy"
    rw[List.getElem?_append] at hy
    split at hy
    ·exact n3 j y hy
    ·rename_i hj
     have hj':j=lines.length:=by
      have:=(List.getElem?_eq_some_iff.mp hy).1
      simp at this
      lia
     subst hj'
     simp at hy
     subst hy
     exact hxl
   ·dsimp only
    rw[Go,e2,hll,Int.mul_add]
    lia
   ·dsimp only;rw[Go];exact hsW
   ·walk_at " _"
    refine⟨by simp,?_⟩
    dsimp only;rw[Go];exact hs
   ·dsimp only
    walk_at " y hy"
    exact List.mem_append_right _ hy
   ·dsimp only;rw[hlq,List.length_append,List.length_singleton];lia
   ·dsimp only;rw[hlq];simp
  by_cases hl:l=[]
  ·subst hl
   have hq:qs=[]:=by
    by_cases hq:qs=[]
    ·exact hq
    ·exact absurd rfl (n6 hq).1
   have hlines:lines=[]:=by
    rw[hq] at n8
    exact List.eq_nil_of_length_eq_zero (Nat.le_zero.mp n8)
   subst hlines
   have hi:init=hd:=n1
   have hW':hd=W:=by
    have:Cs init []=init:=by simp[Cs]
    lia
   rw[if_neg (λ h=>h.2 rfl),if_pos (by lia),nl_nil_hd (by lia),Re]
   refine fin (S []) rfl ?_
   show ((0:Nat):Int)=_
   rw[if_pos (by rfl)]
   lia
  ·rw[if_pos ⟨hsp,hl⟩]
   refine fin _ (cl_S _) ?_
   have:((S (B4 l)).length:Int)=Cs 0 l:=by rw[← Ec,cl_S,I5]
   rw[this]
   rw[Iw,n1] at hfull
   split<;>rename_i hz
   ·rw[if_pos hz] at hfull;lia
   ·rw[if_neg hz] at hfull;lia
theorem R0 (mx:Int) (sp:Str) (init:Int) (qs:LS) (q:Str×Str):Bg mx sp init (qs++[q])=Fo mx sp (Bg mx sp init qs) q:=by
 unfold Bg
 rw[List.foldl_append];rfl
theorem P5 {α:Type} {l:List α} {i:Nat} {q:α} (h:l[i]?=some q):l.take (i+1)=l.take i++[q]:=by
 rw[List.take_succ,h];rfl
theorem NF.all {W hd:Int} {sp:Str} {qs:LS} (hW:0<W) (h0:0≤hd) (hdW:hd≤W) (hsp:He sp=true) (H:∀ i q,qs[i]?=some q→0<Cn q∧Cn q≤W∧Cn q ∣ W∧Cn q ∣ hd+((qs.take i).map Cn).sum) :
  ∀ i,i≤qs.length→NF W hd (qs.take i) (Bg W sp hd (qs.take i)):=by
 intro i
 induction i with
 | zero=>intro _;rw[List.take_zero];exact NF.zero hdW
 | succ i ih =>
  intro hi
  have ih:=ih (Nat.le_of_lt hi)
  have e:qs[i]?=some qs[i]:=List.getElem?_eq_getElem (by lia)
  obtain⟨a,b,c,d⟩:=H i _ e
  rw[P5 e,R0]
  exact ih.step hW h0 a b c d hsp
theorem noSplit {mx:Int} {sp:Str} (h:He sp=false) (qs l:LS):qs.foldl (Fo mx sp) ([],0,l)=([],0,l++qs):=by
 induction qs generalizing l with
 | nil=>rw[List.append_nil];rfl
 | cons q r ih =>
  have e:Fo mx sp ([],0,l) q=([],0,l++[q]):=by
   show Fi mx sp [] 0 l q=_
   unfold Fi
   split
   ·rfl
   ·rw[if_neg (by rw[h];simp),if_neg (by decide)]
  rw[List.foldl_cons,e,ih,List.append_assoc]
  rfl
theorem Sz:Unicode.isSpace 59=false:=by decide +kernel
theorem good_semi {l:LS} (hne:l≠[]) (good:∀ q∈l,Fv q):59∈B4 l:=by
 obtain⟨q,r,rfl⟩:=List.exists_cons_of_ne_nil hne
 have e:q::r=[q]++r:=rfl
 rw[e,I4,Ka]
 exact List.mem_append_left _ (List.mem_append_right _ (List.mem_of_getLast? (good q (.head _)).2))
theorem Sj {l:LS} (hne:l≠[]) (good:∀ q∈l,Fv q):Txt.isspace (S (B4 l))=false:=by
 have hm:=good_semi hne good
 cases h:Txt.isspace (S (B4 l)) with
 | false=>rfl
 | true =>
  unfold Txt.isspace at h
  rw[Bool.and_eq_true] at h
  have h2:=h.2
  rw[← Array.all_toList] at h2
  have:=List.all_eq_true.mp h2 59 hm
  rw[Sz] at this
  cases this
noncomputable abbrev spQ:Str×Str:=((" " : Str),("" : Str))
theorem nlEnd_sp (l:LS):Eg (l++[spQ])=l:=by
 unfold Eg
 rw[List.getLast?_concat]
 show (if spQ=spQ then (l++[spQ]).dropLast else _)=l
 rw[if_pos rfl,List.dropLast_concat]
theorem Qk {lines:List Str} {init:Int} {l m:LS} (e:Eg m=l) (hne:l≠[]) (good:∀ q∈l,Fv q) (h:0<Cs init l):Aw lines init m=lines++[S (B4 l)]:=by
 unfold Aw
 rw[e,if_pos h,if_neg]
 rw[Sj hne good]
 rintro ⟨_,q,_⟩
 cases q
theorem Si {q:Str×Str} (h:Fv q):q≠spQ:=by
 rintro rfl
 have:=h.2
 have e:(spQ.2).cps.toList.getLast?=none:=rfl
 rw[e] at this
 cases this
theorem Sv {l:LS} (hne:l≠[]) (good:∀ q∈l,Fv q):Eg l=l:=by
 unfold Eg
 rw[List.getLast?_eq_some_getLast hne]
 show (if l.getLast hne=spQ then _ else l)=l
 rw[if_neg (Si (good _ (List.getLast_mem hne)))]
theorem cl_join0 (l:List Str):cl (Str.join "" l)=(l.map cl).flatten:=by
 induction l with
 | nil=>rfl
 | cons x r ih=>cases r with
 | nil=>simp[Str.join]
 | cons y r =>
  show cl (x ++ "" ++ Str.join "" (y::r))=_
  rw[Ig,Ig,ih]
  have:cl ("" : Str)=[]:=rfl
  rw[this]
  simp
theorem Hd (qs:LS):cl (Cj qs)=B4 qs:=by
 unfold Cj Em
 have:Txt.join "" (qs.map λ q=>q.1++q.2)=Str.join "" (qs.map λ q=>q.1++q.2):=StrLaws.glued_eq_join ..
 rw[this,cl_join0,List.map_map]
 unfold B4
 congr 1
 exact List.map_congr_left λ q _=>Ig q.1 q.2
theorem Nl:∀ {x:Str} {i j:Int} (h0:0≤i) (h1:i≤j) (h2:i≤x.length),
  Txt.slice x (some i) (some j)=S (((cl x).drop i.toNat).take (j-i).toNat):=by
 walk_at " x i j h0 h1 h2"
 have hl:(cl x).length=x.length:=Ec x
 by_cases hj:j≤x.length
 ·exact eq_of_beq (slice_closes ⟨h0,h1,by have:x.cps.toList.length=x.length:=hl;assumption⟩)
 ·have e:Txt.slice x (some i) (some j)=Txt.slice x (some i) (some (x.length:Int)):=by
   have e1:Builtin.Str.strSliceIndices (some i) (some j) 1 x.length=Builtin.Str.strSliceIndices (some i) (some (x.length:Int)) 1 x.length:=by
    unfold Builtin.Str.strSliceIndices
    have a:¬ j<0:=by lia
    have b:¬ ((x.length:Int)<0):=by lia
    have c:min j (x.length:Int)=x.length:=by lia
    have d:(1:Int) > 0:=by decide
    simp only[a,b,c,if_false,Int.min_self,if_pos d]
   unfold Txt.slice
   rw[e1]
  rw[e]
  refine (eq_of_beq (slice_closes ⟨h0,h2,by have:x.cps.toList.length=x.length:=hl;lia⟩)).trans ?_
  show S (((cl x).drop i.toNat).take _)=_
  rw[List.take_of_length_le (by rw[List.length_drop];lia),List.take_of_length_le (by rw[List.length_drop];lia)]
theorem lines_len:∀ {W hd:Int} {lines:List Str} (h0:0≤hd) (hdW:hd≤W) (hl:∀ j x,lines[j]?=some x→(x.length:Int)=if j=0 then W-hd else W),
  ∀ j,j≤lines.length→((((lines.take j).map cl).flatten.length:Nat):Int)=max 0 ((j:Int)*W-hd):=by
 walk_at " W hd lines h0 hdW hl"
 walk_at " j"
 induction j with
 | zero=>intro _;simp;lia
 | succ j ih =>
  intro hj
  walk_at "c j"
  have ih:=ih (Nat.le_of_lt hj)
  have e:lines[j]?=some lines[j]:=List.getElem?_eq_getElem (by assumption)
  have hx:=hl j _ e
  rw[P5 e,List.map_append,List.flatten_append,List.length_append,Int.natCast_add,ih]
  have e2:(((([lines[j]].map cl).flatten.length:Nat)):Int)=(lines[j].length:Int):=by simp[Ec]
  rw[e2,hx]
  have e3:((j+1:Nat):Int)*W=(j:Int)*W+W:=by push_cast;rw[Int.add_mul];lia
  rw[e3]
  by_cases h:j=0
  ·subst h;simp;lia
  ·rw[if_neg h]
   have:1*W≤(j:Int)*W:=Int.mul_le_mul_of_nonneg_right (by lia) (by lia)
   lia
theorem cut_page:∀ {W hd:Int} {qs:LS} {st:List Str×Int×List (Str×Str)} (N:NF W hd qs st) (h0:0≤hd) (hdW:hd≤W),
  cutL W hd (Cj qs) (st.1.length+1)=st.1++[S (B4 st.2.2)]:=by
 walk_at " W hd qs st N h0 hdW"
 obtain⟨lines,init,l⟩:=st
 walk_at "c lines init l"
 obtain⟨n1,n2,n3,n4,n5,n6,n7,n8,n9⟩:=N
 dsimp only at n1 n2 n3 n4 n5 n6 n7 n8 n9 ⊢
 have LL:=lines_len h0 hdW n3
 have hwl:(Cj qs).length=(B4 qs).length:=by rw[← Ec,Hd]
 have hin:0≤init:=by rw[n1];split<;>lia
 unfold cutL
 refine List.ext_getElem? ?_
 walk_at " j"
 rw[List.getElem?_map]
 have hstep:(j:Int)*W-hd≤((j:Int)+1)*W-hd:=by rw[Int.add_mul];lia
 have hpos:0≤((j:Int)+1)*W-hd:=by
  have:1*W≤((j:Int)+1)*W:=Int.mul_le_mul_of_nonneg_right (by lia) (by lia)
  lia
 by_cases hj:j<lines.length
 ·have e:lines[j]?=some lines[j]:=List.getElem?_eq_getElem hj
  rw[List.getElem?_range (by lia),List.getElem?_append_left hj,e]
  refine congrArg some ?_
  have hx:=n3 j _ e
  have hL:=LL j (by lia)
  have es:lines=lines.take j++lines[j]::lines.drop (j+1):=by rw[← List.drop_eq_getElem_cons hj,List.take_append_drop]
  have ew:B4 qs=((lines.take j).map cl).flatten++(cl lines[j]++(((lines.drop (j+1)).map cl).flatten++B4 l)):=by
   rw[← n2]
   refine (congrArg (λ z=>(z.map cl).flatten++B4 l) es).trans ?_
   rw[List.map_append,List.flatten_append,List.map_cons,List.flatten_cons,List.append_assoc,List.append_assoc]
  have hlen:max 0 ((j:Int)*W-hd)≤((Cj qs).length:Int):=by
   rw[hwl,ew,List.length_append,← hL];lia
  unfold cutAt
  rw[Nl (by lia) (by lia) hlen,Hd,ew]
  have e1:(max 0 ((j:Int)*W-hd)).toNat=((lines.take j).map cl).flatten.length:=by lia
  have e2:(((j:Int)+1)*W-hd-max 0 ((j:Int)*W-hd)).toNat=(cl lines[j]).length:=by
   rw[Ec]
   have e4:((j:Int)+1)*W=(j:Int)*W+W:=by rw[Int.add_mul];lia
   rw[e4]
   by_cases h:j=0
   ·rw[if_pos h] at hx;subst h;simp;lia
   ·rw[if_neg h] at hx
    have:1*W≤(j:Int)*W:=Int.mul_le_mul_of_nonneg_right (by lia) (by lia)
    lia
  rw[e1,e2,List.drop_left,List.take_left]
  exact S_cl _
 ·by_cases hj2:j=lines.length
  ·subst hj2
   rw[List.getElem?_range (by lia),List.getElem?_append_right (Nat.le_refl _),Nat.sub_self]
   refine congrArg some ?_
   have hL:=LL lines.length (Nat.le_refl _)
   rw[List.take_length] at hL
   have hlen:max 0 ((lines.length:Int)*W-hd)≤((Cj qs).length:Int):=by
    rw[hwl,← n2,List.length_append,← hL];lia
   unfold cutAt
   rw[Nl (by lia) (by lia) hlen,Hd,← n2]
   have e1:(max 0 ((lines.length:Int)*W-hd)).toNat=(lines.map cl).flatten.length:=by lia
   rw[e1,List.drop_left,List.take_of_length_le]
   have hc:=I5 l
   rw[Iw] at n5
   have e4:((lines.length:Int)+1)*W=(lines.length:Int)*W+W:=by rw[Int.add_mul];lia
   rw[e4]
   by_cases h:lines.length=0
   ·rw[if_pos h] at n1;rw[h];simp;lia
   ·rw[if_neg h] at n1
    have:1*W≤(lines.length:Int)*W:=Int.mul_le_mul_of_nonneg_right (by lia) (by lia)
    lia
  ·rw[List.getElem?_eq_none (by simp;lia),List.getElem?_eq_none (by simp;lia)]
   rfl
theorem cl_bar:cl Cy=[124]:=by decide +kernel
theorem Ju (x y:Str) (r:List Str):cl (Str.join Cy (x::y::r))=cl x++124::cl (Str.join Cy (y::r)):=by
 show cl (x++Cy++Str.join Cy (y::r))=_
 rw[Ig,Ig,cl_bar,List.append_assoc];rfl
theorem bar_count (L:List Str) (hne:L≠[]) (h:∀ l∈L,124∉cl l):(cl (Str.join Cy L)).count 124+1=L.length:=by
 induction L with
 | nil=>exact absurd rfl hne
 | cons x r ih=>cases r with
 | nil =>
  show (cl x).count 124+1=1
  rw[List.count_eq_zero_of_not_mem (h x (.head _))]
 | cons y r =>
  have ih:=ih (by simp) λ l hl=>h l (.tail _ hl)
  rw[Ju,List.count_append,List.count_cons_self,List.count_eq_zero_of_not_mem (h x (.head _)),List.length_cons,← ih]
  simp
theorem bar_len (L:List Str):(Str.join Cy L).length≤(L.map (·.length)).sum+L.length:=by
 induction L with
 | nil=>exact Nat.zero_le _
 | cons x r ih=>cases r with
 | nil =>
  show x.length≤_
  simp
 | cons y r =>
  rw[← Ec,Ju,List.length_append,List.length_cons,Ec,Ec,List.map_cons,List.sum_cons,List.length_cons]
  simp_all +arith
theorem bar_mem {c:Nat} (L:List Str) (h:c∈cl (Str.join Cy L)):c=124∨∃ l∈L,c∈cl l:=by
 induction L with
 | nil=>cases h
 | cons x r ih=>cases r with
 | nil=>exact .inr ⟨x,.head _,h⟩
 | cons y r =>
  rw[Ju] at h
  rcases List.mem_append.mp h with h|h
  ·exact .inr ⟨x,.head _,h⟩
  ·rcases List.mem_cons.mp h with h|h
   ·exact .inl h
   ·rcases ih h with h|⟨l,hl,h⟩
    ·exact .inl h
    ·exact .inr ⟨l,.tail _ hl,h⟩
theorem bar_first {x y:Str} {r:List Str} (h:124∉cl x):(Str.join Cy (x::y::r)).cps[x.length]?=some 124∧∀ i<x.length,(Str.join Cy (x::y::r)).cps[i]?≠some 124:=by
 have e:∀ i,(Str.join Cy (x::y::r)).cps[i]?=(cl x++124::cl (Str.join Cy (y::r)))[i]?:=λ i=>by
  rw[← Ju,← Array.getElem?_toList];rfl
 refine⟨?_,λ i hi=>?_⟩
 ·rw[e,← Ec,List.getElem?_append_right (Nat.le_refl _),Nat.sub_self];rfl
 ·rw[e,List.getElem?_append_left (by rw[Ec];exact hi)]
  exact λ q=>h (List.mem_of_getElem? q)
theorem Qb (L:List Str):(L.map (·.length)).sum=((L.map cl).flatten).length:=by
 induction L with
 | nil=>rfl
 | cons x r ih =>
  rw[List.map_cons,List.sum_cons,ih,List.map_cons,List.flatten_cons,List.length_append,Ec]
theorem Sm {L:List Str} {l:Str} (h:l∈L):l.length≤(L.map (·.length)).sum:=by
 induction L with
 | nil=>cases h
 | cons x r ih =>
  rw[List.map_cons,List.sum_cons]
  rcases List.mem_cons.mp h with rfl|h
  ·simp_all +arith
  ·have:=ih h;lia
theorem asc_of {x:Str} (h:∀ c∈cl x,c<128):strIterType x = "str_ascii_iterator" := by
 unfold strIterType
 rw[if_pos]
 rw[← Array.all_toList]
 exact List.all_eq_true.mpr λ c hc=>by simpa using h c hc
theorem dvd_sum {z:Int} {l:List Int} (h:∀ x∈l,z ∣ x):z ∣ l.sum:=by
 induction l with
 | nil=>simp
 | cons x r ih =>
  rw[List.sum_cons]
  exact Int.dvd_add (h x (.head _)) (ih λ y hy=>h y (.tail _ hy))
structure QOk (Z:List Int) (qs:LS):Prop where
 n8:qs.length=8
 good:∀ q∈qs,Fv q
 size:∀ q∈qs,Cn q∈Z
 ch:∀ q∈qs,∀ c∈cl q.1++cl q.2,c<124
 fall:(qs.map Cn).Pairwise λ a b=>b≤a
structure ZOk (Z:List Int) (W hd:Int):Prop where
 ch:Chn Z
 dv:∀ z∈Z,z ∣ W
 W0:0<W
 W1:W<1000
 z48:∀ z∈Z,z≤48
 h0:0≤hd
 hW:hd≤W
 h48:hd≤48
 hdv:∀ z∈Z,z ∣ hd
theorem QOk.H {Z:List Int} {W hd:Int} {qs:LS} (Q:QOk Z qs) (O:ZOk Z W hd):∀ i q,qs[i]?=some q→0<Cn q∧Cn q≤W∧Cn q ∣ W∧Cn q ∣ hd+((qs.take i).map Cn).sum:=by
 intro i q e
 have hm:=List.mem_of_getElem? e
 have hz:=Q.size q hm
 refine⟨O.ch.pos _ hz,Int.le_of_dvd O.W0 (O.dv _ hz),O.dv _ hz,Int.dvd_add (O.hdv _ hz) (dvd_sum λ x hx=>?_)⟩
 obtain⟨a,ha,rfl⟩:=List.mem_map.mp hx
 have hi:i<qs.length:=(List.getElem?_eq_some_iff.mp e).1
 have es:qs=qs.take i++q::qs.drop (i+1):=by
  have e2:qs[i]=q:=(List.getElem?_eq_some_iff.mp e).2
  have e3:=List.drop_eq_getElem_cons hi
  rw[e2] at e3
  rw[← e3,List.take_append_drop]
 have hf:=Q.fall
 rw[es,List.map_append,List.pairwise_append] at hf
 exact O.ch.ch _ hz _ (Q.size a (List.mem_of_mem_take ha)) (hf.2.2 _ hx _ (.head _))
theorem QOk.nf {Z:List Int} {W hd:Int} {qs:LS} {sp:Str} (Q:QOk Z qs) (O:ZOk Z W hd) (hsp:He sp=true):∀ i,i≤qs.length→NF W hd (qs.take i) (Bg W sp hd (qs.take i)):=NF.all O.W0 O.h0 O.hW hsp (Q.H O)
theorem ceil_of {W t:Int} {k:Nat} (hW:0<W) (h:0<t-W*(k:Int)) (h2:t-W*(k:Int)≤W):Fm t W=((k+1:Nat):Int):=by
 unfold Fm
 have e:W*(k:Int)=(k:Int)*W:=Int.mul_comm ..
 refine Ny hW ?_ ?_
 ·push_cast;rw[Int.add_mul];lia
 ·push_cast;rw[Int.add_sub_cancel];lia
theorem fmod_of {W t:Int} {k:Nat} (hW:0<W) (h:0<t-W*(k:Int)) (h2:t-W*(k:Int)≤W):W-(t-W*(k:Int))=(-t).fmod W:=by
 have e:-t=(W-(t-W*(k:Int)))+W*(-(k:Int)-1):=by
  rw[Int.mul_sub,Int.mul_neg];simp +arith
 rw[e,Int.add_mul_fmod_self_left,Int.fmod_eq_of_lt (by simp_all) (by grind)]
theorem sum_bd {Z:List Int} {qs:LS} (hz:∀ q∈qs,Cn q∈Z) (z48:∀ z∈Z,z≤48):(qs.map Cn).sum≤(qs.length:Int)*48:=by
 have:=Qu (ls:=qs.map Cn) (c:=48) λ x hx=>by
  obtain⟨q,hq,rfl⟩:=List.mem_map.mp hx
  exact z48 _ (hz q hq)
 rwa[List.length_map] at this
theorem Sp {c:Nat} {l:LS} (h:c∈B4 l):∃ q∈l,c∈cl q.1++cl q.2:=by
 unfold B4 at h
 obtain⟨m,hm,hc⟩:=List.mem_flatten.mp h
 obtain⟨q,hq,rfl⟩:=List.mem_map.mp hm
 exact⟨q,hq,hc⟩
structure PgCore (W hd:Int) (qs:LS) (st:List Str×Int×List (Str×Str)) (L:List Str):Prop where
 ne:L≠[]
 n9:L.length≤9
 sum:(L.map (·.length)).sum≤384
 ch:∀ l∈L,∀ c∈cl l,c<124
 tot:0≤hd+(qs.map Cn).sum∧hd+(qs.map Cn).sum≤432
 cnt:Fm (hd+(qs.map Cn).sum) W=(L.length:Int)
 cut:cutL W hd (Cj qs) L.length=L
 fst:∀ x y r,L=x::y::r→(x.length:Int)=W-hd
 whole:(Cj qs).length≤384
 pg:Aw st.1 st.2.1 (st.2.2++[spQ])=L
theorem QOk.core:∀ {Z:List Int} {W hd:Int} {qs:LS} {sp:Str} (Q:QOk Z qs) (O:ZOk Z W hd) (hsp:He sp=true),
  ∃ L,PgCore W hd qs (Bg W sp hd qs) L:=by
 walk_at " Z W hd qs sp Q O hsp"
 have N:=Q.nf O hsp 8 (by rw[Q.n8];exact Nat.le_refl _)
 have t8:qs.take 8=qs:=by rw[← Q.n8,List.take_length]
 rw[t8] at N
 have hqne:qs≠[]:=λ e=>by have:=Q.n8;rw[e] at this;cases this
 generalize Bg W sp hd qs=st at *
 obtain⟨hlne,hpos⟩:=N.ne hqne
 have hgl:∀ q∈st.2.2,Fv q:=λ q hq=>Q.good q (N.mem q hq)
 have hnn:0≤(qs.map Cn).sum:=by have:=Io qs;rw[Mp] at this;simp_all
 have hbd:=sum_bd Q.size O.z48
 rw[Q.n8] at hbd
 have hlen:=N.cnt
 rw[Q.n8] at hlen
 have hLL:(st.1++[S (B4 st.2.2)]).length=st.1.length+1:=by simp
 have hfl:((st.1++[S (B4 st.2.2)]).map cl).flatten=B4 qs:=by
  rw[List.map_append,List.flatten_append,← N.flat];simp[cl_S]
 have htl:=I5 qs
 rw[Mp] at htl
 have hcur:=N.cur
 have hle:=N.le
 refine⟨st.1++[S (B4 st.2.2)],by simp,by lia,?_,?_,⟨by have:=O.h0;lia,by have:=O.h48;lia⟩,?_,?_,?_,?_,Qk (nlEnd_sp _) hlne hgl hpos⟩
 ·rw[Qb,hfl];lia
 ·walk_at " l hl c hc"
  have:c∈B4 qs:=by rw[← hfl];exact List.mem_flatten.mpr ⟨cl l,List.mem_map.mpr ⟨l,hl,rfl⟩,hc⟩
  obtain⟨q,hq,hcq⟩:=Sp this
  walk_at "c q"
  exact Q.ch q hq c hcq
 ·rw[hLL]
  exact ceil_of O.W0 (by lia) (by lia)
 ·rw[hLL];exact cut_page N O.h0 O.hW
 ·walk_at " x y r e"
  cases h:st.1 with
  | nil=>rw[h] at e;simp at e
  | cons a b =>
   walk_at "c a b"
   rw[h] at e
   have:a=x:=by simpa using congrArg List.head? e
   subst this
   have:=N.len 0 a (by rw[h];rfl)
   simpa using this
 ·rw[← Ec,Hd];lia
theorem Hj:∀ (p:Int),
  Chn (Cp p):=by
 walk_at " p"
 have hb:=Bo p
 have d01:S0 p ∣ S1 p:=Int.dvd_mul_right ..
 have d12:S1 p ∣ S2 p:=Int.dvd_mul_right ..
 have d23:S2 p ∣ S3 p:=Int.dvd_mul_right ..
 have d02:=Int.dvd_trans d01 d12
 have d13:=Int.dvd_trans d12 d23
 have d03:=Int.dvd_trans d02 d23
 refine⟨?_,?_⟩
 ·walk_at " z hz"
  simp only[Cp,List.mem_cons,List.not_mem_nil,or_false] at hz
  rcases hz with rfl|rfl|rfl|rfl<;>omega
 ·walk_at " a ha b hb' h"
  simp only[Cp,List.mem_cons,List.not_mem_nil,or_false] at ha hb'
  generalize S0 p=s0 at *
  generalize S1 p=s1 at *
  generalize S2 p=s2 at *
  generalize S3 p=s3 at *
  rcases ha with rfl|rfl|rfl|rfl<;>rcases hb' with rfl|rfl|rfl|rfl<;>first
   | exact Int.dvd_refl _
   | assumption
   | (have e:=Int.le_antisymm h (by omega);rw[e];exact Int.dvd_refl _)
theorem L5 (p:Int):S0 p∈Cp p∧S3 p∈Cp p:=⟨.head _,.tail _ (.tail _ (.tail _ (.head _)))⟩
theorem Nn (p:Int):∀ z∈Cp p,S0 p≤z∧z≤S3 p:=by
 have hb:=Bo p
 intro z hz
 simp only[Cp,List.mem_cons,List.not_mem_nil,or_false] at hz
 rcases hz with rfl|rfl|rfl|rfl<;>omega
theorem Qv (p:Int):∀ z∈Cp p,z ∣ S3 p:=λ z hz=>(Hj p).ch z hz _ (L5 p).2 (Nn p z hz).2
theorem Mb (p:Int):B0 p=0∨B0 p=S3 p:=by
 have h:=Bv (p.fdiv 480) (b:=2) (by decide)
 unfold B0
 generalize (p.fdiv 480).fmod 2=a at *
 have:a=0∨a=1:=by lia
 rcases this with rfl|rfl
 ·exact .inl (Int.mul_zero _)
 ·exact .inr (Int.mul_one _)
theorem hd_in (p:Int):B0 p=0∨B0 p∈Cp p:=(Mb p).imp id λ e=>by rw[e];exact (L5 p).2
theorem W0_dv (p:Int):∀ z∈Cp p,z ∣ W0 p:=λ z hz=>Int.dvd_mul_of_dvd_left (Qv p z hz)
theorem zOk (p:Int) {hd:Int} (hh:hd=0∨hd=B0 p):ZOk (Cp p) (W0 p) hd:=by
 have hb:=Bo p
 have hW:=(Fx p).1
 have hh':hd=0∨hd=S3 p:=by
  rcases hh with h|h
  ·exact .inl h
  ·rw[h];exact Mb p
 refine⟨Hj p,W0_dv p,by omega,hW.2,λ z hz=>by have:=(Nn p z hz).2;omega,by omega,by omega,by omega,λ z hz=>?_⟩
 rcases hh' with rfl|rfl
 ·exact Int.dvd_zero z
 ·exact Qv p z hz
theorem ap_of:∀ {p W:Int} {ls:List Int} (h:ls.Pairwise (Dv (Cp p) W)),
  ∀ j a b,(Fs W ls)[j]?=some a→(Fs W ls)[j+1]?=some b→∃ z∈Cp p,b<z∧a.fmod z=0:=by
 walk_at " p W ls h"
 walk_at " j a b ea eb"
 unfold Fs at ea eb
 rw[List.getElem?_map] at ea eb
 have hp:=h.sublist (List.filter_sublist (p:=λ x:Int=>decide (x<W)))
 cases ex:(ls.filter λ x:Int=>decide (x<W))[j]? with
 | none=>rw[ex] at ea;cases ea
 | some x =>
  walk_at "c x"
  cases ey:(ls.filter λ x:Int=>decide (x<W))[j+1]? with
  | none=>rw[ey] at eb;cases eb
  | some y =>
   walk_at "c y"
   rw[ex] at ea
   rw[ey] at eb
   cases ea
   cases eb
   obtain⟨i1,v1⟩:=List.getElem?_eq_some_iff.mp ex
   obtain⟨i2,v2⟩:=List.getElem?_eq_some_iff.mp ey
   have hd:=List.pairwise_iff_getElem.mp hp j (j+1) i1 i2 (Nat.lt_succ_self j)
   rw[v1,v2] at hd
   have hy:y<W:=by
    have:=(List.mem_filter.mp (List.mem_of_getElem? ey)).2
    simpa using this
   obtain⟨s,m,g1,g2⟩:=hd hy
   walk_at "c s"
   exact⟨s,m,g1,Int.fmod_eq_zero_of_dvd g2⟩
theorem lvl_fold (W hd:Int) (ts:List Int):Gp W hd ts=ts.foldl (Ey W) (Ge hd):=rfl
theorem hd0_len (hd:Int):(Ge hd).length≤1∧(Ge hd).Pairwise (·≤·):=by
 unfold Ge
 split<;>simp
theorem Mq {p:Int} {qs:LS} (hq:∀ q∈qs,Cn q∈Cp p) (k:Nat):∀ t∈(qs.take k).map Cn,t∈Cp p:=by
 intro t ht
 obtain⟨q,hm,rfl⟩:=List.mem_map.mp ht
 exact hq q (List.mem_of_mem_take hm)
theorem rowsIA {p W:Int} {qs:LS} (hW:∀ z∈Cp p,z ∣ W) (hW0:0<W) (hq:∀ q∈qs,Cn q∈Cp p) (k:Nat):IA (Cp p) W (Fj (B0 p) qs k) (Gp W (B0 p) ((qs.take k).map Cn)) :=
 (IA.zero hW hW0 (Hj p) (hd_in p)).run (Hj p) hW hW0 (Mq hq k)
theorem Qp {W hd:Int} {qs:LS} {k:Nat} (hk:k<8) (n8:qs.length=8):Gp W hd ((qs.take (k+1)).map Cn)≠[]∧(Gp W hd ((qs.take (k+1)).map Cn)).length≤60:=by
 rw[lvl_fold]
 have h:=hd0_len hd
 have hl:((qs.take (k+1)).map Cn).length=k+1:=by rw[List.length_map,List.length_take];simp_all +arith
 refine⟨fold_ne W _ _ h.2 (.inr λ e=>by rw[e] at hl;cases hl),?_⟩
 have:=Q4 W ((qs.take (k+1)).map Cn) (Ge hd) h.2
 lia
theorem Py (told:List Int) (W s:Int):Le told W s=-((-(Eh told s)).fdiv (W.fdiv s)):=rfl
theorem rowsA:∀ {p W:Int} {qs:LS} (hW:∀ z∈Cp p,z ∣ W) (hW0:0<W) (hq:∀ q∈qs,Cn q∈Cp p) (n8:qs.length=8),
  L9 p W qs:=by
 walk_at " p W qs hW hW0 hq n8"
 walk_at " k hk"
 have I:=rowsIA hW hW0 hq (k+1)
 have C:=Hj p
 obtain⟨f1,f2⟩:=Qp (W:=W) (hd:=B0 p) hk n8
 refine⟨f1,I.srt,I.le,I.sum,?_,?_,λ _=>ap_of I.pw,f2⟩
 ·walk_at " a ha"
  obtain⟨s,hs,rfl⟩:=List.mem_map.mp ha
  walk_at "c s"
  rw[Py]
  exact I.due C hW hW0 s hs
 ·exact List.mem_map.mpr ⟨S0 p,(L5 p).1,I.due_eq C hW hW0 (L5 p).1 λ z hz=>(Nn p z hz).1⟩
theorem rowsB:∀ {p W:Int} {qs:LS} (hW:S3 p≤W) (hq:∀ q∈qs,Cn q∈Cp p) (n8:qs.length=8) (hf:(qs.map Cn).Pairwise λ a b=>b≤a),
  L9 p W qs:=by
 walk_at " p W qs hW hq n8 hf"
 walk_at " k hk"
 have C:=Hj p
 have hb:=Bo p
 have hWz:∀ z∈Cp p,z≤W:=λ z hz=>Int.le_trans (Nn p z hz).2 hW
 have hpw:(Ge (B0 p)++(qs.take (k+1)).map Cn).Pairwise λ a b=>b≤a:=by
  refine List.pairwise_append.mpr ⟨?_,?_,?_⟩
  ·unfold Ge;split<;>simp
  ·rw[List.map_take]
   exact hf.sublist (List.take_sublist ..)
  ·walk_at " a ha b hb'"
   have h1:=(Nn p b (Mq hq (k+1) b hb')).2
   have h2:a=S3 p:=by
    unfold Ge at ha
    split at ha
    ·cases ha
    ·rename_i hne
     rw[List.mem_singleton.mp ha]
     exact (Mb p).resolve_left hne
   omega
 have I:IB (Cp p) W (Fj (B0 p) qs (k+1)) (Gp W (B0 p) ((qs.take (k+1)).map Cn)):=(IB.zero C hWz (hd_in p) ⟨_,(L5 p).1⟩).run C hWz (Mq hq (k+1)) hpw
 obtain⟨f1,f2⟩:=Qp (W:=W) (hd:=B0 p) hk n8
 obtain⟨d1,s,hs,d2⟩:=I.due C hWz
 walk_at "c s"
 refine⟨f1,I.srt,I.le,I.sum,?_,?_,?_,f2⟩
 ·walk_at " a ha"
  obtain⟨s,hs,rfl⟩:=List.mem_map.mp ha
  rw[Py]
  exact d1 s hs
 ·exact List.mem_map.mpr ⟨s,hs,d2⟩
 ·walk_at " hm"
  have h3:S3 p ∣ W:=Int.dvd_of_fmod_eq_zero hm
  exact ap_of (rowsIA (λ z hz=>Int.dvd_trans (Qv p z hz) h3) (by omega) hq (k+1)).pw
theorem rep_cl (c n:Nat):cl (Fc c n)=List.replicate n c:=rfl
theorem word_ok:∀ (p c:Int) {k:Nat} (hk:k<8),
  Fv (Fd p c k)∧Cn (Fd p c k)∈Cp p∧∀ x∈cl (Fd p c k).1++cl (Fd p c k).2,x<124:=by
 walk_at " p c k hk"
 obtain⟨z,_,ez,h3,h48,hm⟩:=Qr p c
 walk_at "c z"
 have hb:=Bv (c.fdiv 4) (b:=I8 p c-2) (by lia)
 have hbl:1≤Et p c∧Et p c≤z-2:=by unfold Et;omega
 have e1:cl (Fd p c k).1=List.replicate (Et p c).toNat 32:=rfl
 have e2:cl (Fd p c k).2=List.replicate (I8 p c-1-Et p c).toNat (97+k)++[59]:=by
  show cl (Fc (97+k) _++(";" : Str))=_
  rw[Ig,rep_cl];rfl
 refine⟨⟨?_,?_⟩,?_,?_⟩
 ·show (cl (Fd p c k).1).head?=_
  rw[e1]
  obtain⟨n,hn⟩:∃ n,(Et p c).toNat=n+1:=⟨(Et p c).toNat-1,by omega⟩
  walk_at "c n"
  rw[hn,List.replicate_succ];rfl
 ·show (cl (Fd p c k).2).getLast?=_
  rw[e2,List.getLast?_concat]
 ·have:Cn (Fd p c k)=z:=by
   unfold Cn
   rw[← Ec,← Ec,e1,e2,List.length_append,List.length_replicate,List.length_replicate,List.length_singleton]
   omega
  rw[this];exact hm
 ·walk_at " x hx"
  rw[e1,e2] at hx
  rcases List.mem_append.mp hx with hx|hx
  ·rw[List.eq_of_mem_replicate hx];omega
  ·rcases List.mem_append.mp hx with hx|hx
   ·rw[List.eq_of_mem_replicate hx];omega
   ·rw[List.mem_singleton.mp hx];omega
theorem Qz (p:Int) (cs:List Int):(Er p cs).length=8∧∀ q∈Er p cs,Fv q∧Cn q∈Cp p∧∀ x∈cl q.1++cl q.2,x<124:=by
 refine⟨by simp[Er],λ q hq=>?_⟩
 obtain⟨k,hk,rfl⟩:=List.mem_map.mp hq
 exact word_ok p _ (List.mem_range.mp hk)
theorem S9 {qs:LS} (h2:2≤qs.length):(Hx qs).Perm qs:=by
 have h:=(Hh (I7 (qs.map λ q=>-Cn q)) h2).1
 have h':=h.filterMap λ i=>qs[i]?
 rw[Q3] at h'
 exact h'
theorem fallQ_ord {qs:LS} (h2:2≤qs.length):((Hx qs).map Cn).Pairwise λ a b=>b≤a:=by
 have h:=(Hh (I7 (qs.map λ q=>-Cn q)) h2).2.1
 rw[List.pairwise_map]
 refine Ko h λ i j a b r ea eb=>?_
 have:=sr_le r
 have ga:(qs.map λ q=>-Cn q).getD i 0=-Cn a:=by rw[List.getD_eq_getElem?_getD,List.getElem?_map,ea];rfl
 have gb:(qs.map λ q=>-Cn q).getD j 0=-Cn b:=by rw[List.getD_eq_getElem?_getD,List.getElem?_map,eb];rfl
 rw[ga,gb] at this
 omega
theorem fall_ok (p:Int) (cs:List Int):QOk (Cp p) (Hx (Er p cs)):=by
 obtain⟨n8,h⟩:=Qz p cs
 have hp:=S9 (qs:=Er p cs) (by simp_all +arith)
 exact⟨hp.length_eq.trans n8,λ q hq=>(h q (hp.mem_iff.mp hq)).1,λ q hq=>(h q (hp.mem_iff.mp hq)).2.1,λ q hq=>(h q (hp.mem_iff.mp hq)).2.2,fallQ_ord (by simp_all +arith)⟩
theorem Ow (p:Int):He (As p)=true:=by
 obtain⟨h0,h4⟩:=Bv (p.fdiv 960) (b:=4) (by decide)
 unfold As
 have:((p.fdiv 960).fmod 4).toNat<4:=by simp_all
 generalize ((p.fdiv 960).fmod 4).toNat=j at *
 match j with
 | 0|1|2|3=>decide +kernel
 | j+4=>omega
theorem Oj:He "," = false:=by decide +kernel
theorem Oz {q:Str×Str} {b:Int} (h:Cn q≤b):(q.1.length:Int)≤b∧(q.2.length:Int)≤b:=by unfold Cn at h;lia
theorem pgLaw (p:Int) {qs:LS} (Q:QOk (Cp p) qs):PgLaw p qs:=by
 have hb:=Bo p
 have hW:=(Fx p).1
 have O:=zOk p (.inr rfl)
 have N:=Q.nf O (Ow p)
 have h48:∀ q∈qs,Cn q≤48:=λ q hq=>O.z48 _ (Q.size q hq)
 have tl:∀ i,(qs.take i).length≤8:=λ i=>by rw[List.length_take,Q.n8];lia
 have fb:∀ i,Bg (W0 p) "," 0 (qs.take i)=([],0,qs.take i):=λ i=>noSplit Oj (qs.take i) []
 refine⟨λ q hq=>⟨Q.good q hq,?_,?_⟩,λ i hi=>?_,λ i hi=>?_,λ i hi=>?_⟩
 ·have:=Oz (h48 q hq);lia
 ·have:=Oz (h48 q hq);lia
 ·have M:=N i (by rw[Q.n8];exact hi)
  have hl:=tl i
  have h0:=O.h0
  refine⟨by rw[M.ini];split<;>lia,Int.lt_of_le_of_lt M.le (by lia),Nat.le_trans M.cnt (by lia),λ l hm=>?_,Nat.le_trans M.ps (by lia),λ q hq=>List.mem_of_mem_take (M.mem q hq)⟩
  obtain⟨j,e⟩:=List.mem_iff_getElem?.mp hm
  have:=M.len j l e
  split at this<;>lia
 ·rw[fb]
  refine⟨Int.le_refl _,?_,Nat.zero_le _,λ l h=>(nomatch h),Nat.le_trans (tl i) (by decide),λ q hq=>List.mem_of_mem_take hq⟩
  rw[Mp]
  have:=sum_bd (qs:=qs.take i) (λ q hq=>Q.size q (List.mem_of_mem_take hq)) O.z48
  have:=tl i
  dsimp only
  lia
 ·have M:=N (i+1) (by rw[Q.n8];exact hi)
  have hne:qs.take (i+1)≠[]:=λ e=>by
   have:(qs.take (i+1)).length=i+1:=by rw[List.length_take,Q.n8];lia
   rw[e] at this;cases this
  have h1:=(M.ne hne).2
  have h2:=M.le
  rw[M.cur] at h1 h2 ⊢
  exact fmod_of O.W0 h1 h2
theorem Rr (qs:LS):((Em qs).map cl).flatten=B4 qs:=by
 unfold Em
 rw[List.map_map]
 unfold B4
 congr 1
 exact List.map_congr_left λ q _=>Ig q.1 q.2
theorem bar_one:Cy.length=1:=by decide +kernel
theorem pgEnd (p:Int) {qs:LS} (Q:QOk (Cp p) qs):PgEnd p qs:=by
 have O:=zOk p (.inr rfl)
 obtain⟨L,C⟩:=Q.core O (Ow p)
 have ep:Bt p qs=L:=C.pg
 have h9:=C.n9
 have hs:=C.sum
 have hj:=bar_len L
 have hn:∀ l∈L,124∉cl l:=λ l hl h=>absurd (C.ch l hl 124 h) (by decide)
 have ec:Fm (Ix p qs) (W0 p)=(L.length:Int):=C.cnt
 have hqne:qs≠[]:=λ e=>by have:=Q.n8;rw[e] at this;cases this
 have fb:Bg (W0 p) "," 0 qs=([],0,qs):=noSplit Oj qs []
 have hpos:0<Cs 0 qs:=by
  obtain⟨q,r,e⟩:=List.exists_cons_of_ne_nil hqne
  have h1:=O.ch.pos _ (Q.size q (e ▸ .head _))
  have h2:=Io r
  have e2:qs=[q]++r:=e
  rw[e2,Mo,Go]
  lia
 have en:Aw [] 0 qs=[S (B4 qs)]:=Qk (Sv hqne Q.good) hqne Q.good hpos
 have hwl:=C.whole
 have htc:(B4 qs).length≤384:=by rw[← Hd,Ec];exact hwl
 constructor
 ·rw[ep];exact C.ne
 ·rw[ep];intro l hl;have:=Sm hl;lia
 ·rw[ep];exact Nat.le_trans (by assumption) (by decide)
 ·rw[ep,bar_one];lia
 ·rw[ep];lia
 ·rw[ep]
  refine asc_of λ c hc=>?_
  rcases bar_mem L hc with rfl|⟨l,hl,h⟩
  ·decide
  ·have:=C.ch l hl c h;exact Nat.le_trans (by assumption) (by decide)
 ·rw[Qb,Rr];exact Nat.le_trans (by assumption) (by decide)
 ·exact Nat.le_trans (by assumption) (by decide)
 ·have:=C.tot
  show 0≤B0 p+(qs.map Cn).sum∧B0 p+(qs.map Cn).sum<100000
  lia
 ·rw[ec];lia
 ·rw[ec,ep];exact C.cut
 ·rw[fb]
  show Str.join Cy (Aw [] 0 qs)=_
  rw[en]
  exact Qs (Hd qs).symm
 ·rw[fb]
  show ((Aw [] 0 qs).map (·.length)).sum+(Aw [] 0 qs).length*Cy.length≤_
  rw[en,bar_one]
  have:((S (B4 qs)).length)=(B4 qs).length:=by rw[← Ec,cl_S]
  show (S (B4 qs)).length+0+1*1≤_
  lia
 ·rw[ec,ep]
  have:=bar_count L C.ne hn
  show (((cl (Str.join Cy L)).count 124:Nat):Int)+1=_
  lia
 ·intro h
  rw[ec] at h
  rw[ep]
  cases L with
  | nil=>exact absurd rfl C.ne
  | cons x r=>cases r with
  | nil=>exact absurd rfl h
  | cons y r =>
   have hb:=bar_first (x:=x) (y:=y) (r:=r) (λ q=>absurd (C.ch x (.head _) 124 q) (by decide))
   exact⟨x.length,hb.1,hb.2,C.fst x y r rfl⟩
theorem pureLaw:Nq:=λ p cs=>by
 obtain⟨n8,h⟩:=Qz p cs
 have Q:=fall_ok p cs
 have hb:=Bo p
 have hW:=Fx p
 exact⟨rowsA (W0_dv p) (by lia) (λ q hq=>(h q hq).2.1) n8,rowsB hW.2.1 Q.size Q.n8 Q.fall,pgLaw p Q,pgEnd p Q⟩
theorem Mx {P:Params} {h:Heap} (X:(K0 P).In h):CodeHd h 180 176 :=
 ⟨⟨.type "code", none,.fields [.str "__len__" 413,.str "_Accumulator.__len__" 414,.str "/claim/cut.py" 415,.int 147 0,.int 1 0,.int 0 0,.int 0 0,.int 3 0,.ref 175,.bool true,.int 181 0,.ref 176,.none,.ref 177,.ref 178,.ref 179,.int 417 0,.int 147 0,.str "/claim/cut.py" 418].toArray,#[]⟩,
  _,_,_,_,_,_,_,_,X 180 _ (by kernel_rfl),rfl,rfl,rfl,rfl,rfl,rfl,rfl,rfl,by decide⟩
theorem My {P:Params} {h:Heap} (X:(K0 P).In h):CodeHd h 187 183 :=
 ⟨⟨.type "code", none,.fields [.str "__str__" 420,.str "_Accumulator.__str__" 421,.str "/claim/cut.py" 422,.int 150 0,.int 1 0,.int 0 0,.int 0 0,.int 3 0,.ref 182,.bool true,.int 181 0,.ref 183,.none,.ref 184,.ref 185,.ref 186,.int 424 0,.int 150 0,.str "/claim/cut.py" 425].toArray,#[]⟩,
  _,_,_,_,_,_,_,_,X 187 _ (by kernel_rfl),rfl,rfl,rfl,rfl,rfl,rfl,rfl,rfl,by decide⟩
theorem R5 {P:Params} {h:Heap} (X:(K0 P).In h):CodeHd h 315 313 :=
 ⟨⟨.type "code", none,.fields [.str "law" 586,.str "law" 587,.str "/claim/cut.py" 588,.int 260 0,.int 1 0,.int 0 0,.int 0 0,.int 3 0,.ref 312,.bool true,.int 181 0,.ref 313,.none,.none,.none,.ref 314,.int 589 0,.int 260 0,.str "/claim/cut.py" 590].toArray,#[]⟩,
  _,_,_,_,_,_,_,_,X 315 _ (by kernel_rfl),rfl,rfl,rfl,rfl,rfl,rfl,rfl,rfl,by decide⟩
theorem tab0 {P:Params} {h:Heap} (X:(K0 P).In h):h.get? 176=some (tabObj #[])∧h.get? 183=some (tabObj #[])∧h.get? 313=some (tabObj #[]) :=
 ⟨X 176 (tabObj #[]) (by kernel_rfl),X 183 (tabObj #[]) (by kernel_rfl),X 313 (tabObj #[]) (by kernel_rfl)⟩
theorem cod_of {h:Heap} {c P:Addr} (C:CodeHd h c P) (e:h.get? P=some (tabObj #[])):I9 h c P #[]:=⟨C.code e trivial,C.tab e⟩
theorem vol0 {P:Params} {h:Heap} (X:(K0 P).In h) (hz:@LE.le Nat _ 317 h.objs.size):Fh h :=
 ⟨⟨_,cod_of (Mx X) (tab0 X).1⟩,⟨_,cod_of (My X) (tab0 X).2.1⟩,hz⟩
theorem grew {s z:Shared} {c b:Addr} {ps:Array Value} (ht:s.heap.TableAt c b #[]) (hz:z.heap.get? b=some (tabObj ps)) (o:Obj) (e:s.heap.get? b=some o):asItWas s.heap z.heap b o:=by
 have:o=tabObj #[]:=Option.some.inj (e.symm.trans ht.2)
 subst this
 exact .inr (.inl ⟨ht.isCodeTable,rfl,#[],ps,rfl,by rw[hz];simp⟩)
theorem oldK_of {P:Params} {s z:Shared} (X:(K0 P).In s.heap) (k:LawKept s z):OldK s.heap z.heap:=by
 obtain⟨k1,⟨ps,k2⟩,V,_⟩:=k
 obtain⟨p1,v1⟩:=V.a
 obtain⟨p2,v2⟩:=V.b
 obtain⟨t1,t2,t3⟩:=tab0 X
 refine⟨λ b o e=>?_,λ b o e=>?_⟩
 ·by_cases h1:b=176
  ·subst h1;exact grew ((Mx X).tab t1) v1.2.2 o e
  ·by_cases h2:b=183
   ·subst h2;exact grew ((My X).tab t2) v2.2.2 o e
   ·by_cases h3:b=313
    ·subst h3;exact grew ((R5 X).tab t3) k2 o e
    ·exact .inl (k1 b o h1 h2 h3 e)
 ·by_cases h1:b=176
  ·subst h1;exact⟨_,v1.2.2⟩
  ·by_cases h2:b=183
   ·subst h2;exact⟨_,v2.2.2⟩
   ·by_cases h3:b=313
    ·subst h3;exact⟨_,k2⟩
    ·exact⟨o,k1 b o h1 h2 h3 e⟩
theorem law_addr:∀ {P:Params} {h:Heap} {mg:SV} (X:(K0 P).In h) (hn:h.Ns mainGlobals mg),
  mg "law" = some (.ref 316):=by
 walk_at " P h mg X hn"
 obtain⟨o,es,ep,e1,e2,_,hx⟩:=hn
 walk_at "c o es ep"
 replace e1:h.get? 3=some o:=e1
 rw[← hx]
 rw[X 3 ⟨.type "dict", none,.dict [kd P "__name__" 165 (.str "law_wv0051_01" 541),kd P "__doc__" 166 (.none),kd P "__package__" 167 (.none),kd P "__loader__" 168 (.builtin "__main__.__loader__#opaque"),kd P "__spec__" 169 (.none),kd P "__annotations__" 170 (.ref 6),kd P "__builtins__" 171 (.ref 4),kd P "__file__" 173 (.str "/claim/cut.py" 172),kd P "__cached__" 174 (.none),kd P "_wall" 193 (.ref 21),kd P "insort_right" 208 (.ref 30),kd P "bisect_right" 222 (.ref 39),kd P "insort_left" 235 (.ref 48),kd P "bisect_left" 249 (.ref 57),kd P "NL" 253 (.str "\n" 252),kd P "EMPTYSTRING" 255 (.str "" 254),kd P "_ValueFormatter" 363 (.ref 130),kd P "_Accumulator" 459 (.ref 214),kd P "is_" 469 (.ref 225),kd P "neg" 476 (.ref 232),kd P "countOf" 486 (.ref 239),kd P "delitem" 494 (.ref 246),kd P "getitem" 502 (.ref 253),kd P "indexOf" 512 (.ref 260),kd P "length_hint" 524 (.ref 268),kd P "iadd" 532 (.ref 275),kd P "isub" 540 (.ref 282),kd P "_law_draw" 560 (.ref 289),kd P "_law_below" 567 (.ref 296),kd P "_law_best" 573 (.ref 301),kd P "_law_due" 579 (.ref 306),kd P "_law_apart" 585 (.ref 311),kd P "law" 591 (.ref 316)].toArray 33,#[]⟩ (by kernel_rfl)] at e1
 cases e1
 cases e2
 kernel_rfl
theorem walkLaw (PL:Nq):Nr:=by
 walk_at " d kwd hd"
 k_fill
 walk_at " w s₀ s₁ mg mb G y fa o pm cd doc dV kV ho hdd hcd hD hmg hg args vals as L hpre hlay hrd hwl hlo"
 obtain⟨ZH,KX,ZN,ZT⟩:=z_facts K0as_eq y
 refine Ground.open G ?_
 walk_at " T B D TE TW"
 have hname:d.name = "law" := defOf_name hd
 clear hcd hdd hD TE TW D B ho G hd
 wrow_args hpre hlay hrd hwl hlo
 obtain⟨hat,hsz⟩:=script_at L
 have htk:=script_toks L ZT
 rw[ZN] at hat hsz
 subst hat
 have X:(K0 w.params).In s₁.heap:=InK.keeps w _ _ KX L.keeps
 rw[hname,law_addr X T.g] at hmg
 cases hmg
 have hz:@LE.le Nat _ 317 s₁.heap.objs.size:=by rw[hsz];exact Nat.le_succ _
 have GG:A5 w s₁:=⟨⟨K_of X,mb,T.b,T.builtins⟩,vol0 X hz,Nat.lt_of_lt_of_le (by decide) htk⟩
 rename_i ns _ _ _ _ _ _ _ vs _ _ hI _ hcond _ hL _ _
 have hlen:=hI.length
 have hw:=law_walk PL w (A:=callerA) (lsc:=317) (vsc:=vs) (nsc:=0) (scr:=ns) GG ⟨rfl,by decide,by decide,[],rfl⟩ (tab0 X).2.2 (script_obj L hL) (Nat.le_refl _) hI (by lia)
 refine wpAny_mono hw ?_ (λ _ _ h=>h.elim)
 walk_at " r z h"
 obtain⟨rfl,k⟩:=h
 refine⟨.inl ⟨_,.bool true,[],rfl,λ _=>rfl,.bool true,(by kernel_rfl),λ _=>⟨.nil,λ _ h=>(nomatch h)⟩⟩,oldK_of X k,k.2.2.2.os,?_⟩
 have:=k.2.2.2.bare
 rw[hg] at this
 exact this λ _ h=>by simp at h
theorem walk:Nr:=walkLaw pureLaw
theorem law_holds:PySem.Challenge.rw_wv0051_01.Holds:=head walk
end Mine
theorem PySem.Challenge.cw_wv0051_01_holds : PySem.Challenge.rw_wv0051_01.Holds :=
 Mine.law_holds
