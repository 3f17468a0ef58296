import PyProof.Rows.All
import Wide.All
import OpenK.AllK
import Wide.FinOn
import PySem.Value
import PyProof.FactsAll.tuple
import PyProof.FactsAll.dict_3
import PyProof.AttrMissHeap
import PyProof.MakeMany
import PyProof.StrWalks
import PyProof.EnumMake
import PyProof.EqAt
import PyProof.EqKinds
import PyProof.NeKinds
import PyProof.FactsAll.set
import PyProof.StrLawsIn
import PyProof.StrLawsJoin
import PyProof.ListNew
import PyProof.Rows.TupSub
import PyProof.Rows.DictMethods
import PyProof.Truth
import PyProof.StrCalls2
import PyProof.StrLawsLines
import PyProof.Rows.StrCompSrc
import PyProof.Rows.EqBoolInt
import PyProof.SetRoads
import PyProof.SetNew
import KE.KDictLaws
import KE.KCat
import KE.KLcTest
import KE.KDictList
import KE.KEqDat
import KE.KLcPair
import KE.KSortAsk
import Lean
import PySem.Challenge.RW_kl0396_01
set_option linter.all false
set_option compiler.extract_closed false
local macro_rules | `(tactic| walk_at "execs cons") => `(tactic| ((with_reducible refine PySem.wpAny_execs_cons ?_); try dsimp only))
local macro_rules | `(tactic| walk_at "execs nil") => `(tactic| (with_reducible refine PySem.wpAny_execs_nil ?_))
section
open PySem PySem.W PyProof.Rows
set_option Elab.async false
set_option maxRecDepth 1000000
set_option maxHeartbeats 8000000
namespace Mine
/-! ## the text's defs, by reference to the row -/
noncomputable def top (i : Nat) : Stmt := (PySem.Challenge.pw_kl0396_01.main.body).getD i (.Pass default)
noncomputable def partsAt : Stmt → List Stmt × Arguments × Scope
  | .FunctionDef _ a b _ _ _ s .. => (b, a, s)
  | .ClassDef _ _ _ b _ _ s .. => (b, default, s)
  | .For _ _ b _ _ => (b, default)
  | .While _ b _ _ => (b, default)
  | .If _ b _ _ => (b, default)
  | _ => default
noncomputable def bodyAt (s : Stmt) : List Stmt := (partsAt s).1
noncomputable def parmsAt (s : Stmt) : Arguments := (partsAt s).2.1
noncomputable def scopeAt (s : Stmt) : Scope := (partsAt s).2.2
noncomputable def sub (s : Stmt) (i : Nat) : Stmt := (bodyAt s).getD i (.Pass default)
noncomputable def docAt (s : Stmt) : Str := (docOf (bodyAt s)).getD Str.empty
noncomputable def docCs : Σ' cs : List Char, docAt (top 5) = Str.ofString (String.ofList cs) := ⟨_, rfl⟩
/-- the class's docstring, sign by sign: the kernel reads a literal's bytes in quadratic time -/
noncomputable def docX : Str := ⟨(docCs.1.map Char.toNat).toArray⟩
theorem docX_eq : docAt (top 5) = docX := docCs.2.trans (PySem.W.Fast.ofString_ofList _)
/-! ## the heap behind the top's run (printed by wip/PrintK.lean) -/
noncomputable def ob2 (P : Params) : Obj := ⟨.none, none, .dict #[] 0, #[]⟩
noncomputable def ob3 (P : Params) : Obj := ⟨(.type "dict"), none, .dict #[⟨PyData.keyHash P "__name__", (.str "__name__" 165), (.str "law_kl0396_01" 607)⟩, ⟨PyData.keyHash P "__doc__", (.str "__doc__" 166), .none⟩, ⟨PyData.keyHash P "__package__", (.str "__package__" 167), .none⟩, ⟨PyData.keyHash P "__loader__", (.str "__loader__" 168), (.builtin "__main__.__loader__#opaque")⟩, ⟨PyData.keyHash P "__spec__", (.str "__spec__" 169), .none⟩, ⟨PyData.keyHash P "__annotations__", (.str "__annotations__" 170), (.ref 6)⟩, ⟨PyData.keyHash P "__builtins__", (.str "__builtins__" 171), (.ref 4)⟩, ⟨PyData.keyHash P "__file__", (.str "__file__" 173), (.str "/claim/cut.py" 172)⟩, ⟨PyData.keyHash P "__cached__", (.str "__cached__" 174), .none⟩, ⟨PyData.keyHash P "_wall", (.str "_wall" 193), (.ref 21)⟩, ⟨PyData.keyHash P "_tuplegetter", (.str "_tuplegetter" 252), (.ref 60)⟩, ⟨PyData.keyHash P "Match", (.str "Match" 380), (.ref 135)⟩, ⟨PyData.keyHash P "_calculate_ratio", (.str "_calculate_ratio" 388), (.ref 145)⟩, ⟨PyData.keyHash P "SequenceMatcher", (.str "SequenceMatcher" 582), (.ref 242)⟩, ⟨PyData.keyHash P "IS_CHARACTER_JUNK", (.str "IS_CHARACTER_JUNK" 592), (.ref 254)⟩, ⟨PyData.keyHash P "indent", (.str "indent" 606), (.ref 262)⟩, ⟨PyData.keyHash P "_law_rows", (.str "_law_rows" 614), (.ref 267)⟩, ⟨PyData.keyHash P "_law_run", (.str "_law_run" 623), (.ref 274)⟩, ⟨PyData.keyHash P "_law_spots", (.str "_law_spots" 640), (.ref 281)⟩, ⟨PyData.keyHash P "_law_codes", (.str "_law_codes" 653), (.ref 288)⟩, ⟨PyData.keyHash P "law", (.str "law" 659), (.ref 293)⟩] 21, #[]⟩
noncomputable def ob65 (P : Params) : Obj := ⟨(.type "tuple"), none, .seq #[(.type "tuple")] 0, #[]⟩
noncomputable def ob81 (P : Params) : Obj := ⟨(.type "code"), none, .fields #[(.str "__new__" 274), (.str "Match.__new__" 275), (.str "/claim/cut.py" 276), (.int (29) 0), (.int (4) 0), (.int (0) 0), (.int (0) 0), (.int (3) 0), (.ref 76), (.bool true), (.int (181) 0), (.ref 77), .none, (.ref 78), (.ref 79), (.ref 80), (.int (281) 0), (.int (29) 0), (.str "/claim/cut.py" 282)], #[]⟩
noncomputable def ob82 (P : Params) : Obj := ⟨(.type "function"), none, .func { name := "__new__", qualname := "Match.__new__", params := parmsAt (sub (top 3) 4), body := .stmts (bodyAt (sub (top 3) 4)), scope := scopeAt (sub (top 3) 4), globals := 3, closure := [], defaults := .none, kwdefaults := .none, doc := (.str (docAt (sub (top 3) 4)) 283), pyModule := (.str "cpy313.difflib" 194), annotations := none, code := (.ref 81), closureTuple := .none, builtins := 0 }, #[]⟩
noncomputable def ob88 (P : Params) : Obj := ⟨(.type "code"), none, .fields #[(.str "_make" 285), (.str "Match._make" 286), (.str "/claim/cut.py" 287), (.int (33) 0), (.int (2) 0), (.int (0) 0), (.int (0) 0), (.int (3) 0), (.ref 83), (.bool true), (.int (181) 0), (.ref 84), .none, (.ref 85), (.ref 86), (.ref 87), (.int (291) 0), (.int (33) 0), (.str "/claim/cut.py" 292)], #[]⟩
noncomputable def ob89 (P : Params) : Obj := ⟨(.type "function"), none, .func { name := "_make", qualname := "Match._make", params := parmsAt (sub (top 3) 5), body := .stmts (bodyAt (sub (top 3) 5)), scope := scopeAt (sub (top 3) 5), globals := 3, closure := [], defaults := .none, kwdefaults := .none, doc := (.str (docAt (sub (top 3) 5)) 293), pyModule := (.str "cpy313.difflib" 194), annotations := (some 92), code := (.ref 88), closureTuple := .none, builtins := 0 }, #[]⟩
noncomputable def ob90 (P : Params) : Obj := ⟨(.type "dict"), none, .dict #[⟨PyData.keyHash P "__module__", (.str "__module__" 295), (.str "cpy313.difflib" 194)⟩, ⟨PyData.keyHash P "__name__", (.str "__name__" 298), (.str "_make" 297)⟩, ⟨PyData.keyHash P "__qualname__", (.str "__qualname__" 301), (.str "Match._make" 300)⟩, ⟨PyData.keyHash P "__doc__", (.str "__doc__" 303), (.str (docAt (sub (top 3) 5)) 293)⟩, ⟨PyData.keyHash P "__annotations__", (.str "__annotations__" 305), (.ref 92)⟩] 5, #[]⟩
noncomputable def ob91 (P : Params) : Obj := ⟨(.type "classmethod"), (some 90), .fields #[(.ref 89), (.bool false)], #[]⟩
noncomputable def ob134 (P : Params) : Obj := ⟨(.type "dict"), none, .dict #[⟨PyData.keyHash P "__module__", (.str "__module__" 260), (.str "cpy313.difflib" 194)⟩, ⟨PyData.keyHash P "__firstlineno__", (.str "__firstlineno__" 264), (.int (23) 263)⟩, ⟨PyData.keyHash P "__doc__", (.str "__doc__" 266), (.str (docAt (top 3)) 265)⟩, ⟨PyData.keyHash P "__slots__", (.str "__slots__" 268), (.ref 73)⟩, ⟨PyData.keyHash P "_fields", (.str "_fields" 272), (.ref 74)⟩, ⟨PyData.keyHash P "_field_defaults", (.str "_field_defaults" 273), (.ref 75)⟩, ⟨PyData.keyHash P "__new__", (.str "__new__" 284), (.ref 136)⟩, ⟨PyData.keyHash P "_make", (.str "_make" 306), (.ref 91)⟩, ⟨PyData.keyHash P "_replace", (.str "_replace" 317), (.ref 100)⟩, ⟨PyData.keyHash P "__replace__", (.str "__replace__" 318), (.ref 100)⟩, ⟨PyData.keyHash P "__repr__", (.str "__repr__" 326), (.ref 107)⟩, ⟨PyData.keyHash P "_asdict", (.str "_asdict" 333), (.ref 114)⟩, ⟨PyData.keyHash P "__getnewargs__", (.str "__getnewargs__" 341), (.ref 121)⟩, ⟨PyData.keyHash P "__match_args__", (.str "__match_args__" 345), (.ref 122)⟩, ⟨PyData.keyHash P "a", (.str "a" 355), (.ref 124)⟩, ⟨PyData.keyHash P "b", (.str "b" 365), (.ref 127)⟩, ⟨PyData.keyHash P "size", (.str "size" 375), (.ref 130)⟩, ⟨PyData.keyHash P "__static_attributes__", (.str "__static_attributes__" 376), (.ref 132)⟩] 2, #[]⟩
noncomputable def ob135 (P : Params) : Obj := ⟨(.type "type"), none, .cls { name := "Match", bases := [(.type "tuple")], mro := [(.ref 135), (.type "tuple"), (.type "object")], ns := 134, qualname := "Match", hasDict := false, slotNames := [], subclasses := [], abstract := false, collection := none, hasDel := false }, #[(some (.ref 65)), none, (some (.str "Match" 253)), (some (.str "Match" 261)), (some .none), (some (.bool false))]⟩
noncomputable def ob136 (P : Params) : Obj := ⟨(.type "staticmethod"), none, .fields #[(.ref 82)], #[]⟩
noncomputable def ob153 (P : Params) : Obj := ⟨(.type "tuple"), none, .seq #[.none, (.str "" 404), (.str "" 405), (.bool true)] 0, #[]⟩
noncomputable def ob159 (P : Params) : Obj := ⟨(.type "code"), none, .fields #[(.str "__init__" 406), (.str "SequenceMatcher.__init__" 407), (.str "/claim/cut.py" 408), (.int (145) 0), (.int (5) 0), (.int (0) 0), (.int (0) 0), (.int (3) 0), (.ref 154), (.bool true), (.int (181) 0), (.ref 155), .none, (.ref 156), (.ref 157), (.ref 158), (.int (414) 0), (.int (145) 0), (.str "/claim/cut.py" 415)], #[]⟩
noncomputable def ob160 (P : Params) : Obj := ⟨(.type "function"), none, .func { name := "__init__", qualname := "SequenceMatcher.__init__", params := parmsAt (sub (top 5) 1), body := .stmts (bodyAt (sub (top 5) 1)), scope := scopeAt (sub (top 5) 1), globals := 3, closure := [], defaults := (.ref 153), kwdefaults := .none, doc := (.str (docAt (sub (top 5) 1)) 416), pyModule := (.str "cpy313.difflib" 194), annotations := none, code := (.ref 159), closureTuple := .none, builtins := 0 }, #[]⟩
noncomputable def ob166 (P : Params) : Obj := ⟨(.type "code"), none, .fields #[(.str "set_seqs" 418), (.str "SequenceMatcher.set_seqs" 419), (.str "/claim/cut.py" 420), (.int (173) 0), (.int (3) 0), (.int (0) 0), (.int (0) 0), (.int (3) 0), (.ref 161), (.bool true), (.int (181) 0), (.ref 162), .none, (.ref 163), (.ref 164), (.ref 165), (.int (424) 0), (.int (173) 0), (.str "/claim/cut.py" 425)], #[]⟩
noncomputable def ob167 (P : Params) : Obj := ⟨(.type "function"), none, .func { name := "set_seqs", qualname := "SequenceMatcher.set_seqs", params := parmsAt (sub (top 5) 2), body := .stmts (bodyAt (sub (top 5) 2)), scope := scopeAt (sub (top 5) 2), globals := 3, closure := [], defaults := .none, kwdefaults := .none, doc := (.str (docAt (sub (top 5) 2)) 426), pyModule := (.str "cpy313.difflib" 194), annotations := none, code := (.ref 166), closureTuple := .none, builtins := 0 }, #[]⟩
noncomputable def ob173 (P : Params) : Obj := ⟨(.type "code"), none, .fields #[(.str "set_seq1" 428), (.str "SequenceMatcher.set_seq1" 429), (.str "/claim/cut.py" 430), (.int (184) 0), (.int (2) 0), (.int (0) 0), (.int (0) 0), (.int (3) 0), (.ref 168), (.bool true), (.int (181) 0), (.ref 169), .none, (.ref 170), (.ref 171), (.ref 172), (.int (433) 0), (.int (184) 0), (.str "/claim/cut.py" 434)], #[]⟩
noncomputable def ob174 (P : Params) : Obj := ⟨(.type "function"), none, .func { name := "set_seq1", qualname := "SequenceMatcher.set_seq1", params := parmsAt (sub (top 5) 3), body := .stmts (bodyAt (sub (top 5) 3)), scope := scopeAt (sub (top 5) 3), globals := 3, closure := [], defaults := .none, kwdefaults := .none, doc := (.str (docAt (sub (top 5) 3)) 435), pyModule := (.str "cpy313.difflib" 194), annotations := none, code := (.ref 173), closureTuple := .none, builtins := 0 }, #[]⟩
noncomputable def ob180 (P : Params) : Obj := ⟨(.type "code"), none, .fields #[(.str "set_seq2" 437), (.str "SequenceMatcher.set_seq2" 438), (.str "/claim/cut.py" 439), (.int (209) 0), (.int (2) 0), (.int (0) 0), (.int (0) 0), (.int (3) 0), (.ref 175), (.bool true), (.int (181) 0), (.ref 176), .none, (.ref 177), (.ref 178), (.ref 179), (.int (442) 0), (.int (209) 0), (.str "/claim/cut.py" 443)], #[]⟩
noncomputable def ob181 (P : Params) : Obj := ⟨(.type "function"), none, .func { name := "set_seq2", qualname := "SequenceMatcher.set_seq2", params := parmsAt (sub (top 5) 4), body := .stmts (bodyAt (sub (top 5) 4)), scope := scopeAt (sub (top 5) 4), globals := 3, closure := [], defaults := .none, kwdefaults := .none, doc := (.str (docAt (sub (top 5) 4)) 444), pyModule := (.str "cpy313.difflib" 194), annotations := none, code := (.ref 180), closureTuple := .none, builtins := 0 }, #[]⟩
noncomputable def ob187 (P : Params) : Obj := ⟨(.type "code"), none, .fields #[(.str "__chain_b" 446), (.str "SequenceMatcher.__chain_b" 447), (.str "/claim/cut.py" 448), (.int (236) 0), (.int (1) 0), (.int (0) 0), (.int (0) 0), (.int (3) 0), (.ref 182), (.bool true), (.int (181) 0), (.ref 183), .none, (.ref 184), (.ref 185), (.ref 186), (.int (461) 0), (.int (236) 0), (.str "/claim/cut.py" 462)], #[]⟩
noncomputable def ob188 (P : Params) : Obj := ⟨(.type "function"), none, .func { name := "__chain_b", qualname := "SequenceMatcher.__chain_b", params := parmsAt (sub (top 5) 5), body := .stmts (bodyAt (sub (top 5) 5)), scope := scopeAt (sub (top 5) 5), globals := 3, closure := [], defaults := .none, kwdefaults := .none, doc := .none, pyModule := (.str "cpy313.difflib" 194), annotations := none, code := (.ref 187), closureTuple := .none, builtins := 0 }, #[]⟩
noncomputable def ob189 (P : Params) : Obj := ⟨(.type "tuple"), none, .seq #[(.int (0) 464), .none, (.int (0) 465), .none] 0, #[]⟩
noncomputable def ob195 (P : Params) : Obj := ⟨(.type "code"), none, .fields #[(.str "find_longest_match" 466), (.str "SequenceMatcher.find_longest_match" 467), (.str "/claim/cut.py" 468), (.int (260) 0), (.int (5) 0), (.int (0) 0), (.int (0) 0), (.int (3) 0), (.ref 190), (.bool true), (.int (181) 0), (.ref 191), .none, (.ref 192), (.ref 193), (.ref 194), (.int (488) 0), (.int (260) 0), (.str "/claim/cut.py" 489)], #[]⟩
noncomputable def ob196 (P : Params) : Obj := ⟨(.type "function"), none, .func { name := "find_longest_match", qualname := "SequenceMatcher.find_longest_match", params := parmsAt (sub (top 5) 6), body := .stmts (bodyAt (sub (top 5) 6)), scope := scopeAt (sub (top 5) 6), globals := 3, closure := [], defaults := (.ref 189), kwdefaults := .none, doc := (.str (docAt (sub (top 5) 6)) 490), pyModule := (.str "cpy313.difflib" 194), annotations := none, code := (.ref 195), closureTuple := .none, builtins := 0 }, #[]⟩
noncomputable def ob202 (P : Params) : Obj := ⟨(.type "code"), none, .fields #[(.str "get_matching_blocks" 492), (.str "SequenceMatcher.get_matching_blocks" 493), (.str "/claim/cut.py" 494), (.int (335) 0), (.int (1) 0), (.int (0) 0), (.int (0) 0), (.int (3) 0), (.ref 197), (.bool true), (.int (181) 0), (.ref 198), .none, (.ref 199), (.ref 200), (.ref 201), (.int (515) 0), (.int (335) 0), (.str "/claim/cut.py" 516)], #[]⟩
noncomputable def ob203 (P : Params) : Obj := ⟨(.type "function"), none, .func { name := "get_matching_blocks", qualname := "SequenceMatcher.get_matching_blocks", params := parmsAt (sub (top 5) 7), body := .stmts (bodyAt (sub (top 5) 7)), scope := scopeAt (sub (top 5) 7), globals := 3, closure := [], defaults := .none, kwdefaults := .none, doc := (.str (docAt (sub (top 5) 7)) 517), pyModule := (.str "cpy313.difflib" 194), annotations := none, code := (.ref 202), closureTuple := .none, builtins := 0 }, #[]⟩
noncomputable def ob209 (P : Params) : Obj := ⟨(.type "code"), none, .fields #[(.str "get_opcodes" 519), (.str "SequenceMatcher.get_opcodes" 520), (.str "/claim/cut.py" 521), (.int (383) 0), (.int (1) 0), (.int (0) 0), (.int (0) 0), (.int (3) 0), (.ref 204), (.bool true), (.int (181) 0), (.ref 205), .none, (.ref 206), (.ref 207), (.ref 208), (.int (530) 0), (.int (383) 0), (.str "/claim/cut.py" 531)], #[]⟩
noncomputable def ob210 (P : Params) : Obj := ⟨(.type "function"), none, .func { name := "get_opcodes", qualname := "SequenceMatcher.get_opcodes", params := parmsAt (sub (top 5) 8), body := .stmts (bodyAt (sub (top 5) 8)), scope := scopeAt (sub (top 5) 8), globals := 3, closure := [], defaults := .none, kwdefaults := .none, doc := (.str (docAt (sub (top 5) 8)) 532), pyModule := (.str "cpy313.difflib" 194), annotations := none, code := (.ref 209), closureTuple := .none, builtins := 0 }, #[]⟩
noncomputable def ob241 (P : Params) : Obj := ⟨(.type "dict"), none, .dict #[⟨PyData.keyHash P "__module__", (.str "__module__" 396), (.str "cpy313.difflib" 194)⟩, ⟨PyData.keyHash P "__firstlineno__", (.str "__firstlineno__" 400), (.int (70) 399)⟩, ⟨PyData.keyHash P "__doc__", (.str "__doc__" 402), (.str (docX) 401)⟩, ⟨PyData.keyHash P "__init__", (.str "__init__" 417), (.ref 160)⟩, ⟨PyData.keyHash P "set_seqs", (.str "set_seqs" 427), (.ref 167)⟩, ⟨PyData.keyHash P "set_seq1", (.str "set_seq1" 436), (.ref 174)⟩, ⟨PyData.keyHash P "set_seq2", (.str "set_seq2" 445), (.ref 181)⟩, ⟨PyData.keyHash P "_SequenceMatcher__chain_b", (.str "_SequenceMatcher__chain_b" 463), (.ref 188)⟩, ⟨PyData.keyHash P "find_longest_match", (.str "find_longest_match" 491), (.ref 196)⟩, ⟨PyData.keyHash P "get_matching_blocks", (.str "get_matching_blocks" 518), (.ref 203)⟩, ⟨PyData.keyHash P "get_opcodes", (.str "get_opcodes" 533), (.ref 210)⟩, ⟨PyData.keyHash P "get_grouped_opcodes", (.str "get_grouped_opcodes" 542), (.ref 218)⟩, ⟨PyData.keyHash P "ratio", (.str "ratio" 551), (.ref 225)⟩, ⟨PyData.keyHash P "quick_ratio", (.str "quick_ratio" 558), (.ref 232)⟩, ⟨PyData.keyHash P "real_quick_ratio", (.str "real_quick_ratio" 565), (.ref 239)⟩, ⟨PyData.keyHash P "__static_attributes__", (.str "__static_attributes__" 576), (.ref 240)⟩, ⟨PyData.keyHash P "__dict__", (.str "__dict__" 578), (.ref 243)⟩, ⟨PyData.keyHash P "__weakref__", (.str "__weakref__" 580), (.ref 244)⟩] 3, #[]⟩
noncomputable def ob242 (P : Params) : Obj := ⟨(.type "type"), none, .cls { name := "SequenceMatcher", bases := [(.type "object")], mro := [(.ref 242), (.type "object")], ns := 241, qualname := "SequenceMatcher", hasDict := true, slotNames := [], subclasses := [], abstract := false, collection := none, hasDel := false }, #[none, none, (some (.str "SequenceMatcher" 389)), (some (.str "SequenceMatcher" 397)), (some (.builtin "object.__new__")), (some (.bool true))]⟩
noncomputable def ob247 (P : Params) : Obj := ⟨(.type "tuple"), none, .seq #[(.str " \t" 583)] 0, #[]⟩
noncomputable def ob253 (P : Params) : Obj := ⟨(.type "code"), none, .fields #[(.str "IS_CHARACTER_JUNK" 584), (.str "IS_CHARACTER_JUNK" 585), (.str "/claim/cut.py" 586), (.int (462) 0), (.int (2) 0), (.int (0) 0), (.int (0) 0), (.int (3) 0), (.ref 248), (.bool true), (.int (181) 0), (.ref 249), .none, (.ref 250), (.ref 251), (.ref 252), (.int (589) 0), (.int (462) 0), (.str "/claim/cut.py" 590)], #[]⟩
noncomputable def ob254 (P : Params) : Obj := ⟨(.type "function"), none, .func { name := "IS_CHARACTER_JUNK", qualname := "IS_CHARACTER_JUNK", params := parmsAt (top 6), body := .stmts (bodyAt (top 6)), scope := scopeAt (top 6), globals := 3, closure := [], defaults := (.ref 247), kwdefaults := .none, doc := (.str (docAt (top 6)) 591), pyModule := (.str "cpy313.difflib" 194), annotations := none, code := (.ref 253), closureTuple := .none, builtins := 0 }, #[]⟩
noncomputable def ob255 (P : Params) : Obj := ⟨(.type "tuple"), none, .seq #[.none] 0, #[]⟩
noncomputable def ob261 (P : Params) : Obj := ⟨(.type "code"), none, .fields #[(.str "indent" 595), (.str "indent" 596), (.str "/claim/cut.py" 597), (.int (479) 0), (.int (3) 0), (.int (0) 0), (.int (0) 0), (.int (3) 0), (.ref 256), (.bool true), (.int (181) 0), (.ref 257), .none, (.ref 258), (.ref 259), (.ref 260), (.int (603) 0), (.int (479) 0), (.str "/claim/cut.py" 604)], #[]⟩
noncomputable def ob262 (P : Params) : Obj := ⟨(.type "function"), none, .func { name := "indent", qualname := "indent", params := parmsAt (top 8), body := .stmts (bodyAt (top 8)), scope := scopeAt (top 8), globals := 3, closure := [], defaults := (.ref 255), kwdefaults := .none, doc := (.str (docAt (top 8)) 605), pyModule := (.str "cpy313.textwrap" 593), annotations := none, code := (.ref 261), closureTuple := .none, builtins := 0 }, #[]⟩
noncomputable def ob266 (P : Params) : Obj := ⟨(.type "code"), none, .fields #[(.str "_law_rows" 609), (.str "_law_rows" 610), (.str "/claim/cut.py" 611), (.int (496) 0), (.int (1) 0), (.int (0) 0), (.int (0) 0), (.int (3) 0), (.ref 263), (.bool true), (.int (181) 0), (.ref 264), .none, .none, .none, (.ref 265), (.int (612) 0), (.int (496) 0), (.str "/claim/cut.py" 613)], #[]⟩
noncomputable def ob267 (P : Params) : Obj := ⟨(.type "function"), none, .func { name := "_law_rows", qualname := "_law_rows", params := parmsAt (top 10), body := .stmts (bodyAt (top 10)), scope := scopeAt (top 10), globals := 3, closure := [], defaults := .none, kwdefaults := .none, doc := .none, pyModule := (.str "law_kl0396_01" 607), annotations := none, code := (.ref 266), closureTuple := .none, builtins := 0 }, #[]⟩
noncomputable def ob273 (P : Params) : Obj := ⟨(.type "code"), none, .fields #[(.str "_law_run" 615), (.str "_law_run" 616), (.str "/claim/cut.py" 617), (.int (503) 0), (.int (2) 0), (.int (0) 0), (.int (0) 0), (.int (3) 0), (.ref 268), (.bool true), (.int (181) 0), (.ref 269), .none, (.ref 270), (.ref 271), (.ref 272), (.int (621) 0), (.int (503) 0), (.str "/claim/cut.py" 622)], #[]⟩
noncomputable def ob274 (P : Params) : Obj := ⟨(.type "function"), none, .func { name := "_law_run", qualname := "_law_run", params := parmsAt (top 11), body := .stmts (bodyAt (top 11)), scope := scopeAt (top 11), globals := 3, closure := [], defaults := .none, kwdefaults := .none, doc := .none, pyModule := (.str "law_kl0396_01" 607), annotations := none, code := (.ref 273), closureTuple := .none, builtins := 0 }, #[]⟩
noncomputable def ob280 (P : Params) : Obj := ⟨(.type "code"), none, .fields #[(.str "_law_spots" 624), (.str "_law_spots" 625), (.str "/claim/cut.py" 626), (.int (508) 0), (.int (2) 0), (.int (0) 0), (.int (0) 0), (.int (3) 0), (.ref 275), (.bool true), (.int (181) 0), (.ref 276), .none, (.ref 277), (.ref 278), (.ref 279), (.int (638) 0), (.int (508) 0), (.str "/claim/cut.py" 639)], #[]⟩
noncomputable def ob281 (P : Params) : Obj := ⟨(.type "function"), none, .func { name := "_law_spots", qualname := "_law_spots", params := parmsAt (top 12), body := .stmts (bodyAt (top 12)), scope := scopeAt (top 12), globals := 3, closure := [], defaults := .none, kwdefaults := .none, doc := .none, pyModule := (.str "law_kl0396_01" 607), annotations := none, code := (.ref 280), closureTuple := .none, builtins := 0 }, #[]⟩
noncomputable def ob287 (P : Params) : Obj := ⟨(.type "code"), none, .fields #[(.str "_law_codes" 641), (.str "_law_codes" 642), (.str "/claim/cut.py" 643), (.int (522) 0), (.int (3) 0), (.int (0) 0), (.int (0) 0), (.int (3) 0), (.ref 282), (.bool true), (.int (181) 0), (.ref 283), .none, (.ref 284), (.ref 285), (.ref 286), (.int (651) 0), (.int (522) 0), (.str "/claim/cut.py" 652)], #[]⟩
noncomputable def ob288 (P : Params) : Obj := ⟨(.type "function"), none, .func { name := "_law_codes", qualname := "_law_codes", params := parmsAt (top 13), body := .stmts (bodyAt (top 13)), scope := scopeAt (top 13), globals := 3, closure := [], defaults := .none, kwdefaults := .none, doc := .none, pyModule := (.str "law_kl0396_01" 607), annotations := none, code := (.ref 287), closureTuple := .none, builtins := 0 }, #[]⟩
noncomputable def ob292 (P : Params) : Obj := ⟨(.type "code"), none, .fields #[(.str "law" 654), (.str "law" 655), (.str "/claim/cut.py" 656), (.int (531) 0), (.int (1) 0), (.int (0) 0), (.int (0) 0), (.int (3) 0), (.ref 289), (.bool true), (.int (181) 0), (.ref 290), .none, .none, .none, (.ref 291), (.int (657) 0), (.int (531) 0), (.str "/claim/cut.py" 658)], #[]⟩
noncomputable def ob293 (P : Params) : Obj := ⟨(.type "function"), none, .func { name := "law", qualname := "law", params := parmsAt (top 14), body := .stmts (bodyAt (top 14)), scope := scopeAt (top 14), globals := 3, closure := [], defaults := .none, kwdefaults := .none, doc := .none, pyModule := (.str "law_kl0396_01" 607), annotations := none, code := (.ref 292), closureTuple := .none, builtins := 0 }, #[]⟩
noncomputable def K (P : Params) : Frag := (nat_lit 2, ob2 P) :: (nat_lit 3, ob3 P) :: (nat_lit 65, ob65 P) :: (nat_lit 81, ob81 P) :: (nat_lit 82, ob82 P) :: (nat_lit 88, ob88 P) :: (nat_lit 89, ob89 P) :: (nat_lit 90, ob90 P) :: (nat_lit 91, ob91 P) :: (nat_lit 134, ob134 P) :: (nat_lit 135, ob135 P) :: (nat_lit 136, ob136 P) :: (nat_lit 153, ob153 P) :: (nat_lit 159, ob159 P) :: (nat_lit 160, ob160 P) :: (nat_lit 166, ob166 P) :: (nat_lit 167, ob167 P) :: (nat_lit 173, ob173 P) :: (nat_lit 174, ob174 P) :: (nat_lit 180, ob180 P) :: (nat_lit 181, ob181 P) :: (nat_lit 187, ob187 P) :: (nat_lit 188, ob188 P) :: (nat_lit 189, ob189 P) :: (nat_lit 195, ob195 P) :: (nat_lit 196, ob196 P) :: (nat_lit 202, ob202 P) :: (nat_lit 203, ob203 P) :: (nat_lit 209, ob209 P) :: (nat_lit 210, ob210 P) :: (nat_lit 241, ob241 P) :: (nat_lit 242, ob242 P) :: (nat_lit 247, ob247 P) :: (nat_lit 253, ob253 P) :: (nat_lit 254, ob254 P) :: (nat_lit 255, ob255 P) :: (nat_lit 261, ob261 P) :: (nat_lit 262, ob262 P) :: (nat_lit 266, ob266 P) :: (nat_lit 267, ob267 P) :: (nat_lit 273, ob273 P) :: (nat_lit 274, ob274 P) :: (nat_lit 280, ob280 P) :: (nat_lit 281, ob281 P) :: (nat_lit 287, ob287 P) :: (nat_lit 288, ob288 P) :: (nat_lit 292, ob292 P) :: (nat_lit 293, ob293 P) :: []
noncomputable def Kas : List Nat := nat_lit 2 :: nat_lit 3 :: nat_lit 65 :: nat_lit 81 :: nat_lit 82 :: nat_lit 88 :: nat_lit 89 :: nat_lit 90 :: nat_lit 91 :: nat_lit 134 :: nat_lit 135 :: nat_lit 136 :: nat_lit 153 :: nat_lit 159 :: nat_lit 160 :: nat_lit 166 :: nat_lit 167 :: nat_lit 173 :: nat_lit 174 :: nat_lit 180 :: nat_lit 181 :: nat_lit 187 :: nat_lit 188 :: nat_lit 189 :: nat_lit 195 :: nat_lit 196 :: nat_lit 202 :: nat_lit 203 :: nat_lit 209 :: nat_lit 210 :: nat_lit 241 :: nat_lit 242 :: nat_lit 247 :: nat_lit 253 :: nat_lit 254 :: nat_lit 255 :: nat_lit 261 :: nat_lit 262 :: nat_lit 266 :: nat_lit 267 :: nat_lit 273 :: nat_lit 274 :: nat_lit 280 :: nat_lit 281 :: nat_lit 287 :: nat_lit 288 :: nat_lit 292 :: nat_lit 293 :: []
end Mine
end
section
open PySem PySem.W PyProof.Rows PySem.Calls PySem.Spec
set_option Elab.async false
set_option maxRecDepth 1000000
set_option maxHeartbeats 8000000
namespace Mine
noncomputable abbrev pw : Program := PySem.Challenge.pw_kl0396_01
noncomputable abbrev q : Program := { pw with main := { pw.main with body := [top 0, top 1, top 4, top 7, top 9, top 10, top 11, top 12, top 13, top 14] } }
noncomputable abbrev loose : List Str := ["_tuplegetter", "Match", "SequenceMatcher", "IS_CHARACTER_JUNK", "indent"]
/-- so that k_is knows the part -/
theorem reg (P : Params) : K P = [] ∨ PySem.Challenge.rw_kl0396_01.name = PySem.Challenge.rw_kl0396_01.name := by
  k_fill
  exact .inr rfl
theorem enterF {w : World} {A : Around} {s : Shared} {R : Result → Shared → Prop} {f : Addr} {g : Heap} {mg mb : Str → Option Value} {name qual : Str} {params : Arguments} {body : List Stmt} {scope : Scope}
    {dV kV doc pm cdv ct oc : Value} {an od : Option Addr} {osl : Array (Option Value)} {args : Args} {binds : List (Str × Value)}
    (hkp : ∀ b o, g.get? b = some o → s.heap.get? b = some o) (hsz : g.objs.size ≤ s.heap.objs.size)
    (X : (K w.params).In g) (T : TopRead q (looseW q loose) mg mb g)
    (ho : (K w.params).lookup f = some ⟨oc, od, .func (fnOf name qual params body scope dV kV doc pm an cdv ct), osl⟩) (hcd : codeIn (K w.params) cdv qual = true)
    (hroom : A.depth < recursionLimit)
    (hbind : BindsTo s (fnOf name qual params body scope dV kV doc pm an cdv ct) args binds) (hloc : ∀ y ∈ binds, scope.names.lookup y.1 = some .local)
    (h : ∀ L h₁, Fr g L h₁ (fun y => binds.reverse.lookup y) → (∀ b o, s.heap.get? b = some o → h₁.get? b = some o) → s.heap.get? L = none →
      wpAny (model pw w) (A.deeper (envX qual scope L f cdv [])) (execs body (envX qual scope L f cdv []))
        (fun fl s' => R (.ok (.ret (match fl with | .ret v => v | _ => .none))) s') (fun _ _ => False) { s with heap := h₁, toks := s.toks + binds.length })
    (hcell : ∀ x ∈ scope.names, x.2 ≠ .cell) (hco : scope.isCoroutine = false) (hgen : scope.isGenerator = false) (hk : scope.kind = .function) :
    codeAny (model pw w) A (.call (.ref f) args) R s := by
  have hX := X.keeps hkp
  refine codeAny_call_def (fd := fnOf name qual params body scope dV kV doc pm an cdv ct) (body := body) (binds := binds) hroom (hX _ _ ho) rfl (T.nolimit.keeps hkp) (codeRec_of hX hcd) rfl hbind hcell hloc (fun h₁ hns hk₁ => ?_) hco hgen hk
  refine wpAny_mono (h s.heap.objs.size h₁ ⟨hns, fun b o e => hk₁ b o (hkp b o e), hsz⟩ hk₁ ?_) (fun _ _ x => x) fun _ _ x => x.elim
  cases e : s.heap.get? s.heap.objs.size with
  | none => rfl
  | some o => exact absurd (Heap.lt_size e) (Nat.lt_irrefl _)

/-- the ledger at a call: each stands in the heap and not in the base -/
noncomputable def Led (g h : Heap) (news : List (Addr × Obj)) : Prop := ∀ p ∈ news, h.get? p.1 = some p.2 ∧ g.get? p.1 = none
theorem hide_of {h : Heap} : ∀ (l : List Addr) {b : Addr} {o : Obj}, h.get? b = some o → b ∉ l → (hideAll h l).get? b = some o := fun l _ _ e n => hideAll_get l e n
/-- a def is entered; the base within is all of the heap but the ledger -/
theorem enterL {w : World} {A : Around} {s : Shared} {R : Result → Shared → Prop} {f : Addr} {g : Heap} {mg mb : Str → Option Value} {news : List (Addr × Obj)} {name qual : Str} {params : Arguments} {body : List Stmt} {scope : Scope}
    {dV kV doc pm cdv ct oc : Value} {an od : Option Addr} {osl : Array (Option Value)} {args : Args} (binds : List (Str × Value))
    (hkp : ∀ b o, g.get? b = some o → s.heap.get? b = some o)
    (X : (K w.params).In g) (T : TopRead q (looseW q loose) mg mb g) (N : Led g s.heap news)
    (ho : (K w.params).lookup f = some ⟨oc, od, .func (fnOf name qual params body scope dV kV doc pm an cdv ct), osl⟩) (hcd : codeIn (K w.params) cdv qual = true)
    (hroom : A.depth < recursionLimit)
    (hbind : BindsTo s (fnOf name qual params body scope dV kV doc pm an cdv ct) args binds) (hloc : ∀ y ∈ binds, scope.names.lookup y.1 = some .local)
    (h : ∀ g' L h₁, (∀ b o, s.heap.get? b = some o → b ∉ news.map (·.1) → g'.get? b = some o) → (∀ b o, g'.get? b = some o → s.heap.get? b = some o) → (∀ p ∈ news, g'.get? p.1 = none) → (K w.params).In g' → TopRead q (looseW q loose) mg mb g' →
      Fr g' L h₁ (fun y => binds.reverse.lookup y) → News g' L h₁ news → (∀ b o, s.heap.get? b = some o → b < L) →
      wpAny (model pw w) (A.deeper (envX qual scope L f cdv [])) (execs body (envX qual scope L f cdv []))
        (fun fl s' => R (.ok (.ret (match fl with | .ret v => v | _ => .none))) s') (fun _ _ => False) { s with heap := h₁, toks := s.toks + binds.length })
    (hcell : ∀ x ∈ scope.names, x.2 ≠ .cell) (hco : scope.isCoroutine = false) (hgen : scope.isGenerator = false) (hk : scope.kind = .function) :
    codeAny (model pw w) A (.call (.ref f) args) R s := by
  have hX := X.keeps hkp
  have hkg : ∀ b o, g.get? b = some o → (hideAll s.heap (news.map (·.1))).get? b = some o := fun b o e => hideAll_get _ (hkp b o e) fun hm => by
    obtain ⟨p, hp, rfl⟩ := List.mem_map.mp hm
    rw [(N p hp).2] at e; cases e
  refine codeAny_call_def (fd := fnOf name qual params body scope dV kV doc pm an cdv ct) (body := body) (binds := binds) hroom (hX _ _ ho) rfl (T.nolimit.keeps hkp) (codeRec_of hX hcd) rfl hbind hcell hloc (fun h₁ hns hk₁ => ?_) hco hgen hk
  refine wpAny_mono (h (hideAll s.heap (news.map (·.1))) s.heap.objs.size h₁ (fun b o e n => hideAll_get _ e n) (fun b o e => of_hideAll _ e) (fun p hp => hideAll_none _ (List.mem_map_of_mem hp)) (X.keeps hkg) (T.keeps hkg) ⟨hns, fun b o e => hk₁ b o (of_hideAll _ e), Nat.le_of_eq (hideAll_size _ _)⟩
    (fun p hp => ⟨hk₁ _ _ (N p hp).1, Nat.ne_of_lt (Heap.lt_size (N p hp).1), hideAll_none _ (List.mem_map_of_mem hp)⟩) (fun b o e => Heap.lt_size e)) (fun _ _ x => x) fun _ _ x => x.elim
/-- what stands around a call: nothing is handled -/
noncomputable abbrev AR (dp un : Nat) (fr : Option (List Env)) (gd : Option (List Code)) : Around := { handled := none, depth := dp, frames := fr, guards := gd, units := un }
/-- a goal at which the walk stands still -/
noncomputable def Stop (P : Prop) : Prop := P
theorem Stop.out {P : Prop} (h : Stop P) : P := h
theorem Stop.intro {P : Prop} (h : P) : Stop P := h
def stopAt (ks : String) (s : Lean.TSyntax `str) : Lean.MacroM Lean.Syntax := if (ks.splitOn "|").contains s.getString then do return (← `(tactic| (with_reducible refine Stop.out ?_))).raw else Lean.Macro.throwUnsupported
/-- the entries of a SequenceMatcher's dict, once it is made -/
noncomputable abbrev smEs (P : Params) (k : List Tok) (isj : Value) (a b : Str) (ta tb : Tok) (aj mb op b2j bj bp : Value) : List DictEntry :=
  [⟨PyData.keyHash P "isjunk", .str "isjunk" (k.getD 0 0), isj⟩, ⟨PyData.keyHash P "a", .str "a" (k.getD 1 0), .str a ta⟩, ⟨PyData.keyHash P "b", .str "b" (k.getD 2 0), .str b tb⟩, ⟨PyData.keyHash P "autojunk", .str "autojunk" (k.getD 3 0), aj⟩,
   ⟨PyData.keyHash P "matching_blocks", .str "matching_blocks" (k.getD 4 0), mb⟩, ⟨PyData.keyHash P "opcodes", .str "opcodes" (k.getD 5 0), op⟩, ⟨PyData.keyHash P "fullbcount", .str "fullbcount" (k.getD 6 0), .none⟩,
   ⟨PyData.keyHash P "b2j", .str "b2j" (k.getD 7 0), b2j⟩, ⟨PyData.keyHash P "bjunk", .str "bjunk" (k.getD 8 0), bj⟩, ⟨PyData.keyHash P "bpopular", .str "bpopular" (k.getD 9 0), bp⟩]
end Mine
end
section
open PySem PySem.W PyProof.Rows
set_option Elab.async false
set_option maxRecDepth 1000000
set_option maxHeartbeats 8000000
namespace Mine
/-! ## the head -/
noncomputable def anyQ (as : Array Nat) (p : Nat → Bool) (start stop : Nat) : Bool :=
  @Bool.rec (fun _ => Bool) (Array.any as p start stop) (PySem.W.R.anyR as.toList p) (and (Nat.beq start 0) (Nat.beq stop as.size))
theorem any_eq : @Array.any Nat = anyQ := by
  funext as p start stop
  unfold anyQ
  cases h : (and (Nat.beq start 0) (Nat.beq stop as.size)) with
  | false => rfl
  | true =>
    obtain ⟨h1, h2⟩ := Bool.and_eq_true_iff.mp h
    have h1 := Nat.eq_of_beq_eq_true h1
    have h2 := Nat.eq_of_beq_eq_true h2
    subst h1 h2
    show as.any p = PySem.W.R.anyR as.toList p
    rw [← Array.any_toList, PySem.W.R.anyR_eq]
noncomputable def tbN (f : Builtin) (id : String) : Option Builtin := @Bool.rec (fun _ => Option Builtin) (treeTable id) (some f) (Nat.beq (code id) 29827186395103491166823348853)
theorem tb_new : treeTable "type.__new__" = some Builtin.«type.__new__» := by kernel_rfl
theorem code_new : code "type.__new__" = 29827186395103491166823348853 := by kernel_rfl
theorem tb_eq : treeTable = tbN Builtin.«type.__new__» := by
  funext id
  unfold tbN
  cases h : Nat.beq (code id) 29827186395103491166823348853 with
  | false => rfl
  | true =>
    have h1 := Nat.eq_of_beq_eq_true h
    have h2 : id = "type.__new__" := code_inj _ _ (h1.trans code_new.symm)
    subst h2
    exact tb_new
noncomputable def setDoc (d : Str) : Stmt → Stmt
  | .ClassDef n b k (.Expr (.Constant (.str _) kk p1) p2 :: rest) dl tp sc tsc bi sa pos => .ClassDef n b k (.Expr (.Constant (.str d) kk p1) p2 :: rest) dl tp sc tsc bi sa pos
  | s => s
noncomputable def pwD (d : Str) : Program := { pw with main := { pw.main with body := pw.main.body.modify 5 (setDoc d) } }
theorem pw_eq : pw = pwD docX := by
  have h : pw = pwD (docAt (top 5)) := by kernel_rfl
  rw [docX_eq] at h; exact h
noncomputable abbrev H : Hook := kmHook K Kas (fun _ => by kernel_rfl) [257]
noncomputable abbrev row : RowW := (OpenLaw.row PySem.Challenge.rw_kl0396_01).toRowW
theorem ends_eq (f : Builtin) (w : World) (N : Nat) : openEnds (tbN f) pw w N = openEnds (tbN f) (pwD docX) w N := congrArg (fun p => openEnds (tbN f) p w N) pw_eq
theorem left : LeftO pw q loose (fun s => xlAt q [] s && recOk (RowW.records row) s) (Hook.obs H) (Hook.val H) 4798 := by
  intro w
  rw [tb_eq]
  delta Builtin.«type.__new__»
  rw [any_eq]
  rw [ends_eq]
  kernel_rfl
end Mine
end
section
open PySem PySem.W PyProof.Rows PySem.Calls PySem.Spec
set_option Elab.async false
set_option maxRecDepth 1000000
set_option maxHeartbeats 8000000
namespace Mine
/-! ## a method of a built-in container, taken as a value -/
namespace BM
theorem set_getattr_none : typeLookup (.type "set") "__getattr__" = pure none := by rw [typeLookup_type, builtinLookup_eq_fast]; kernel_rfl
theorem entry_set_getattribute : entryFor table "set.__getattribute__" = some Builtin.«object.__getattribute__» :=
  entryFor_alias (id' := "object.__getattribute__") (by kernel_rfl) (by decide +kernel) (by decide +kernel) (by kernel_rfl)
theorem slot_get : Slot "method_descriptor" "__get__" "method_descriptor.__get__" :=
  .of (owner := "method_descriptor") (n := "__get__") (by rw [typeLookup_type, builtinLookup_eq_fast]; kernel_rfl) (by decide +kernel) (by decide +kernel) (by decide +kernel)
    (by first | exact .inl (by decide +kernel) | exact .inr (by decide +kernel)) (by rw [isSubtype_type]; kernel_rfl)
theorem no_set : typeLookup (.type "method_descriptor") "__set__" = pure none := by rw [typeLookup_type, builtinLookup_eq_fast]; kernel_rfl
theorem no_delete : typeLookup (.type "method_descriptor") "__delete__" = pure none := by rw [typeLookup_type, builtinLookup_eq_fast]; kernel_rfl
theorem entry_get : entryFor table "method_descriptor.__get__" = some Builtin.«method_descriptor.__get__» := entryFor_of_tree (by kernel_rfl)
theorem args_get (a b c : Value) : argsOk "method_descriptor.__get__" ⟨[a, b, c], []⟩ := by unfold argsOk; kernel_rfl
end BM
noncomputable abbrev boundObj (id : String) (a : Addr) : Obj := { cls := .type "builtin_function_or_method", data := .fields #[.builtin id, .ref a] }
theorem getattribute_set (a : Addr) (es : Array (Int × Value)) (n : Nat) (tb : SetTable) (sl : Array (Option Value)) (u : Tok) {prog : Program} {w : World} {A : Around} {E : Value → Shared → Prop} {s : Shared} {Q : Fin → Shared → Prop}
    (hx : s.heap.get? a = some { cls := .type "set", dict := none, data := .set es n tb, slots := sl }) (h : Q (.done (.ret (.ref s.heap.objs.size))) { s with heap := s.heap.push (boundObj "set.__contains__" a) }) :
    wpAny (model prog w) A (Builtin.«object.__getattribute__» ⟨[.ref a, .str "__contains__" u], []⟩) Q E s := by
  obtain ⟨hp, g, d, tk, os⟩ := s
  have hT : (⟨hp, g, d, tk, os⟩ : Shared).TypeIs (.ref a) "set" := ⟨_, hx, rfl⟩
  have f1 := F.slot_set_contains.lookup
  have f2 := F.type_set_contains
  have f3 := BM.slot_get.lookup
  have f4 := BM.no_set
  have f5 := BM.no_delete
  have o1 : ".".intercalate ("set.__contains__".cutAt '.').dropLast = "set" := by decide +kernel
  have f6 : isSubtype (.type "set") (.type "set") = pure true := by rw [isSubtype_type]; kernel_rfl
  unfold Builtin.«object.__getattribute__»
  repeat (any_goals (first | assumption | ((with_reducible show wpAny _ _ (call (Value.builtin "method_descriptor.__get__") _ _) _ _ _); refine wpAny_call_entry BM.slot_get (show Shared.TypeIs _ (.builtin "set.__contains__") _ from f2) BM.entry_get ?_ (BM.args_get _ _ _); unfold Builtin.«method_descriptor.__get__») | wp_step))
  rw [o1]
  repeat (any_goals (first | assumption | wp_step))
  exact ⟨_, rfl, wpAny_pure h⟩

/-- set.__contains__ of a set, as a value -/
theorem getAttr_set_contains {prog : Program} {w : World} {A : Around} {E : Value → Shared → Prop} {s : Shared} {a : Addr} {es : Array (Int × Value)} {n : Nat} {tb : SetTable} {sl : Array (Option Value)} {Q : Value → Shared → Prop}
    (hx : s.heap.get? a = some { cls := .type "set", dict := none, data := .set es n tb, slots := sl })
    (h : Q (.ref s.heap.objs.size) { s with heap := s.heap.push (boundObj "set.__contains__" a), toks := s.toks + 1 }) :
    wpAny (model prog w) A (getAttr (.ref a) "__contains__" true) Q E s := by
  obtain ⟨hp, g, d, tk, os⟩ := s
  have hT : ∀ tk', (⟨hp, g, d, tk', os⟩ : Shared).TypeIs (.ref a) "set" := fun _ => ⟨_, hx, rfl⟩
  have f3 := F.slot_set_getattribute.lookup
  have f4 := F.slot_set_getattribute.bind (.ref a)
  have f5 := BM.set_getattr_none
  unfold getAttr getAttrBy
  repeat (any_goals (first | assumption | exact hT _ | ((with_reducible show wpAny _ _ (call (Value.builtin "set.__getattribute__") _ _) _ _ _); refine wpAny_call_entry F.slot_set_getattribute (hT _) BM.entry_set_getattribute (getattribute_set a es n tb sl _ hx ?_) (F.args_set_getattribute_2 _ _)) | wp_step))
  refine ⟨_, rfl, ?_⟩
  exact wpAny_pure h
theorem getattribute_dict (a : Addr) (es : Array DictEntry) (n : Nat) (sl : Array (Option Value)) (u : Tok) {prog : Program} {w : World} {A : Around} {E : Value → Shared → Prop} {s : Shared} {Q : Fin → Shared → Prop}
    (hx : s.heap.get? a = some { cls := .type "dict", dict := none, data := .dict es n, slots := sl }) (h : Q (.done (.ret (.ref s.heap.objs.size))) { s with heap := s.heap.push (boundObj "dict.get" a) }) :
    wpAny (model prog w) A (Builtin.«object.__getattribute__» ⟨[.ref a, .str "get" u], []⟩) Q E s := by
  obtain ⟨hp, g, d, tk, os⟩ := s
  have hT : (⟨hp, g, d, tk, os⟩ : Shared).TypeIs (.ref a) "dict" := ⟨_, hx, rfl⟩
  have f1 := F.slot_dict_get.lookup
  have f2 := F.type_dict_get
  have f3 := BM.slot_get.lookup
  have f4 := BM.no_set
  have f5 := BM.no_delete
  have o1 : ".".intercalate ("dict.get".cutAt '.').dropLast = "dict" := by decide +kernel
  have f6 : isSubtype (.type "dict") (.type "dict") = pure true := by rw [isSubtype_type]; kernel_rfl
  unfold Builtin.«object.__getattribute__»
  repeat (any_goals (first | assumption | ((with_reducible show wpAny _ _ (call (Value.builtin "method_descriptor.__get__") _ _) _ _ _); refine wpAny_call_entry BM.slot_get (show Shared.TypeIs _ (.builtin "dict.get") _ from f2) BM.entry_get ?_ (BM.args_get _ _ _); unfold Builtin.«method_descriptor.__get__») | wp_step))
  rw [o1]
  repeat (any_goals (first | assumption | wp_step))
  exact ⟨_, rfl, wpAny_pure h⟩

/-- dict.get of a dict, as a value -/
theorem getAttr_dict_get {prog : Program} {w : World} {A : Around} {E : Value → Shared → Prop} {s : Shared} {a : Addr} {es : Array DictEntry} {n : Nat} {sl : Array (Option Value)} {Q : Value → Shared → Prop}
    (hx : s.heap.get? a = some { cls := .type "dict", dict := none, data := .dict es n, slots := sl })
    (h : Q (.ref s.heap.objs.size) { s with heap := s.heap.push (boundObj "dict.get" a), toks := s.toks + 1 }) :
    wpAny (model prog w) A (getAttr (.ref a) "get" true) Q E s := by
  obtain ⟨hp, g, d, tk, os⟩ := s
  have hT : ∀ tk', (⟨hp, g, d, tk', os⟩ : Shared).TypeIs (.ref a) "dict" := fun _ => ⟨_, hx, rfl⟩
  have f3 := F.slot_dict_getattribute.lookup
  have f4 := F.slot_dict_getattribute.bind (.ref a)
  have f5 := am_dict_getattr_none
  unfold getAttr getAttrBy
  repeat (any_goals (first | assumption | exact hT _ | ((with_reducible show wpAny _ _ (call (Value.builtin "dict.__getattribute__") _ _) _ _ _); refine wpAny_call_entry F.slot_dict_getattribute (hT _) am_entry_dict_getattribute (getattribute_dict a es n sl _ hx ?_) (F.args_dict_getattribute_2 _ _)) | wp_step))
  refine ⟨_, rfl, ?_⟩
  exact wpAny_pure h
end Mine
end
section
open PySem PySem.W PyProof.Rows PySem.Calls PySem.Spec
set_option Elab.async false
set_option maxRecDepth 1000000
set_option maxHeartbeats 8000000
namespace Mine
/-! ## loops, their state said by locals and ledger -/
/-- a turn that came to its end -/
inductive Turned (g : Heap) (L : Addr) (s : Shared) (own : List (Addr × Obj)) (Jn : (Str → Option Value) → List (Addr × Obj) → Prop) (s' : Shared) : Prop
  | mk (h' : Heap) (tk : Nat) (m' : Str → Option Value) (news' : List (Addr × Obj)) (e : s' = { s with heap := h', toks := tk }) (F : Fr g L h' m') (N : News g L h' (own ++ news')) (hd : ∀ p ∈ news', ∀ o ∈ own, p.1 ≠ o.1) (hj : Jn m' news')
inductive Broken (g : Heap) (L : Addr) (s : Shared) (own : List (Addr × Obj)) (Post : (Str → Option Value) → List (Addr × Obj) → Prop) (s' : Shared) : Prop
  | mk (h' : Heap) (tk : Nat) (m' : Str → Option Value) (news' : List (Addr × Obj)) (e : s' = { s with heap := h', toks := tk }) (F : Fr g L h' m') (N : News g L h' (own ++ news')) (hj : Post m' news')
/-- the ledger, its fixed part kl in front -/
inductive KlJ (kl : List (Addr × Obj)) (J : (Str → Option Value) → List (Addr × Obj) → Prop) (m : Str → Option Value) (n : List (Addr × Obj)) : Prop
  | mk (n₂ : List (Addr × Obj)) (e : n = kl ++ n₂) (hk : ∀ p ∈ n₂, ∀ o ∈ kl, p.1 ≠ o.1) (hj : J m n₂)
noncomputable def TurnEnd (g : Heap) (L : Addr) (s : Shared) (own : List (Addr × Obj)) (Jn : (Str → Option Value) → List (Addr × Obj) → Prop) (Q : Flow → Shared → Prop) (f : Flow) (s' : Shared) : Prop :=
  match f with
  | .ret v => Q (.ret v) s'
  | .brk => Q .next s'
  | _ => Turned g L s own Jn s'
section
variable {w : World} {A : Around} {E : Value → Shared → Prop} {s : Shared} {env : Env} {g : Heap} {x : Str} {body : List Stmt} {Q : Flow → Shared → Prop} {m : Str → Option Value} {news : List (Addr × Obj)} {I : Addr} {n : Nat} {P : Nat → Value → Prop} {St : Nat → Heap → Prop}
theorem TurnEnd.intro {L : Addr} {own : List (Addr × Obj)} {Jn : (Str → Option Value) → List (Addr × Obj) → Prop} {h' : Heap} {tk : Nat} {m' : Str → Option Value} {news' : List (Addr × Obj)}
    (F : Fr g L h' m') (N : News g L h' (own ++ news')) (hd : ∀ p ∈ news', ∀ o ∈ own, p.1 ≠ o.1) (hJ : Jn m' news') : TurnEnd g L s own Jn Q .next { s with heap := h', toks := tk } := ⟨h', tk, m', news', rfl, F, N, hd, hJ⟩
theorem TurnEnd.introC {L : Addr} {own : List (Addr × Obj)} {Jn : (Str → Option Value) → List (Addr × Obj) → Prop} {h' : Heap} {tk : Nat} {m' : Str → Option Value} {news' : List (Addr × Obj)}
    (F : Fr g L h' m') (N : News g L h' (own ++ news')) (hd : ∀ p ∈ news', ∀ o ∈ own, p.1 ≠ o.1) (hJ : Jn m' news') : TurnEnd g L s own Jn Q .cont { s with heap := h', toks := tk } := ⟨h', tk, m', news', rfl, F, N, hd, hJ⟩

/-- a loop whose iterator is one object, made for it; kl: a part of the ledger that the turns leave as it is -/
theorem loop1 {fp : List Addr} {kl : List (Addr × Obj)} (W : Walks pw w A I fp [I] n P St) (hfp : ∀ b ∈ fp, b = I ∨ (∃ o, g.get? b = some o) ∨ ∃ o, (b, o) ∈ kl) (hIf : I ∈ fp) (hSt : ∀ i h, St i h → ∃ o, h.get? I = some o) (hI : g.get? I = none) (hIL : I ≠ env.locals)
    (hIn : ∀ p ∈ kl ++ news, p.1 ≠ I) (hst : St 0 s.heap)
    (F : Fr g env.locals s.heap m) (N : News g env.locals s.heap (kl ++ news)) (hkn : ∀ p ∈ news, ∀ o ∈ kl, p.1 ≠ o.1) (J : Nat → (Str → Option Value) → List (Addr × Obj) → Prop) (h0 : J 0 m news)
    (step : ∀ i v m₁ news₁ h tk oI, i < n → P i v → J i m₁ news₁ → (∀ p ∈ news₁, ∀ o ∈ (I, oI) :: kl, p.1 ≠ o.1) → Fr g env.locals h (fun y => if y = x then some v else m₁ y) → News g env.locals h ((I, oI) :: (kl ++ news₁)) →
      wpAny (model pw w) A (execs body env) (TurnEnd g env.locals { s with heap := h, toks := tk } ((I, oI) :: kl) (J (i + 1)) Q) E { s with heap := h, toks := tk })
    (done : ∀ h' tk m' news', Fr g env.locals h' m' → News g env.locals h' (kl ++ news') → (∀ p ∈ news', ∀ o ∈ kl, p.1 ≠ o.1) → J n m' news' → Q .next { s with heap := h', toks := tk }) :
    LoopAtV pw w A g env x body Q E (.ref I) s := by
  refine ⟨I, fp, [I], n, P, St, m, kl ++ news, fun i => KlJ kl (J i), rfl, W, ?_, ?_, ?_, hst, F, N, ⟨news, rfl, hkn, h0⟩, ?_, ?_⟩
  · intro hm
    rcases hfp _ hm with e | ⟨o, e⟩ | ⟨o, e⟩
    · exact hIL e.symm
    · exact absurd (Heap.lt_size e) (Nat.not_lt.mpr F.above)
    · exact (N _ (List.mem_append_left _ e)).2.1 rfl
  · intro b hb; rw [List.mem_singleton.mp hb]; exact hI
  · intro p hp hm; exact hIn p hp (List.mem_singleton.mp hm)
  · rintro i v m₁ news₁ s₁ own ⟨hh, tkk, rfl⟩ hi hP ⟨n₂, rfl, hk₂, hJ⟩ hoff hown hget hmem hst₁ F₁ N₁
    obtain ⟨oI, hoI⟩ := hSt _ _ hst₁
    have hin := hmem I hIf hI oI hoI
    have hall : ∀ p ∈ own, p = (I, oI) ∨ p ∈ kl := by
      intro p hp
      have h2 := hget p hp
      rcases hfp _ (hown p hp) with e | ⟨o, e⟩ | ⟨o, e⟩
      · refine .inl ?_
        rw [e] at h2
        have h3 : hh.get? I = some p.2 := h2
        rw [show hh.get? I = some oI from hoI] at h3
        cases p; simp only at e h3; cases h3; subst e; rfl
      · have := (N₁ p (List.mem_append_left _ hp)).2.2
        rw [e] at this; cases this
      · refine .inr ?_
        have h3 : hh.get? p.1 = some o := (N₁ (p.1, o) (List.mem_append_right _ (List.mem_append_left _ e))).1
        have h4 : hh.get? p.1 = some p.2 := h2
        rw [h3] at h4
        cases p; simp only at e h4; cases h4; exact e
    have N₂ : News g env.locals hh ((I, oI) :: (kl ++ n₂)) := fun p hp => by
      rcases List.mem_cons.mp hp with rfl | hp
      · exact N₁ _ (List.mem_append_left _ hin)
      · exact N₁ p (List.mem_append_right _ hp)
    refine wpAny_mono (step i v m₁ n₂ hh tkk oI hi hP hJ (fun p hp o ho => ?_) F₁ N₂) (fun f s₂ h => ?_) fun _ _ e => e
    · rcases List.mem_cons.mp ho with rfl | ho
      · exact fun e => hoff p (List.mem_append_right _ hp) (List.mem_singleton.mpr e)
      · exact hk₂ p hp o ho
    have key : Turned g env.locals { s with heap := hh, toks := tkk } ((I, oI) :: kl) (J (i + 1)) s₂ → LoopStepU g env.locals [I] own (KlJ kl (J (i + 1))) { s with heap := hh, toks := tkk } .next s₂ := by
      rintro ⟨h', tk, m', news', rfl, F', N', hd, hj⟩
      refine ⟨rfl, h', tk, m', kl ++ news', rfl, F', ?_, fun p hp hm => ?_, news', rfl, fun p hp o ho => hd p hp o (List.mem_cons_of_mem _ ho), hj⟩
      · intro p hp
        rcases List.mem_append.mp hp with hp | hp
        · rcases hall p hp with rfl | hp
          · exact N' _ (List.mem_append_left _ (.head _))
          · exact N' _ (List.mem_append_left _ (.tail _ hp))
        · rcases List.mem_append.mp hp with hp | hp
          · exact N' _ (List.mem_append_left _ (.tail _ hp))
          · exact N' _ (List.mem_append_right _ hp)
      · rcases List.mem_append.mp hp with hp | hp
        · exact hIn p (List.mem_append_left _ hp) (List.mem_singleton.mp hm)
        · exact hd p hp _ (.head _) (List.mem_singleton.mp hm)
    cases f with
    | next => exact .next (key h)
    | cont => exact .cont (key h)
    | brk => exact .brk h
    | ret v => exact .ret h
  · rintro h' tk m' news' F' N' _ ⟨n₂, rfl, hk₂, hJ⟩
    exact done h' tk m' n₂ F' N' hk₂ hJ

theorem above_new {L : Addr} (F : Fr g L s.heap m) : g.get? s.heap.objs.size = none ∧ s.heap.objs.size ≠ L := by
  obtain ⟨oL, _, _, hL, _⟩ := F.ns
  refine ⟨?_, Nat.ne_of_gt (Heap.lt_size hL)⟩
  cases e : g.get? s.heap.objs.size with
  | none => rfl
  | some o => exact absurd (Heap.lt_size (F.keep _ _ e)) (Nat.lt_irrefl _)

/-- for x in range(lo, hi) -/
theorem loopRange {r : Addr} {lo hi : Int} {t u v : Tok} (hh : A.handled = none) (hR : IsRange s.heap r lo hi 1 t u v) (hlo : -(2 ^ 62) ≤ lo) (hlo' : lo < 2 ^ 62) (hhi : -(2 ^ 62) ≤ hi) (hhi' : hi < 2 ^ 62)
    (F : Fr g env.locals s.heap m) (N : News g env.locals s.heap news) (J : Nat → (Str → Option Value) → List (Addr × Obj) → Prop) (h0 : J 0 m news)
    (step : ∀ (i : Nat) tv m₁ news₁ h tk I oI, lo + i < hi → J i m₁ news₁ → (∀ p ∈ news₁, ∀ o ∈ [(I, oI)], p.1 ≠ o.1) → Fr g env.locals h (fun y => if y = x then some (.int (lo + i) tv) else m₁ y) → News g env.locals h ((I, oI) :: news₁) →
      wpAny (model pw w) A (execs body env) (TurnEnd g env.locals { s with heap := h, toks := tk } [(I, oI)] (J (i + 1)) Q) E { s with heap := h, toks := tk })
    (done : ∀ h' tk m' news', Fr g env.locals h' m' → News g env.locals h' news' → J (hi - lo).toNat m' news' → Q .next { s with heap := h', toks := tk }) :
    wpAny (model pw w) A (pyIter (.ref r)) (fun it s₂ => LoopAtV pw w A g env x body Q E it s₂) E s := by
  have hsz : Builtin.Range.rangeSize lo hi 1 = ((hi - lo).toNat : Int) := by
    unfold Builtin.Range.rangeSize
    rw [if_pos (by decide), Int.ediv_one]
    split <;> lia
  refine wpAny_pyIter_range hR ?_ ?_
  · unfold Builtin.Range.small
    rw [hsz]
    simp only [Builtin.Range.rangeFitsLong, Bool.and_eq_true, Bool.or_eq_true, decide_eq_true_eq, gt_iff_lt, beq_iff_eq]
    refine ⟨⟨⟨⟨by lia, by lia⟩, by decide⟩, by lia⟩, .inr ?_⟩
    rw [if_pos (by decide)]
    simp only [Bool.and_eq_true, decide_eq_true_eq]; lia
  · obtain ⟨e1, e2⟩ := above_new F
    refine loop1 (kl := []) (Walks.range hh s.heap.objs.size lo 1 (hi - lo).toNat) (fun b hb => .inl (List.mem_singleton.mp hb)) (List.mem_singleton.mpr rfl) (fun i h hi => ⟨_, hi⟩) e1 e2 (fun p hp => Nat.ne_of_lt (Heap.lt_size (N p hp).1)) ?_ (F.push _) (fun p hp => ⟨Heap.get?_push_of_some _ (N p hp).1, (N p hp).2⟩) (fun _ _ _ ho => nomatch ho) J h0 ?_ ?_
    · show IsRangeIter _ _ _ _ _
      refine (Heap.get?_push_size _ rfl).trans ?_
      rw [hsz]
      simp only [rawInt]
      have a1 : lo + ((0 : Nat) : Int) * 1 = lo := by simp
      have a2 : (((hi - lo).toNat : Nat) : Int) - ((0 : Nat) : Int) = ((hi - lo).toNat : Int) := by simp
      rw [a1, a2]
    · rintro i v m₁ news₁ h tk oI hi ⟨tv, rfl⟩ hJ hoff F₁ N₁
      rw [Int.mul_one] at F₁
      exact step i tv m₁ news₁ h tk _ oI (by lia) hJ hoff F₁ N₁
    · exact fun h' tk m' news' F' N' _ hJ => done h' tk m' news' F' N' hJ

/-- for x in a list that stands in the base or in the ledger's part kl -/
theorem loopList {kl : List (Addr × Obj)} {l : Addr} {items : Array Value} (hh : A.handled = none) (hl : (∃ o, g.get? l = some o) ∨ ∃ o, (l, o) ∈ kl) (hL : s.heap.IsList l items)
    (F : Fr g env.locals s.heap m) (N : News g env.locals s.heap (kl ++ news)) (hkn : ∀ p ∈ news, ∀ o ∈ kl, p.1 ≠ o.1) (J : Nat → (Str → Option Value) → List (Addr × Obj) → Prop) (h0 : J 0 m news)
    (step : ∀ (i : Nat) v m₁ news₁ h tk I oI, items[i]? = some v → J i m₁ news₁ → (∀ p ∈ news₁, ∀ o ∈ (I, oI) :: kl, p.1 ≠ o.1) → (∀ p ∈ kl, p.1 < I) → Fr g env.locals h (fun y => if y = x then some v else m₁ y) → News g env.locals h ((I, oI) :: (kl ++ news₁)) →
      wpAny (model pw w) A (execs body env) (TurnEnd g env.locals { s with heap := h, toks := tk } ((I, oI) :: kl) (J (i + 1)) Q) E { s with heap := h, toks := tk })
    (done : ∀ h' tk m' news', Fr g env.locals h' m' → News g env.locals h' (kl ++ news') → (∀ p ∈ news', ∀ o ∈ kl, p.1 ≠ o.1) → J items.size m' news' → Q .next { s with heap := h', toks := tk }) :
    wpAny (model pw w) A (pyIter (.ref l)) (fun it s₂ => LoopAtV pw w A g env x body Q E it s₂) E s := by
  refine wpAny_pyIter_list hL ?_
  obtain ⟨e1, e2⟩ := above_new F
  obtain ⟨ol, hol, _⟩ := id hL
  have hne : l ≠ s.heap.objs.size := Nat.ne_of_lt (Heap.lt_size hol)
  refine loop1 (kl := kl) (Walks.list hh s.heap.objs.size l hne items) (fun b hb => ?_) (.head _) (fun i h hi => by obtain ⟨⟨o, ho, _⟩, _⟩ := hi; exact ⟨o, ho⟩) e1 e2 (fun p hp => Nat.ne_of_lt (Heap.lt_size (N p hp).1))
    ⟨⟨_, Heap.get?_push_size _ rfl, rfl, rfl⟩, hL.at fun o e => Heap.get?_push_of_some _ e⟩ (F.push _) (fun p hp => ⟨Heap.get?_push_of_some _ (N p hp).1, (N p hp).2⟩) hkn J h0 ?_ ?_
  · rcases List.mem_cons.mp hb with rfl | hb
    · exact .inl rfl
    · rw [List.mem_singleton.mp hb]; exact .inr hl
  · rintro i v m₁ news₁ h tk oI hi hP hJ hoff F₁ N₁
    exact step i v m₁ news₁ h tk _ oI hP hJ hoff (fun p hp => Heap.lt_size (N p (List.mem_append_left _ hp)).1) F₁ N₁
  · exact done
end
/-! locals, as far as they are told -/
noncomputable def HasL (m : Str → Option Value) : List (Str × Value) → Prop
  | [] => True
  | p :: r => m p.1 = some p.2 ∧ HasL m r
noncomputable def ov (l : List (Str × Value)) (m : Str → Option Value) : Str → Option Value := fun y => match l.lookup y with
  | some v => some v
  | none => m y
theorem HasL.get {m : Str → Option Value} : ∀ {l : List (Str × Value)} {y : Str} {v : Value}, HasL m l → l.lookup y = some v → m y = some v
  | [], _, _, _, e => by cases e
  | (x, u) :: r, y, v, ⟨h, hr⟩, e => by
    rw [List.lookup_cons] at e
    cases hb : y == x with
    | true =>
      rw [hb] at e
      rw [eq_of_beq hb, ← Option.some.inj e]; exact h
    | false =>
      rw [hb] at e
      exact hr.get e
theorem ov_of {m : Str → Option Value} {l : List (Str × Value)} (h : HasL m l) : m = ov l m := by
  funext y
  unfold ov
  split
  · rename_i v e; exact h.get e
  · rfl
theorem News.sub {g h : Heap} {L : Addr} {l l' : List (Addr × Obj)} (N : News g L h l) (hs : ∀ p ∈ l', p ∈ l) : News g L h l' := fun p hp => N p (hs p hp)
/-- d[k] = v, d in the ledger -/
theorem setI {w : World} {A : Around} {E : Value → Shared → Prop} {s : Shared} {K : Type} [DecidableEq K] {knd : KeyKind pw w K} {g : Heap} {L d : Addr} {m : Str → Option Value} {own rest : List (Addr × Obj)} {kvs : List (K × Value)} {o : Obj} {k : K} {key v : Value} {Q : Unit → Shared → Prop}
    (hkey : knd.is k key = true) (F : Fr g L s.heap m) (N : News g L s.heap (own ++ (d, o) :: rest)) (h1 : ∀ p ∈ own, p.1 ≠ d) (h2 : ∀ p ∈ rest, p.1 ≠ d) (hd : o.IsDictOf knd kvs) (hsz : kvs.length ≤ sizeLine)
    (h : ∀ h' o', Fr g L h' m → News g L h' (own ++ (d, o') :: rest) → o'.IsDictOf knd (stored kvs k v) → Q () { s with heap := h', toks := s.toks + 1 }) : wpAny (model pw w) A (setItem (.ref d) key v) Q E s := by
  have hm := N (d, o) (List.mem_append_right _ (.head _))
  refine wpAny_setItem_pairs (hsz := hsz) hkey (Heap.dictOf_iff.mpr ⟨o, hm.1, hd⟩) fun h' hmm hs => ?_
  obtain ⟨o', ho', hd'⟩ := Heap.dictOf_iff.mp hmm
  exact h h' o' (F.change hs hm.2.1 hm.2.2) (N.setIn h1 h2 hs ho') hd'
/-! a loop that may break: one word Post holds behind it -/
noncomputable def TurnEndP (g : Heap) (L : Addr) (s : Shared) (own : List (Addr × Obj)) (Jn Post : (Str → Option Value) → List (Addr × Obj) → Prop) (Q : Flow → Shared → Prop) (f : Flow) (s' : Shared) : Prop :=
  match f with
  | .ret v => Q (.ret v) s'
  | .brk => Broken g L s own Post s'
  | _ => Turned g L s own Jn s'
section
variable {w : World} {A : Around} {E : Value → Shared → Prop} {s : Shared} {env : Env} {g : Heap} {x : Str} {body : List Stmt} {Q : Flow → Shared → Prop} {m : Str → Option Value} {news : List (Addr × Obj)}
theorem loopListP {kl : List (Addr × Obj)} {l : Addr} {items : Array Value} (hh : A.handled = none) (hl : (∃ o, g.get? l = some o) ∨ ∃ o, (l, o) ∈ kl) (hL : s.heap.IsList l items)
    (F : Fr g env.locals s.heap m) (N : News g env.locals s.heap (kl ++ news)) (hkn : ∀ p ∈ news, ∀ o ∈ kl, p.1 ≠ o.1) (J : Nat → (Str → Option Value) → List (Addr × Obj) → Prop) (Post : (Str → Option Value) → List (Addr × Obj) → Prop) (h0 : J 0 m news)
    (step : ∀ (i : Nat) v m₁ news₁ h tk I oI, items[i]? = some v → J i m₁ news₁ → (∀ p ∈ news₁, ∀ o ∈ (I, oI) :: kl, p.1 ≠ o.1) → (∀ p ∈ kl, p.1 < I) → Fr g env.locals h (fun y => if y = x then some v else m₁ y) → News g env.locals h ((I, oI) :: (kl ++ news₁)) →
      wpAny (model pw w) A (execs body env) (TurnEndP g env.locals { s with heap := h, toks := tk } ((I, oI) :: kl) (J (i + 1)) Post Q) E { s with heap := h, toks := tk })
    (done : ∀ m' news', J items.size m' news' → Post m' news')
    (post : ∀ h' tk m' news', Fr g env.locals h' m' → News g env.locals h' (kl ++ news') → Post m' news' → Q .next { s with heap := h', toks := tk }) :
    wpAny (model pw w) A (pyIter (.ref l)) (fun it s₂ => LoopAtV pw w A g env x body Q E it s₂) E s := by
  refine loopList hh hl hL F N hkn J h0 (fun i v m₁ news₁ h tk I oI hv hJ hd hI F₁ N₁ => ?_) fun h' tk m' news' F' N' _ hJ => post h' tk m' news' F' N' (done m' news' hJ)
  refine wpAny_mono (step i v m₁ news₁ h tk I oI hv hJ hd hI F₁ N₁) (fun f s' ht => ?_) fun _ _ e => e
  cases f with
  | next => exact ht
  | cont => exact ht
  | ret v => exact ht
  | brk =>
    obtain ⟨h', tk', m', news', rfl, F', N', hp⟩ := ht
    exact post h' tk' m' news' F' (fun p hp => N' p (List.mem_cons_of_mem _ hp)) hp
end
section
variable {s : Shared} {g : Heap} {Q : Flow → Shared → Prop}
theorem TurnEndP.intro {L : Addr} {own : List (Addr × Obj)} {Jn Post : (Str → Option Value) → List (Addr × Obj) → Prop} {h' : Heap} {tk : Nat} {m' : Str → Option Value} {news' : List (Addr × Obj)}
    (F : Fr g L h' m') (N : News g L h' (own ++ news')) (hd : ∀ p ∈ news', ∀ o ∈ own, p.1 ≠ o.1) (hJ : Jn m' news') : TurnEndP g L s own Jn Post Q .next { s with heap := h', toks := tk } := ⟨h', tk, m', news', rfl, F, N, hd, hJ⟩
theorem TurnEndP.introC {L : Addr} {own : List (Addr × Obj)} {Jn Post : (Str → Option Value) → List (Addr × Obj) → Prop} {h' : Heap} {tk : Nat} {m' : Str → Option Value} {news' : List (Addr × Obj)}
    (F : Fr g L h' m') (N : News g L h' (own ++ news')) (hd : ∀ p ∈ news', ∀ o ∈ own, p.1 ≠ o.1) (hJ : Jn m' news') : TurnEndP g L s own Jn Post Q .cont { s with heap := h', toks := tk } := ⟨h', tk, m', news', rfl, F, N, hd, hJ⟩
theorem TurnEndP.introB {L : Addr} {own : List (Addr × Obj)} {Jn Post : (Str → Option Value) → List (Addr × Obj) → Prop} {h' : Heap} {tk : Nat} {m' : Str → Option Value} {news' : List (Addr × Obj)}
    (F : Fr g L h' m') (N : News g L h' (own ++ news')) (hP : Post m' news') : TurnEndP g L s own Jn Post Q .brk { s with heap := h', toks := tk } := ⟨h', tk, m', news', rfl, F, N, hP⟩
end
theorem allLt_all {d : Addr} : ∀ (l : List (Addr × Obj)), AllLt d l → ∀ p ∈ l, p.1 < d
  | [], _, _, hp => by cases hp
  | q :: r, h, p, hp => by
    rcases List.mem_cons.mp hp with e | hp
    · rw [e]; exact h.1
    · exact allLt_all r h.2 p hp
end Mine
end
section
open PySem PySem.W PyProof.Rows PySem.Calls PySem.Spec
set_option Elab.async false
set_option maxRecDepth 1000000
set_option maxHeartbeats 8000000
namespace Mine
/-! ## a bound built-in method is called -/
namespace BM
theorem kind_get : builtinKind "dict.get" = some .method := by rw [show builtinKind "dict.get" = _ from by kernel_rfl]
theorem args_get3 (d : Addr) (k v : Value) : (match Manifest.signature? "dict.get" with | some sig => Bind.checkArgs "dict.get" { sig with full := s!"{Bind.lastOf "dict"}.{Bind.lastOf "dict.get"}" } ⟨[.ref d, k, v], []⟩ | none => unsupported "") = pure () := by kernel_rfl
theorem args_contains (d : Addr) (k : Value) : (match Manifest.signature? "set.__contains__" with | some sig => Bind.checkArgs "set.__contains__" { sig with full := s!"{Bind.lastOf "set"}.{Bind.lastOf "set.__contains__"}" } ⟨[.ref d, k], []⟩ | none => unsupported "") = pure () := by kernel_rfl
theorem va_get : Manifest.varargsMethods.contains "dict.get" = false := by decide +kernel
theorem va_contains : Manifest.varargsMethods.contains "set.__contains__" = false := by decide +kernel
theorem plain_get : plainId "dict.get" = true := by decide +kernel
theorem plain_contains : plainId "set.__contains__" = true := by decide +kernel
theorem kind_contains : builtinKind "set.__contains__" = some .method := by rw [show builtinKind "set.__contains__" = _ from by kernel_rfl]
theorem mod_dict : isSubtype (.type "dict") (.type "module") = pure false := by rw [isSubtype_type]; kernel_rfl
theorem mod_set : isSubtype (.type "set") (.type "module") = pure false := by rw [isSubtype_type]; kernel_rfl
end BM

theorem isType_not {w : World} {A : Around} {E : Value → Shared → Prop} {s : Shared} {a : Addr} {o : Obj} {Q : Bool → Shared → Prop} (ho : s.heap.get? a = some o) (hnc : ∀ c, o.data ≠ .cls c) (h : Q false s) : wpAny (model pw w) A (isType (.ref a)) Q E s := by
  unfold isType
  refine wpAny_bind (wpAny_loadPart ho ?_)
  obtain ⟨oc, od, dat, sl⟩ := o
  cases dat <;> first | exact wpAny_pure h | exact absurd rfl (hnc _)
theorem check_bound {w : World} {A : Around} {E : Value → Shared → Prop} {s : Shared} {T id : String} {a : Addr} {rest : List Value} {Q : Unit → Shared → Prop} (hk : builtinKind id = some .method) (hva : Manifest.varargsMethods.contains id = false)
    (hmod : isSubtype (.type T) (.type "module") = pure false) {o : Obj} (ho : s.heap.get? a = some o) (hc : o.cls = .type T) (hnc : ∀ c, o.data ≠ .cls c)
    (args : (match Manifest.signature? id with | some sig => Bind.checkArgs id { sig with full := s!"{Bind.lastOf T}.{Bind.lastOf id}" } ⟨.ref a :: rest, []⟩ | none => unsupported "") = pure ()) (h : Q () s) :
    wpAny (model pw w) A (checkBoundCall id ⟨.ref a :: rest, []⟩) Q E s := by
  have hT : s.TypeIs (.ref a) T := ⟨o, ho, hc⟩
  unfold checkBoundCall
  cases hs : Manifest.signature? id with
  | none => exact wpAny_pure h
  | some sig =>
    rw [hs] at args
    dsimp only at args ⊢
    rw [hk]
    dsimp only
    rw [if_neg (by decide)]
    refine wpAny_bind (wpAny_isInstance hT hmod ?_)
    rw [hva]
    rw [if_neg (by decide)]
    refine wpAny_bind (isType_not ho hnc ?_)
    rw [if_neg Bool.false_ne_true]
    refine wpAny_bind (wpAny_typeOf hT ?_)
    dsimp only
    exact wpAny_of_eq args h
theorem call_bound {w : World} {A : Around} {E : Value → Shared → Prop} {s : Shared} {T id : String} {B : Builtin} {a c : Addr} {rest : List Value} {S : PySem.Spec} {Q : Value → Shared → Prop} (hk : builtinKind id = some .method) (hva : Manifest.varargsMethods.contains id = false)
    (hpl : plainId id = true) (hmod : isSubtype (.type T) (.type "module") = pure false) {o : Obj} (ho : s.heap.get? a = some o) (hc : o.cls = .type T) (hnc : ∀ c, o.data ≠ .cls c)
    (hb : s.heap.get? c = some (boundObj id a)) (entry : entryFor table id = some B)
    (args : (match Manifest.signature? id with | some sig => Bind.checkArgs id { sig with full := s!"{Bind.lastOf T}.{Bind.lastOf id}" } ⟨.ref a :: rest, []⟩ | none => unsupported "") = pure ())
    (g : MeetsIn pw w (B ⟨.ref a :: rest, []⟩) S) (h : S A (wants Q E) s) : wpAny (model pw w) A (call (.ref c) rest) Q E s := by
  refine wpAny_call (codeAny_of_tree ?_)
  show wpAny _ A.in1 (callAny (.ref c) ⟨rest, []⟩) _ _ s
  unfold callAny
  refine wpAny_bind (wpAny_load hb ?_)
  dsimp only
  rw [if_pos (by decide)]
  show wpAny _ _ (if (Value.type "builtin_function_or_method" != Value.type "method") = true then _ else _) _ _ s
  rw [if_pos (by decide)]
  refine wpAny_bind (check_bound hk hva hmod ho hc hnc args ?_)
  refine wpAny_pure ⟨plainId_quiet hpl _, codeAny_builtin entry ?_⟩
  rw [Around.under_plainId hpl]
  exact g A (wants Q E) s h
/-- dict.get, bound, is called with a default -/
theorem call_get {w : World} {A : Around} {E : Value → Shared → Prop} {s : Shared} {K : Type} [DecidableEq K] {knd : KeyKind pw w K} {k : K} {key dflt : Value} {d c : Addr} {f : K → Option Value} {Q : Value → Shared → Prop}
    (hb : s.heap.get? c = some (boundObj "dict.get" d)) (hkey : knd.is k key = true) (hd : (d == sysModules) = false) (hm : s.heap.MapOf knd d f) (h : Q ((f k).getD dflt) { s with toks := s.toks + 1 }) :
    wpAny (model pw w) A (call (.ref c) [key, dflt]) Q E s := by
  obtain ⟨o, es, ep, ho, hx, hdat, _⟩ := id hm
  exact call_bound BM.kind_get BM.va_get BM.plain_get BM.mod_dict ho hx.1 (fun c e => by rw [hdat] at e; cases e) hb F.entry_dict_get (BM.args_get3 _ _ _) (meets_dict_get_default knd d hkey hd dflt) ⟨f, hm, h⟩
theorem meets_contains {w : World} {K : Type} [DecidableEq K] {knd : KeyKind pw w K} {a : Addr} {k : K} {key : Value} (hkey : knd.is k key = true) (hsc : key.scannable = true) :
    MeetsIn pw w (Builtin.«frozenset.__contains__» ⟨[.ref a, key], []⟩) (fun _ R s => ∃ S n, s.heap.SetOf knd a S n ∧ R (.ok (.ret (.bool (S k)))) { s with toks := s.toks + 1 }) :=
  .of_wp fun A R s ⟨S, n, hS, h⟩ => by
    unfold Builtin.«frozenset.__contains__» Builtin.Frozenset.oneOther
    refine wpAny_bind ?_
    show wpAny _ _ (Builtin.Frozenset.addrOf (.ref a) >>= fun d => pure (d, key)) _ _ _
    unfold Builtin.Frozenset.addrOf Builtin.Frozenset.withSetAsKey setContains
    refine wpAny_bind (wpAny_pure (wpAny_pure ?_))
    dsimp only
    refine wpAny_bind (wpAny_tryCatch ?_)
    refine wpAny_holding ?_
    refine wpAny_bind (knd.pyHash hkey ?_)
    refine wpAny_bind (wpAny_setFind_of (s := { s with toks := s.toks + 1 }) hkey hsc hS fun r hr => ?_)
    refine wpAny_pure ?_
    show wpAny _ _ (ret (Value.bool r.isSome)) _ _ _
    rw [hr]
    exact wpAny_pure ⟨_, rfl, h⟩
/-- set.__contains__, bound, is called -/
theorem call_contains {w : World} {A : Around} {E : Value → Shared → Prop} {s : Shared} {K : Type} [DecidableEq K] {knd : KeyKind pw w K} {k : K} {key : Value} {d c : Addr} {S : K → Bool} {n : Nat} {Q : Value → Shared → Prop}
    (hb : s.heap.get? c = some (boundObj "set.__contains__" d)) (hkey : knd.is k key = true) (hsc : key.scannable = true) (hS : s.heap.SetOf knd d S n) (h : Q (.bool (S k)) { s with toks := s.toks + 1 }) :
    wpAny (model pw w) A (call (.ref c) [key]) Q E s := by
  obtain ⟨o, es, ep, tb, ho, hx, hdat, hr⟩ := id hS
  exact call_bound BM.kind_contains BM.va_contains BM.plain_contains BM.mod_set ho hx.1 (fun c e => by rw [hdat] at e; cases e) hb entry_set_contains (BM.args_contains _ _) (meets_contains hkey hsc) ⟨S, n, hS, h⟩
theorem callWith_b {w : World} {A : Around} {E : Value → Shared → Prop} {s : Shared} {pos : Pos} {u a : Addr} {id : String} {env : Env} {e : Expr} {rest : List Expr} {Q : Value → Shared → Prop}
    (h : wpAny (model pw w) A (spliced (backTo pos (starEach (e :: rest) env))) (fun vs s₁ => s₁.heap.get? u = some (boundObj id a) ∧ wpAny (model pw w) A (call (.ref u) vs) Q E s₁) E s)
    (he : starEach (e :: rest) env = (false, eval e env) :: starEach rest env := by rfl) (hplain : (backTo pos (starEach rest env)).any (·.1) = false := by rfl) :
    wpAny (model pw w) A (callWith pos (.ref u) [] (backTo pos (starEach (e :: rest) env)) []) Q E s := by
  have hp : (backTo pos (starEach (e :: rest) env)).any (·.1) = false := by rw [he]; show (false || (backTo pos (starEach rest env)).any (·.1)) = false; rw [hplain]; rfl
  unfold callWith
  refine wpAny_bind (wpAny_holding ?_)
  rw [he] at h hp ⊢
  refine evalArgs_plain (wpAny_mono h (fun vs s₁ h₁ => ?_) fun _ _ x => x)
  refine wpAny_bind (wpAny_standAt ?_)
  obtain ⟨ho, hcall⟩ := h₁
  dsimp only
  rw [hp]
  refine wpAny_bind (m := keeperOf (.ref u)) ?_
  unfold keeperOf
  refine wpAny_bind (wpAny_load ho ?_)
  dsimp only [boundObj]
  rw [if_pos (by decide), if_pos (by decide)]
  refine wpAny_pure ?_
  exact wpAny_bind (wpAny_mono hcall (fun r s₂ hr => wpAny_bind (wpAny_holding (wpAny_point (wpAny_pure hr)))) fun _ _ x => x)
end Mine
end
section
open PySem PySem.W PyProof.Rows PySem.Calls PySem.Spec
set_option Elab.async false
set_option maxRecDepth 1000000
set_option maxHeartbeats 8000000
namespace Mine
theorem regFI (P : Params) : K P = [] ∨ PySem.Challenge.rw_kl0396_01.name = PySem.Challenge.rw_kl0396_01.name := by
  k_fill
  exact .inr rfl
local macro_rules | `(tactic| walk_at $s:str) => stopAt "exec For Name Call cons nil|exec For Name Name cons nil|exec While|pyIter ref|call ref|callWith ref|setItem ref int|call builtin:dict.get" s
noncomputable abbrev flmSt (i : Nat) : Stmt := sub (sub (top 5) 6) i
noncomputable abbrev flmEnv (L : Addr) : Env := envX "SequenceMatcher.find_longest_match" (scopeAt (sub (top 5) 6)) L 196 (.ref 195) []
noncomputable abbrev flmInner : List Stmt := bodyAt ((bodyAt (flmSt 7)).getD 2 (.Pass default))
theorem flm_inner {w : World} {dp un : Nat} {fr : Option (List Env)} {gd : Option (List Code)} {s : Shared} {g : Heap} {mg mb : Str → Option Value} {L : Addr} {m : Str → Option Value} {nd c2 d : Addr} {ond od : Obj} {rest : List (Addr × Obj)}
    {kvs kvs' : List (Int × Value)} {i j blo bhi bi bj bs r : Int} {ti tj t1 t2 t3 t4 t5 : Tok} {Q : Flow → Shared → Prop}
    (X : (K w.params).In g) (T : TopRead q (looseW q loose) mg mb g)
    (F : Fr g L s.heap (fun y => if y = "j" then some (.int j tj) else ov [("blo", .int blo t1), ("bhi", .int bhi t2), ("newj2len", .ref nd), ("j2lenget", .ref c2), ("i", .int i ti), ("besti", .int bi t3), ("bestj", .int bj t4), ("bestsize", .int bs t5)] m y))
    (N : News g L s.heap ((nd, ond) :: (c2, boundObj "dict.get" d) :: (d, od) :: rest)) (hnd : nd ≠ c2 ∧ nd ≠ d ∧ ∀ p ∈ rest, p.1 ≠ nd)
    (hod : od.IsDictOf (intKind pw w) kvs) (hlo : (d == sysModules) = false) (hond : ond.IsDictOf (intKind pw w) kvs') (hr : 0 ≤ r ∧ r < 2 ^ 60) (hj : 0 ≤ j ∧ j < 2 ^ 60) (hi : 0 ≤ i ∧ i < 2 ^ 60) (hsz : kvs'.length ≤ sizeLine)
    (hprev : ∀ t, ∃ t', (valueAt kvs (j - 1)).getD (.int 0 t) = .int r t')
    (h1 : j < blo → ∀ tk, Q .cont { s with toks := tk }) (h2 : blo ≤ j → bhi ≤ j → ∀ tk, Q .brk { s with toks := tk })
    (h3 : blo ≤ j → j < bhi → ∀ h' tk ond' m' tv, Fr g L h' m' → (∃ u3 u4 u5, HasL m' [("blo", .int blo t1), ("bhi", .int bhi t2), ("newj2len", .ref nd), ("j2lenget", .ref c2), ("i", .int i ti),
        ("besti", .int (if bs < r + 1 then i - (r + 1) + 1 else bi) u3), ("bestj", .int (if bs < r + 1 then j - (r + 1) + 1 else bj) u4), ("bestsize", .int (if bs < r + 1 then r + 1 else bs) u5)]) →
      (∀ y, y ∉ (["j", "k", "besti", "bestj", "bestsize"] : List Str) → m' y = ov [("blo", .int blo t1), ("bhi", .int bhi t2), ("newj2len", .ref nd), ("j2lenget", .ref c2), ("i", .int i ti), ("besti", .int bi t3), ("bestj", .int bj t4), ("bestsize", .int bs t5)] m y) →
      News g L h' ((nd, ond') :: (c2, boundObj "dict.get" d) :: (d, od) :: rest) → ond'.IsDictOf (intKind pw w) (stored kvs' j (.int (r + 1) tv)) → Q .next { s with heap := h', toks := tk }) :
    wpAny (model pw w) ((AR dp un fr gd).deeper (flmEnv L)) (execs flmInner (flmEnv L)) Q (fun _ _ => False) s := by
  conv in execs _ _ => arg 1; whnf
  delta flmEnv
  conv in (occs := *) envX _ _ _ _ _ _ => all_goals (arg 2; whnf)
  k_steps
  · exact h1 (by assumption) _
  · exact h2 (by omega) (by omega) _
  refine Stop.intro ?_
  refine callWith_b (id := "dict.get") (a := d) ?_
  k_steps
  · exact News.get (by k_asm) (by k_mem)
  refine Stop.intro ?_
  refine call_get (News.get (by k_asm) (by k_mem)) (intKind_is pw w _ _) hlo (Heap.DictOf.mapOf (Heap.dictOf_iff.mpr ⟨od, News.get (by k_asm) (by k_mem), hod⟩)) ?_
  obtain ⟨t', e⟩ := hprev _
  rw [e]
  k_steps
  refine Stop.intro ?_
  rename_i F' N'
  refine setI (own := []) (intKind_is pw w _ _) F' N' (fun _ hp => nomatch hp) ?_ hond hsz ?_
  · intro p hp
    rcases List.mem_cons.mp hp with rfl | hp
    · exact fun e => hnd.1 e.symm
    · rcases List.mem_cons.mp hp with rfl | hp
      · exact fun e => hnd.2.1 e.symm
      · exact hnd.2.2 p hp
  intro h' o' F'' N'' ho'
  k_steps
  · refine h3 (by omega) (by omega) _ _ o' _ _ (by assumption) ?hl ?hf (News.sub (by assumption) ?hs) ho'
    case hl =>
      rw [if_pos (by omega), if_pos (by omega), if_pos (by omega)]
      exact ⟨_, _, _, rfl, rfl, rfl, rfl, rfl, rfl, rfl, rfl, trivial⟩
    case hf =>
      intro y hy
      simp only [List.mem_cons, List.not_mem_nil, or_false, not_or] at hy
      simp only [if_neg hy.1, if_neg hy.2.1, if_neg hy.2.2.1, if_neg hy.2.2.2.1, if_neg hy.2.2.2.2]
    case hs => intro p hp; exact List.mem_cons_of_mem _ hp
  · refine h3 (by omega) (by omega) _ _ o' _ _ (by assumption) ?hl ?hf (by assumption) ho'
    case hl =>
      rw [if_neg (by omega), if_neg (by omega), if_neg (by omega)]
      exact ⟨_, _, _, rfl, rfl, rfl, rfl, rfl, rfl, rfl, rfl, trivial⟩
    case hf =>
      intro y hy
      simp only [List.mem_cons, List.not_mem_nil, or_false, not_or] at hy
      simp only [if_neg hy.1, if_neg hy.2.1, if_neg hy.2.2.1, if_neg hy.2.2.2.1, if_neg hy.2.2.2.2]
end Mine
end
section
set_option maxRecDepth 100000
namespace Mine
open PySem
/-! ## what find_longest_match reckons, in plain words -/
noncomputable def ch (x : Str) (i : Nat) : Nat := x.cps.getD i 0
section
variable (a b : Str) (jk : Nat → Bool) (alo blo bhi : Nat)
/-- the two signs meet, and are no junk -/
noncomputable def eqv (i j : Nat) : Bool := ch a i == ch b j && !jk (ch b j)
/-- the longest junk-free match that ends with the signs i and j -/
noncomputable def suf : Nat → Nat → Nat
  | 0, j => if alo ≤ 0 ∧ blo ≤ j ∧ eqv a b jk 0 j = true then 1 else 0
  | i + 1, 0 => if alo ≤ i + 1 ∧ blo ≤ 0 ∧ eqv a b jk (i + 1) 0 = true then 1 else 0
  | i + 1, j + 1 => if alo ≤ i + 1 ∧ blo ≤ j + 1 ∧ eqv a b jk (i + 1) (j + 1) = true then 1 + suf i j else 0
theorem suf_0 {j : Nat} : suf a b jk alo blo 0 j = if alo ≤ 0 ∧ blo ≤ j ∧ eqv a b jk 0 j = true then 1 else 0 := rfl
theorem suf_s0 {i : Nat} : suf a b jk alo blo (i + 1) 0 = if alo ≤ i + 1 ∧ blo ≤ 0 ∧ eqv a b jk (i + 1) 0 = true then 1 else 0 := rfl
theorem suf_ss {i j : Nat} : suf a b jk alo blo (i + 1) (j + 1) = if alo ≤ i + 1 ∧ blo ≤ j + 1 ∧ eqv a b jk (i + 1) (j + 1) = true then 1 + suf a b jk alo blo i j else 0 := rfl
theorem suf_low_i {i j : Nat} (h : i < alo) : suf a b jk alo blo i j = 0 := by
  cases i <;> cases j <;> simp only [suf_0, suf_s0, suf_ss] <;> rw [if_neg] <;> lia
theorem suf_low_j {i j : Nat} (h : j < blo) : suf a b jk alo blo i j = 0 := by
  cases i <;> cases j <;> simp only [suf_0, suf_s0, suf_ss] <;> rw [if_neg] <;> lia
theorem suf_ne {i j : Nat} (h : eqv a b jk i j = false) : suf a b jk alo blo i j = 0 := by
  cases i <;> cases j <;> simp only [suf_0, suf_s0, suf_ss] <;> rw [if_neg] <;> (rw [h]; simp)
theorem suf_eq {i j : Nat} (hi : alo ≤ i) (hj : blo ≤ j) (h : eqv a b jk i j = true) : suf a b jk alo blo i j = (if i = 0 ∨ j = 0 then 0 else suf a b jk alo blo (i - 1) (j - 1)) + 1 := by
  cases i with
  | zero => simp only [suf_0, suf_s0, suf_ss]; rw [if_pos ⟨hi, hj, h⟩]; simp
  | succ i => cases j with
    | zero => simp only [suf_0, suf_s0, suf_ss]; rw [if_pos ⟨hi, hj, h⟩]; simp
    | succ j => simp only [suf_0, suf_s0, suf_ss]; rw [if_pos ⟨hi, hj, h⟩, if_neg (by lia)]; simp only [Nat.add_sub_cancel]; lia
theorem suf_le_i : ∀ (i j : Nat), suf a b jk alo blo i j ≤ i + 1
  | 0, j => by simp only [suf_0, suf_s0, suf_ss]; split <;> lia
  | i + 1, 0 => by simp only [suf_0, suf_s0, suf_ss]; split <;> lia
  | i + 1, j + 1 => by simp only [suf_0, suf_s0, suf_ss]; split; (have := suf_le_i i j; lia); lia
/-- the best of the ends in S -/
noncomputable def Best (S : Nat → Nat → Prop) (bi bj bs : Int) : Prop :=
  (bs = 0 ∧ bi = alo ∧ bj = blo ∧ ∀ i j, S i j → suf a b jk alo blo i j = 0) ∨
  (0 < bs ∧ ∃ ei ej, S ei ej ∧ (suf a b jk alo blo ei ej : Int) = bs ∧ bi = ei - bs + 1 ∧ bj = ej - bs + 1 ∧
    ∀ i j, S i j → (suf a b jk alo blo i j : Int) ≤ bs ∧ ((suf a b jk alo blo i j : Int) = bs → ei < i ∨ (ei = i ∧ ej ≤ j)))
theorem Best.ext {S S' : Nat → Nat → Prop} {bi bj bs : Int} (h : Best a b jk alo blo S bi bj bs) (h1 : ∀ i j, S i j → S' i j) (h2 : ∀ i j, S' i j → S i j ∨ suf a b jk alo blo i j = 0) : Best a b jk alo blo S' bi bj bs := by
  rcases h with ⟨e0, e1, e2, e3⟩ | ⟨p, ei, ej, s, e1, e2, e3, e4⟩
  · exact .inl ⟨e0, e1, e2, fun i j hs => (h2 i j hs).elim (e3 i j) id⟩
  · refine .inr ⟨p, ei, ej, h1 _ _ s, e1, e2, e3, fun i j hs => ?_⟩
    rcases h2 i j hs with h | h
    · exact e4 i j h
    · rw [h]; exact ⟨by lia, fun e => by lia⟩
theorem Best.step {S : Nat → Nat → Prop} {bi bj bs : Int} {i j : Nat} (h : Best a b jk alo blo S bi bj bs) (hl : ∀ i' j', S i' j' → i' < i ∨ (i' = i ∧ j' < j)) :
    Best a b jk alo blo (fun i' j' => S i' j' ∨ (i' = i ∧ j' = j)) (if bs < (suf a b jk alo blo i j : Int) then i - (suf a b jk alo blo i j : Int) + 1 else bi)
      (if bs < (suf a b jk alo blo i j : Int) then j - (suf a b jk alo blo i j : Int) + 1 else bj) (if bs < (suf a b jk alo blo i j : Int) then (suf a b jk alo blo i j : Int) else bs) := by
  by_cases hb : bs < (suf a b jk alo blo i j : Int)
  · simp only [if_pos hb]
    have hp : 0 ≤ bs := by rcases h with ⟨e0, _⟩ | ⟨p, _⟩ <;> lia
    refine .inr ⟨by lia, i, j, .inr ⟨rfl, rfl⟩, rfl, rfl, rfl, ?_⟩
    rintro i' j' (hs | ⟨rfl, rfl⟩)
    · have : (suf a b jk alo blo i' j' : Int) ≤ bs := by
        rcases h with ⟨e0, _, _, e3⟩ | ⟨p, ei, ej, s, e1, e2, e3, e4⟩
        · rw [e3 _ _ hs]; lia
        · exact (e4 _ _ hs).1
      exact ⟨by lia, fun e => by lia⟩
    · exact ⟨by lia, fun _ => .inr ⟨rfl, Nat.le_refl _⟩⟩
  · simp only [if_neg hb]
    rcases h with ⟨e0, e1, e2, e3⟩ | ⟨p, ei, ej, s, e1, e2, e3, e4⟩
    · refine .inl ⟨e0, e1, e2, ?_⟩
      rintro i' j' (hs | ⟨rfl, rfl⟩)
      · exact e3 _ _ hs
      · lia
    · refine .inr ⟨p, ei, ej, .inl s, e1, e2, e3, ?_⟩
      rintro i' j' (hs | ⟨rfl, rfl⟩)
      · exact e4 _ _ hs
      · refine ⟨by lia, fun _ => ?_⟩
        have := hl _ _ s
        lia
end
/-- the places of a sign, rising -/
noncomputable def poss (b : Str) (c : Nat) : List Nat := (List.range b.cps.size).filter fun j => ch b j == c
theorem mem_poss {b : Str} {c j : Nat} : j ∈ poss b c ↔ j < b.cps.size ∧ ch b j = c := by
  unfold poss; rw [List.mem_filter, List.mem_range, beq_iff_eq]
theorem poss_sorted (b : Str) (c : Nat) : (poss b c).Pairwise (· < ·) := (List.pairwise_lt_range).filter _
end Mine
end
section
set_option maxRecDepth 100000
namespace Mine
open PySem
section
variable {a b : Str} {jk : Nat → Bool} {alo blo bhi i t jt : Nat} {js : List Nat}
/-- the part of a row that is done -/
noncomputable def rowPart (a b : Str) (jk : Nat → Bool) (alo blo bhi i : Nat) (js : List Nat) (t : Nat) (j : Int) : Int :=
  if 0 ≤ j ∧ j < bhi ∧ (∃ u, u < t ∧ js[u]? = some j.toNat) then suf a b jk alo blo i j.toNat else 0
noncomputable def rowAll (a b : Str) (jk : Nat → Bool) (alo blo bhi i : Nat) (j : Int) : Int := if 0 ≤ j ∧ j < bhi then suf a b jk alo blo i j.toNat else 0
noncomputable def partS (bhi i : Nat) (js : List Nat) (t : Nat) (i' j' : Nat) : Prop := (i' < i ∧ j' < bhi) ∨ (i' = i ∧ j' < bhi ∧ ∃ u, u < t ∧ js[u]? = some j')
noncomputable def allS (bhi i : Nat) (i' j' : Nat) : Prop := i' < i ∧ j' < bhi
theorem rowPart_zero (j : Int) : rowPart a b jk alo blo bhi i js 0 j = 0 := by
  unfold rowPart; rw [if_neg]; rintro ⟨_, _, u, hu, _⟩; lia
theorem suf_off (hall : ∀ j, j < b.cps.size → eqv a b jk i j = true → j ∈ js) (hb : bhi ≤ b.cps.size) (hge : ∀ u j, t ≤ u → js[u]? = some j → bhi ≤ j) {j : Nat} (hj : j < bhi) (hno : ¬ ∃ u, u < t ∧ js[u]? = some j) : suf a b jk alo blo i j = 0 := by
  refine suf_ne a b jk alo blo ?_
  cases he : eqv a b jk i j with
  | false => rfl
  | true =>
    exfalso
    obtain ⟨u, hu⟩ := List.mem_iff_getElem?.mp (hall j (by lia) he)
    by_cases h : u < t
    · exact hno ⟨u, h, hu⟩
    · have := hge u j (by lia) hu; lia
theorem rowPart_fin (hall : ∀ j, j < b.cps.size → eqv a b jk i j = true → j ∈ js) (hb : bhi ≤ b.cps.size) (hge : ∀ u j, t ≤ u → js[u]? = some j → bhi ≤ j) (j : Int) : rowPart a b jk alo blo bhi i js t j = rowAll a b jk alo blo bhi i j := by
  unfold rowPart rowAll
  by_cases h1 : 0 ≤ j ∧ j < bhi
  · rw [if_pos h1]
    by_cases h2 : ∃ u, u < t ∧ js[u]? = some j.toNat
    · rw [if_pos ⟨h1.1, h1.2, h2⟩]
    · rw [if_neg fun h => h2 h.2.2, suf_off hall hb hge (by lia) h2]; rfl
  · rw [if_neg h1, if_neg fun h => h1 ⟨h.1, h.2.1⟩]
theorem partS_fin (hall : ∀ j, j < b.cps.size → eqv a b jk i j = true → j ∈ js) (hb : bhi ≤ b.cps.size) (hge : ∀ u j, t ≤ u → js[u]? = some j → bhi ≤ j) {bi bj bs : Int} (h : Best a b jk alo blo (partS bhi i js t) bi bj bs) :
    Best a b jk alo blo (allS bhi (i + 1)) bi bj bs := by
  refine h.ext a b jk alo blo (fun i' j' h => ?_) fun i' j' h => ?_
  · rcases h with ⟨h1, h2⟩ | ⟨h1, h2, _⟩
    · exact ⟨by lia, h2⟩
    · exact ⟨by lia, h2⟩
  · by_cases hi : i' = i
    · subst hi
      by_cases h2 : ∃ u, u < t ∧ js[u]? = some j'
      · exact .inl (.inr ⟨rfl, h.2, h2⟩)
      · exact .inr (suf_off hall hb hge h.2 h2)
    · exact .inl (.inl ⟨by have := h.1; lia, h.2⟩)
theorem lt_succ_or {P : Nat → Prop} : (∃ u, u < t + 1 ∧ P u) ↔ (∃ u, u < t ∧ P u) ∨ P t := by
  constructor
  · rintro ⟨u, hu, h⟩
    by_cases e : u = t
    · subst e; exact .inr h
    · exact .inl ⟨u, by lia, h⟩
  · rintro (⟨u, hu, h⟩ | h)
    · exact ⟨u, by lia, h⟩
    · exact ⟨t, by lia, h⟩
/-- a place below blo adds nothing -/
theorem rowPart_low (ht : js[t]? = some jt) (hlow : jt < blo) (j : Int) : rowPart a b jk alo blo bhi i js (t + 1) j = rowPart a b jk alo blo bhi i js t j := by
  unfold rowPart
  by_cases h1 : 0 ≤ j ∧ j < bhi
  · by_cases h2 : ∃ u, u < t ∧ js[u]? = some j.toNat
    · rw [if_pos ⟨h1.1, h1.2, lt_succ_or.mpr (.inl h2)⟩, if_pos ⟨h1.1, h1.2, h2⟩]
    · rw [if_neg (c := 0 ≤ j ∧ j < bhi ∧ ∃ u, u < t ∧ js[u]? = some j.toNat) fun h => h2 h.2.2]
      split
      · rename_i h
        rcases lt_succ_or.mp h.2.2 with h' | h'
        · exact absurd h' h2
        · rw [ht] at h'
          rw [← Option.some.inj h', suf_low_j a b jk alo blo hlow]; rfl
      · rfl
  · rw [if_neg fun h => h1 ⟨h.1, h.2.1⟩, if_neg fun h => h1 ⟨h.1, h.2.1⟩]
theorem partS_low (ht : js[t]? = some jt) (hlow : jt < blo) {bi bj bs : Int} (h : Best a b jk alo blo (partS bhi i js t) bi bj bs) : Best a b jk alo blo (partS bhi i js (t + 1)) bi bj bs := by
  refine h.ext a b jk alo blo (fun i' j' h => ?_) fun i' j' h => ?_
  · exact h.imp id fun ⟨h1, h2, h3⟩ => ⟨h1, h2, lt_succ_or.mpr (.inl h3)⟩
  · rcases h with h | ⟨h1, h2, h3⟩
    · exact .inl (.inl h)
    · rcases lt_succ_or.mp h3 with h' | h'
      · exact .inl (.inr ⟨h1, h2, h'⟩)
      · rw [ht] at h'
        exact .inr (by rw [← Option.some.inj h']; exact suf_low_j a b jk alo blo hlow)
/-- a place in the range -/
theorem rowPart_in (ht : js[t]? = some jt) (hhi : jt < bhi) (j : Int) : rowPart a b jk alo blo bhi i js (t + 1) j = if j = jt then (suf a b jk alo blo i jt : Int) else rowPart a b jk alo blo bhi i js t j := by
  by_cases e : j = jt
  · subst e
    rw [if_pos rfl]
    unfold rowPart
    rw [if_pos ⟨by lia, by lia, t, by lia, by simpa using ht⟩]; simp
  · rw [if_neg e]
    unfold rowPart
    by_cases h1 : 0 ≤ j ∧ j < bhi
    · by_cases h2 : ∃ u, u < t ∧ js[u]? = some j.toNat
      · rw [if_pos ⟨h1.1, h1.2, lt_succ_or.mpr (.inl h2)⟩, if_pos ⟨h1.1, h1.2, h2⟩]
      · rw [if_neg (c := 0 ≤ j ∧ j < bhi ∧ ∃ u, u < t ∧ js[u]? = some j.toNat) fun h => h2 h.2.2, if_neg]
        intro h
        rcases lt_succ_or.mp h.2.2 with h' | h'
        · exact h2 h'
        · rw [ht] at h'
          have := Option.some.inj h'; lia
    · rw [if_neg fun h => h1 ⟨h.1, h.2.1⟩, if_neg fun h => h1 ⟨h.1, h.2.1⟩]
theorem sorted_lt (hs : js.Pairwise (· < ·)) {u v x y : Nat} (hu : js[u]? = some x) (hv : js[v]? = some y) (h : u < v) : x < y := by
  obtain ⟨h1, e1⟩ := List.getElem?_eq_some_iff.mp hu
  obtain ⟨h2, e2⟩ := List.getElem?_eq_some_iff.mp hv
  have := List.pairwise_iff_getElem.mp hs u v h1 h2 h
  rw [e1, e2] at this; exact this
theorem sorted_ge (hs : js.Pairwise (· < ·)) : ∀ {t x : Nat}, js[t]? = some x → t ≤ x
  | 0, _, _ => Nat.zero_le _
  | t + 1, x, h => by
    have h1 := (List.getElem?_eq_some_iff.mp h).1
    have h2 : js[t]? = some js[t] := List.getElem?_eq_getElem (by lia)
    have := sorted_ge hs h2
    have := sorted_lt hs h2 h (by lia)
    lia
theorem partS_in (hs : js.Pairwise (· < ·)) (ht : js[t]? = some jt) (hhi : jt < bhi) {bi bj bs : Int} (h : Best a b jk alo blo (partS bhi i js t) bi bj bs) :
    Best a b jk alo blo (partS bhi i js (t + 1)) (if bs < (suf a b jk alo blo i jt : Int) then i - (suf a b jk alo blo i jt : Int) + 1 else bi)
      (if bs < (suf a b jk alo blo i jt : Int) then jt - (suf a b jk alo blo i jt : Int) + 1 else bj) (if bs < (suf a b jk alo blo i jt : Int) then (suf a b jk alo blo i jt : Int) else bs) := by
  refine (h.step a b jk alo blo (i := i) (j := jt) fun i' j' h => ?_).ext a b jk alo blo (fun i' j' h => ?_) fun i' j' h => .inl ?_
  · rcases h with h | ⟨h1, h2, u, hu, h3⟩
    · exact .inl h.1
    · exact .inr ⟨h1, sorted_lt hs h3 ht hu⟩
  · rcases h with (h | ⟨h1, h2, h3⟩) | ⟨rfl, rfl⟩
    · exact .inl h
    · exact .inr ⟨h1, h2, lt_succ_or.mpr (.inl h3)⟩
    · exact .inr ⟨rfl, hhi, t, by lia, ht⟩
  · rcases h with h | ⟨h1, h2, h3⟩
    · exact .inl (.inl h)
    · rcases lt_succ_or.mp h3 with h' | h'
      · exact .inl (.inr ⟨h1, h2, h'⟩)
      · rw [ht] at h'; exact .inr ⟨h1, (Option.some.inj h').symm⟩
end
end Mine
end
section
open PySem PySem.W PyProof.Rows PySem.Calls PySem.Spec
set_option Elab.async false
set_option maxRecDepth 1000000
set_option maxHeartbeats 8000000
namespace Mine
theorem regFO (P : Params) : K P = [] ∨ PySem.Challenge.rw_kl0396_01.name = PySem.Challenge.rw_kl0396_01.name := by
  k_fill
  exact .inr rfl
local macro_rules | `(tactic| walk_at $s:str) => stopAt "exec For Name Call cons nil" s
local macro_rules | `(tactic| walk_at $s:str) => stopAt "exec For Name Name cons nil|exec While|pyIter ref|call ref|callWith ref|setItem ref int|call builtin:dict.get|getMethod ref|getAttr ref" s
/-- what b2j tells of b -/
noncomputable def B2J (w : World) (g : Heap) (db : Addr) (b : Str) (jk : Nat → Bool) : Prop :=
  (db == sysModules) = false ∧ ∃ f, g.MapOf (strKind pw w) db f ∧ ∀ c : Nat, (jk c = false ∧ ∃ l vs, f ⟨#[c]⟩ = some (.ref l) ∧ g.IsList l vs.toArray ∧ IntsAre vs ((poss b c).map Int.ofNat)) ∨ ((jk c = true ∨ poss b c = []) ∧ f ⟨#[c]⟩ = none)
noncomputable abbrev flmOuter : List Stmt := bodyAt (flmSt 7)
theorem mapOf_at {prog : Program} {w : World} {K : Type} [DecidableEq K] {knd : KeyKind prog w K} {h h' : Heap} {a : Addr} {f : K → Option Value} (x : h.MapOf knd a f) (hk : ∀ b o, h.get? b = some o → h'.get? b = some o) : h'.MapOf knd a f := by
  obtain ⟨o, es, ep, ho, r⟩ := x
  exact ⟨o, es, ep, hk _ _ ho, r⟩
/-- d.get, d a dict in the ledger -/
theorem get_attrN {w : World} {A : Around} {E : Value → Shared → Prop} {s : Shared} {K : Type} [DecidableEq K] {knd : KeyKind pw w K} {g : Heap} {L : Addr} {m : Str → Option Value} {news : List (Addr × Obj)} {d : Addr} {od : Obj} {kvs : List (K × Value)} {Q : Value → Shared → Prop}
    (F : Fr g L s.heap m) (N : News g L s.heap news) (hm : (d, od) ∈ news) (hd : od.IsDictOf knd kvs)
    (h : ∀ c h', Fr g L h' m → News g L h' ((c, boundObj "dict.get" d) :: news) → (∀ p ∈ news, p.1 < c) → Q (.ref c) { s with heap := h', toks := s.toks + 1 }) :
    wpAny (model pw w) A (getAttr (.ref d) "get" true) Q E s := by
  obtain ⟨es, ep, hx, hdat, _⟩ := id hd
  obtain ⟨c, dd, dt, sl⟩ := od
  obtain ⟨hc, hdd, hsl⟩ := hx
  simp only at hc hdd hsl hdat
  subst hc hdd hsl hdat
  exact getAttr_dict_get (N.get hm) (h _ _ (F.push _) (News.push F N _) fun p hp => Heap.lt_size (N p hp).1)
theorem getMethod_dict {w : World} {A : Around} {E : Value → Shared → Prop} {s : Shared} {K : Type} [DecidableEq K] {knd : KeyKind pw w K} {a : Addr} {f : K → Option Value} {pl : Sem Bool} {name : Str} {id : String} {Q : Value × List Value → Shared → Prop} (hm : s.heap.MapOf knd a f)
    (hs : Slot "dict" name id) (ht : typeOf (.builtin id) = pure (.type "method_descriptor")) (h : Q (.builtin id, [.ref a]) s) :
    wpAny (model pw w) A (getMethod (.ref a) name pl) Q E s := by
  have hm' := hm
  obtain ⟨o, es, ep, ho, hx, _⟩ := hm'
  exact getMethod_builtin hm.typeIs F.plainAttrs_dict hs ht (fun b e => by injection e with e; subst e; exact ⟨o, ho, hx.2.1⟩) h
theorem call_dget {w : World} {A : Around} {E : Value → Shared → Prop} {s : Shared} {K : Type} [DecidableEq K] {knd : KeyKind pw w K} {k : K} {key dflt : Value} {d : Addr} {f : K → Option Value} {Q : Value → Shared → Prop}
    (hkey : knd.is k key = true) (hd : (d == sysModules) = false) (hm : s.heap.MapOf knd d f) (h : Q ((f k).getD dflt) { s with toks := s.toks + 1 }) :
    wpAny (model pw w) A (call (.builtin "dict.get") [.ref d, key, dflt]) Q E s :=
  call_meetsIn F.slot_dict_get hm.typeIs F.entry_dict_get (F.args_dict_get_3 _ _ _) (meets_dict_get_default knd d hkey hd dflt) ⟨f, hm, h⟩
/-- what a row of lengths tells -/
noncomputable def RowIs (kvs : List (Int × Value)) (f : Int → Int) : Prop := ∀ (j : Int) (t : Tok), ∃ t', (valueAt kvs j).getD (.int 0 t) = .int (f j) t'
theorem valueAt_stored {K : Type} [DecidableEq K] (kvs : List (K × Value)) (k : K) (v : Value) (j : K) : valueAt (stored kvs k v) j = if j = k then some v else valueAt kvs j := by
  unfold valueAt stored
  by_cases hk : (kvs.any fun kv => decide (kv.1 = k)) = true
  · rw [if_pos hk]
    induction kvs with
    | nil => simp at hk
    | cons p r ih =>
      obtain ⟨x, u⟩ := p
      rw [List.map_cons, List.find?_cons, List.find?_cons]
      by_cases hx : x = k
      · subst hx
        by_cases hj : j = x
        · subst hj; simp
        · have hj' : ¬ x = j := fun e => hj e.symm
          simp only [if_true, decide_eq_false hj', if_neg hj]
          by_cases hr : (r.any fun kv => decide (kv.1 = x)) = true
          · have := ih hr
            rw [if_neg hj] at this
            exact this
          · have e : (r.map fun kv => if kv.1 = x then (kv.1, v) else kv) = r := by
              conv => rhs; rw [← List.map_id r]
              refine List.map_congr_left fun q hq => ?_
              rw [if_neg]; rfl
              intro e; exact hr (List.any_eq_true.mpr ⟨q, hq, by simpa using e⟩)
            rw [e]
      · have hr : (r.any fun kv => decide (kv.1 = k)) = true := by simpa [List.any_cons, hx] using hk
        have := ih hr
        simp only [if_neg hx]
        by_cases hj : x = j
        · subst hj; simp [hx]
        · simp only [decide_eq_false hj]; exact this
  · rw [if_neg hk, List.find?_append]
    by_cases hj : j = k
    · subst hj
      have e : (kvs.find? fun kv => decide (kv.1 = j)) = none := by
        rw [List.find?_eq_none]; intro q hq e
        exact hk (List.any_eq_true.mpr ⟨q, hq, e⟩)
      rw [e]; simp
    · have hj' : ¬ k = j := fun e => hj e.symm
      rw [if_neg hj]
      cases h : (kvs.find? fun kv => decide (kv.1 = j)) with
      | some q => simp
      | none => simp [hj']
theorem RowIs.stored {kvs : List (Int × Value)} {f : Int → Int} {k x : Int} {t : Tok} (h : RowIs kvs f) : RowIs (stored kvs k (.int x t)) (fun j => if j = k then x else f j) := fun j t0 => by
  rw [valueAt_stored]
  by_cases hj : j = k
  · simp only [if_pos hj]; exact ⟨t, rfl⟩
  · simp only [if_neg hj]; exact h j t0
theorem RowIs.congr {kvs : List (Int × Value)} {f f' : Int → Int} (h : RowIs kvs f) (e : ∀ j, f j = f' j) : RowIs kvs f' := fun j t => by rw [← e j]; exact h j t
theorem RowIs.nil : RowIs [] (fun _ => 0) := fun _ t => ⟨t, rfl⟩
theorem txt_item {a : Str} {i : Nat} (h : i < a.cps.size) : Txt.item a (i : Int) = ⟨#[ch a i]⟩ := by
  have e : seqIndex? (i : Int) a.length = some i := by
    unfold seqIndex?
    have h' : i < a.length := h
    simp only [if_neg (show ¬ (i : Int) < 0 by lia)]
    rw [if_pos (by simp; lia)]
    simp
  unfold Txt.item Txt.charAt ch
  rw [e]
  simp [h]
noncomputable abbrev outLL (a b : Str) (db l0 d : Addr) (blo bhi : Nat) (bi bj bs : Int) (ta tb t1 t2 t3 t4 t5 : Tok) : List (Str × Value) :=
  [("a", .str a ta), ("b", .str b tb), ("b2j", .ref db), ("nothing", .ref l0), ("j2len", .ref d), ("blo", .int blo t1), ("bhi", .int bhi t2), ("besti", .int bi t3), ("bestj", .int bj t4), ("bestsize", .int bs t5)]
/-- what holds between the turns of the inner loop -/
inductive FoJ (w : World) (m : Str → Option Value) (a b : Str) (jk : Nat → Bool) (db l0 d c d2 : Addr) (od : Obj) (rest : List (Addr × Obj)) (alo i blo bhi : Nat) (ti : Tok) (js : List Nat) (t : Nat) (m₁ : Str → Option Value) (n₁ : List (Addr × Obj)) : Prop
  | mk (ond : Obj) (kvs' : List (Int × Value)) (bi' bj' bs' : Int) (ta tb t1 t2 t3 t4 t5 : Tok) (e : n₁ = (d2, ond) :: (c, boundObj "dict.get" d) :: (d, od) :: rest) (hm : HasL m₁ (("newj2len", .ref d2) :: ("j2lenget", .ref c) :: ("i", .int i ti) :: outLL a b db l0 d blo bhi bi' bj' bs' ta tb t1 t2 t3 t4 t5))
      (hf : ∀ y, y ∉ (["i", "j", "k", "j2lenget", "newj2len", "j2len", "besti", "bestj", "bestsize"] : List Str) → m₁ y = m y) (ho : ond.IsDictOf (intKind pw w) kvs') (hl : kvs'.length ≤ t)
      (hr : RowIs kvs' (rowPart a b jk alo blo bhi i js t)) (hb : Best a b jk alo blo (partS bhi i js t) bi' bj' bs')
inductive FoP (w : World) (m : Str → Option Value) (a b : Str) (jk : Nat → Bool) (db l0 d c d2 : Addr) (od : Obj) (rest : List (Addr × Obj)) (alo i blo bhi : Nat) (ti : Tok) (m₁ : Str → Option Value) (n₁ : List (Addr × Obj)) : Prop
  | mk (ond : Obj) (kvs' : List (Int × Value)) (bi' bj' bs' : Int) (ta tb t1 t2 t3 t4 t5 : Tok) (e : n₁ = (d2, ond) :: (c, boundObj "dict.get" d) :: (d, od) :: rest) (hm : HasL m₁ (("newj2len", .ref d2) :: ("j2lenget", .ref c) :: ("i", .int i ti) :: outLL a b db l0 d blo bhi bi' bj' bs' ta tb t1 t2 t3 t4 t5))
      (hf : ∀ y, y ∉ (["i", "j", "k", "j2lenget", "newj2len", "j2len", "besti", "bestj", "bestsize"] : List Str) → m₁ y = m y) (ho : ond.IsDictOf (intKind pw w) kvs')
      (hr : RowIs kvs' (rowAll a b jk alo blo bhi i)) (hb : Best a b jk alo blo (allS bhi (i + 1)) bi' bj' bs')
theorem flm_outer {w : World} {dp un : Nat} {fr : Option (List Env)} {gd : Option (List Code)} {s : Shared} {g : Heap} {mg mb : Str → Option Value} {L : Addr} {m : Str → Option Value} {d l0 db : Addr} {od : Obj} {rest : List (Addr × Obj)}
    {a b : Str} {jk : Nat → Bool} {kvs : List (Int × Value)} {alo i blo bhi : Nat} {bi bj bs : Int} {ti ta tb t1 t2 t3 t4 t5 : Tok} {prow : Int → Int} {Q : Flow → Shared → Prop}
    (X : (K w.params).In g) (T : TopRead q (looseW q loose) mg mb g) (hB : B2J w g db b jk)
    (F : Fr g L s.heap (fun y => if y = "i" then some (.int i ti) else m y)) (hm : HasL m (outLL a b db l0 d blo bhi bi bj bs ta tb t1 t2 t3 t4 t5))
    (N : News g L s.heap ((d, od) :: (l0, W.listOf #[] 0) :: rest)) (hdis : d ≠ l0 ∧ ∀ p ∈ rest, p.1 ≠ l0) (hod : od.IsDictOf (intKind pw w) kvs) (hlo : (d == sysModules) = false) (hai : alo ≤ i) (hi : i < a.cps.size) (ha : a.cps.size < 1000) (hbhi : bhi ≤ b.cps.size) (hb : b.cps.size < 1000)
    (hrow : RowIs kvs prow) (hprow : ∀ j : Nat, prow j = if i = 0 ∨ ¬ j < bhi then 0 else suf a b jk alo blo (i - 1) j) (hprow' : prow (-1) = 0)
    (hbest : Best a b jk alo blo (allS bhi i) bi bj bs)
    (hQ : ∀ h' tk m' d' od' kvs2 bi' bj' bs' ta tb t1 t2 t3 t4 t5, Fr g L h' m' → HasL m' (outLL a b db l0 d' blo bhi bi' bj' bs' ta tb t1 t2 t3 t4 t5) → (∀ y : Str, y ∉ (["i", "j", "k", "j2lenget", "newj2len", "j2len", "besti", "bestj", "bestsize"] : List Str) → m' y = m y) →
      News g L h' ((d', od') :: (l0, W.listOf #[] 0) :: rest) → od'.IsDictOf (intKind pw w) kvs2 → (d' == sysModules) = false →
      RowIs kvs2 (rowAll a b jk alo blo bhi i) → Best a b jk alo blo (allS bhi (i + 1)) bi' bj' bs' → (∀ p ∈ (d, od) :: (l0, W.listOf #[] 0) :: rest, p.1 < d') →
      Q .next { s with heap := h', toks := tk }) :
    wpAny (model pw w) ((AR dp un fr gd).deeper (flmEnv L)) (execs flmOuter (flmEnv L)) Q (fun _ _ => False) s := by
  have em := ov_of hm
  rw [em] at F
  conv in execs _ _ => arg 1; whnf
  delta flmEnv
  conv in (occs := *) envX _ _ _ _ _ _ => all_goals (arg 2; whnf)
  k_steps
  refine Stop.intro ?_
  refine get_attrN (by k_asm) (by k_asm) (by k_mem) hod ?_
  intro c h' F1 N1 hlt
  k_steps
  refine Stop.intro ?_
  refine For_invVF (by k_asm) (by rfl) (by rfl) ?_
  k_steps
  refine Stop.intro ?_
  obtain ⟨hdb, f, hf, hfc⟩ := hB
  refine getMethod_dict (mapOf_at hf (Fr.keep (by k_asm))) F.slot_dict_get F.type_dict_get ?_
  k_steps
  · have e : a.length = a.cps.size := rfl
    lia
  refine Stop.intro ?_
  rw [txt_item hi]
  refine call_dget (strKind_is pw w _ _) hdb (mapOf_at hf (Fr.keep (by k_asm))) ?_
  -- the list that is walked, and its places
  have hex : ∃ (l : Addr) (vs : List Value) (js : List Nat), (f ⟨#[ch a i]⟩).getD (.ref l0) = .ref l ∧ ((∃ o, g.get? l = some o) ∨ ∃ o, (l, o) ∈ [(l0, W.listOf #[] 0)]) ∧
      (∀ h : Heap, (∀ b o, g.get? b = some o → h.get? b = some o) → h.get? l0 = some (W.listOf #[] 0) → h.IsList l vs.toArray) ∧ IntsAre vs (js.map Int.ofNat) ∧ js.Pairwise (· < ·) ∧ (∀ j ∈ js, eqv a b jk i j = true ∧ j < b.cps.size) ∧ ∀ j, j < b.cps.size → eqv a b jk i j = true → j ∈ js := by
    rcases hfc (ch a i) with ⟨hj, l, vs, e, hl, hv⟩ | ⟨hj, e⟩
    · refine ⟨l, vs, poss b (ch a i), by rw [e]; rfl, .inl ?_, fun h hk _ => hl.at fun o e => hk _ o e, hv, poss_sorted _ _, fun j hm => ?_, fun j hlt he => ?_⟩
      · obtain ⟨o, ho, _⟩ := hl; exact ⟨o, ho⟩
      · have := mem_poss.mp hm
        exact ⟨by unfold eqv; rw [this.2, hj]; simp, this.1⟩
      · unfold eqv at he
        simp only [Bool.and_eq_true, beq_iff_eq] at he
        exact mem_poss.mpr ⟨hlt, he.1.symm⟩
    · refine ⟨l0, [], [], by rw [e]; rfl, .inr ⟨_, .head _⟩, fun h _ h0 => ⟨_, h0, rfl, 0, rfl⟩, .nil, .nil, (fun _ hm => nomatch hm), fun j hlt he => ?_⟩
      exfalso
      unfold eqv at he
      simp only [Bool.and_eq_true, beq_iff_eq, Bool.not_eq_true'] at he
      rcases hj with hj | hj
      · rw [he.1, he.2] at hj; cases hj
      · have := mem_poss.mpr ⟨hlt, he.1.symm⟩
        rw [hj] at this; cases this
  obtain ⟨l, vs, js, hl, hlg, hlist, hints, hsort, hjs, hjs'⟩ := hex
  rw [hl]
  k_steps
  refine Stop.intro ?_
  rename_i d2 _ o2 lo2 _ _ hi2 _ lt2 _ F2 N2 _ _
  refine loopListP (kl := [(l0, W.listOf #[] 0)]) (news := (d2, o2) :: (c, boundObj "dict.get" d) :: (d, od) :: rest) rfl hlg (hlist _ F2.keep (N2.get (by k_mem))) F2 (News.sub N2 ?sub) ?hkn
    (FoJ w m a b jk db l0 d c d2 od rest alo i blo bhi ti js) (FoP w m a b jk db l0 d c d2 od rest alo i blo bhi ti)
    ?start ?step ?done ?post
  case sub =>
    intro p hp
    simp only [List.cons_append, List.nil_append, List.mem_cons] at hp ⊢
    rcases hp with h | h | h | h | h
    · exact .inr (.inr (.inr (.inl h)))
    · exact .inl h
    · exact .inr (.inl h)
    · exact .inr (.inr (.inl h))
    · exact .inr (.inr (.inr (.inr h)))
  case hkn =>
    intro p hp o ho
    rw [List.mem_singleton.mp ho]
    simp only [List.mem_cons] at hp
    rcases hp with rfl | rfl | rfl | h
    · exact Nat.ne_of_gt lt2.2.2.1
    · exact Nat.ne_of_gt (hlt (l0, W.listOf #[] 0) (by simp))
    · exact hdis.1
    · exact hdis.2 p h
  case start =>
    refine ⟨o2, [], bi, bj, bs, ta, tb, t1, t2, t3, t4, t5, rfl, ⟨rfl, rfl, rfl, rfl, rfl, rfl, rfl, rfl, rfl, rfl, rfl, rfl, rfl, trivial⟩, ?_, hi2, Nat.le_refl _, RowIs.nil.congr fun j => (rowPart_zero j).symm, hbest.ext a b jk alo blo (fun i' j' h => .inl h) fun i' j' h => ?_⟩
    · intro y hy
      simp only [List.mem_cons, List.not_mem_nil, or_false, not_or] at hy
      simp only [if_neg hy.1, if_neg hy.2.2.2.1, if_neg hy.2.2.2.2.1]
      exact (congrFun em y).symm
    · rcases h with h | ⟨_, _, u, hu, _⟩
      · exact .inl h
      · lia
  case done =>
    rintro m' n' ⟨ond, kvs', bi', bj', bs', ta', tb', t1', t2', t3', t4', t5', rfl, hm1, hfr, hond, hlen, hrw, hbt⟩
    have hsz : vs.toArray.size = js.length := by simp [hints.length]
    rw [hsz] at hrw hbt
    have hge : ∀ u j, js.length ≤ u → js[u]? = some j → bhi ≤ j := fun u j h e => by
      have := (List.getElem?_eq_some_iff.mp e).1; lia
    exact ⟨ond, kvs', bi', bj', bs', ta', tb', t1', t2', t3', t4', t5', rfl, hm1, hfr, hond, hrw.congr (rowPart_fin hjs' hbhi hge), partS_fin hjs' hbhi hge hbt⟩
  case step =>
    rintro t v m₁ n₁ h tk I oI hv ⟨ond, kvs', bi', bj', bs', ta', tb', t1', t2', t3', t4', t5', rfl, hm1, hfr, hond, hlen, hrw, hbt⟩ hoff hI F3 N3
    have hv' : vs[t]? = some v := by simpa using hv
    have htl : t < js.length := by
      have := (List.getElem?_eq_some_iff.mp hv').1
      have e := hints.length
      rw [List.length_map] at e; lia
    have hjt : js[t]? = some js[t] := List.getElem?_eq_getElem htl
    generalize hjj : js[t] = jt at hjt
    obtain ⟨tt, hvt⟩ := hints.get t (jt : Int) (by rw [List.getElem?_map, hjt]; rfl)
    obtain rfl : v = .int jt tt := by rw [hv'] at hvt; exact Option.some.inj hvt
    obtain ⟨heq, hjb⟩ := hjs jt (List.mem_of_getElem? hjt)
    have hm3 : HasL m₁ [("blo", .int blo t1'), ("bhi", .int bhi t2'), ("newj2len", .ref d2), ("j2lenget", .ref c), ("i", .int i ti), ("besti", .int bi' t3'), ("bestj", .int bj' t4'), ("bestsize", .int bs' t5')] := by
      exact ⟨hm1.2.2.2.2.2.2.2.2.1, hm1.2.2.2.2.2.2.2.2.2.1, hm1.1, hm1.2.1, hm1.2.2.1, hm1.2.2.2.2.2.2.2.2.2.2.1, hm1.2.2.2.2.2.2.2.2.2.2.2.1, hm1.2.2.2.2.2.2.2.2.2.2.2.2.1, trivial⟩
    have em1 := ov_of hm3
    have F3' := F3
    rw [em1] at F3
    have hsuf : (0 : Int) ≤ prow ((jt : Int) - 1) ∧ prow ((jt : Int) - 1) < 2 ^ 60 ∧ (blo ≤ jt → jt < bhi → (suf a b jk alo blo i jt : Int) = prow ((jt : Int) - 1) + 1) := by
      cases jt with
      | zero =>
        rw [show ((0 : Nat) : Int) - 1 = -1 from rfl, hprow']
        refine ⟨Int.le_refl _, by decide, fun h1 h2 => ?_⟩
        rw [suf_eq a b jk alo blo hai h1 heq, if_pos (.inr rfl)]; rfl
      | succ j0 =>
        have e : (((j0 + 1 : Nat) : Int)) - 1 = (j0 : Int) := by lia
        rw [e, hprow j0]
        by_cases hc : i = 0 ∨ ¬ j0 < bhi
        · rw [if_pos hc]
          refine ⟨by simp, by simp, fun h1 h2 => ?_⟩
          rcases hc with hc | hc
          · rw [suf_eq a b jk alo blo hai h1 heq, if_pos (.inl hc)]; simp
          · lia
        · rw [if_neg hc]
          have := suf_le_i a b jk alo blo (i - 1) j0
          refine ⟨by lia, by lia, fun h1 h2 => ?_⟩
          rw [suf_eq a b jk alo blo hai h1 heq, if_neg (by lia)]; simp
    refine flm_inner (dp := dp) (un := un) (fr := fr) (gd := gd) (nd := d2) (c2 := c) (d := d) (ond := ond) (od := od) (rest := (I, oI) :: (l0, W.listOf #[] 0) :: rest) (kvs := kvs) (kvs' := kvs') (r := prow ((jt : Int) - 1)) X T F3 (News.sub N3 ?sub3) ?hnd hod hlo hond ⟨hsuf.1, hsuf.2.1⟩ ⟨by lia, by lia⟩ ⟨by lia, by lia⟩ (by have : sizeLine = 16777216 := rfl; have := sorted_ge hsort hjt; lia) (hrow _) ?c1 ?c2 ?c3
    case sub3 =>
      intro p hp
      simp only [List.cons_append, List.nil_append, List.mem_cons] at hp ⊢
      rcases hp with h | h | h | h | h | h
      · exact .inr (.inr (.inl h))
      · exact .inr (.inr (.inr (.inl h)))
      · exact .inr (.inr (.inr (.inr (.inl h))))
      · exact .inl h
      · exact .inr (.inl h)
      · exact .inr (.inr (.inr (.inr (.inr h))))
    case hnd =>
      refine ⟨Nat.ne_of_gt lt2.1, Nat.ne_of_gt lt2.2.1, fun p hp => ?_⟩
      simp only [List.mem_cons] at hp
      rcases hp with rfl | rfl | hp
      · exact fun e => hoff (d2, ond) (.head _) (I, oI) (.head _) e.symm
      · exact Nat.ne_of_lt lt2.2.2.1
      · exact Nat.ne_of_lt (allLt_all _ lt2.2.2.2 p hp)
    case c1 =>
      intro hlow tk'
      refine TurnEndP.introC F3' N3 hoff ?_
      refine ⟨ond, kvs', bi', bj', bs', ta', tb', t1', t2', t3', t4', t5', rfl, ⟨hm1.1, hm1.2.1, hm1.2.2.1, hm1.2.2.2.1, hm1.2.2.2.2.1, hm1.2.2.2.2.2.1, hm1.2.2.2.2.2.2.1, hm1.2.2.2.2.2.2.2.1, hm1.2.2.2.2.2.2.2.2.1, hm1.2.2.2.2.2.2.2.2.2.1, hm1.2.2.2.2.2.2.2.2.2.2.1, hm1.2.2.2.2.2.2.2.2.2.2.2.1, hm1.2.2.2.2.2.2.2.2.2.2.2.2.1, trivial⟩, ?_, hond, by lia, hrw.congr fun j => (rowPart_low hjt (by lia) j).symm, partS_low hjt (by lia) hbt⟩
      intro y hy
      have hy' := hfr y hy
      simp only [List.mem_cons, List.not_mem_nil, or_false, not_or] at hy
      show (if y = Str.ofString "j" then _ else m₁ y) = m y
      rw [if_neg hy.2.1]; exact hy'
    case c2 =>
      intro hlow hhi tk'
      have hge : ∀ u j, t ≤ u → js[u]? = some j → bhi ≤ j := fun u j hu e => by
        by_cases hut : u = t
        · subst hut; rw [hjt] at e; have := Option.some.inj e; lia
        · have := sorted_lt hsort hjt e (by lia); lia
      refine TurnEndP.introB F3' N3 ?_
      refine ⟨ond, kvs', bi', bj', bs', ta', tb', t1', t2', t3', t4', t5', rfl, ⟨hm1.1, hm1.2.1, hm1.2.2.1, hm1.2.2.2.1, hm1.2.2.2.2.1, hm1.2.2.2.2.2.1, hm1.2.2.2.2.2.2.1, hm1.2.2.2.2.2.2.2.1, hm1.2.2.2.2.2.2.2.2.1, hm1.2.2.2.2.2.2.2.2.2.1, hm1.2.2.2.2.2.2.2.2.2.2.1, hm1.2.2.2.2.2.2.2.2.2.2.2.1, hm1.2.2.2.2.2.2.2.2.2.2.2.2.1, trivial⟩, ?_, hond, hrw.congr (rowPart_fin hjs' hbhi hge), partS_fin hjs' hbhi hge hbt⟩
      intro y hy
      have hy' := hfr y hy
      simp only [List.mem_cons, List.not_mem_nil, or_false, not_or] at hy
      show (if y = Str.ofString "j" then _ else m₁ y) = m y
      rw [if_neg hy.2.1]; exact hy'
    case c3 =>
      rintro hlow hhi h' tk' ond' m' tv F' ⟨u3, u4, u5, hm'⟩ hfr' N' hond'
      have hr := hsuf.2.2 (by lia) (by lia)
      rw [← hr] at hm' hond'
      refine TurnEndP.intro (news' := (d2, ond') :: (c, boundObj "dict.get" d) :: (d, od) :: rest) F' (News.sub N' ?sub4) ?off ?_
      case sub4 =>
        intro p hp
        simp only [List.cons_append, List.nil_append, List.mem_cons] at hp ⊢
        rcases hp with h | h | h | h | h | h
        · exact .inr (.inr (.inr (.inl h)))
        · exact .inr (.inr (.inr (.inr (.inl h))))
        · exact .inl h
        · exact .inr (.inl h)
        · exact .inr (.inr (.inl h))
        · exact .inr (.inr (.inr (.inr (.inr h))))
      case off =>
        intro p hp o ho
        rcases List.mem_cons.mp hp with rfl | hp
        · exact hoff (d2, ond) (.head _) o ho
        · exact hoff p (.tail _ hp) o ho
      have efr : ∀ y, y ∉ (["j", "k", "besti", "bestj", "bestsize"] : List Str) → m' y = m₁ y := fun y hy => (hfr' y hy).trans (congrFun em1 y).symm
      refine ⟨ond', _, _, _, _, ta', tb', t1', t2', u3, u4, u5, rfl, ⟨hm'.2.2.1, hm'.2.2.2.1, hm'.2.2.2.2.1, (efr "a" (by decide)).trans hm1.2.2.2.1, (efr "b" (by decide)).trans hm1.2.2.2.2.1, (efr "b2j" (by decide)).trans hm1.2.2.2.2.2.1, (efr "nothing" (by decide)).trans hm1.2.2.2.2.2.2.1, (efr "j2len" (by decide)).trans hm1.2.2.2.2.2.2.2.1, hm'.1, hm'.2.1, hm'.2.2.2.2.2.1, hm'.2.2.2.2.2.2.1, hm'.2.2.2.2.2.2.2.1, trivial⟩, ?_, hond', ?_, hrw.stored.congr fun j => (rowPart_in hjt (by lia) j).symm, partS_in hsort hjt (by lia) hbt⟩
      · intro y hy
        refine (efr y fun hm => hy ?_).trans (hfr y hy)
        simp only [List.mem_cons, List.not_mem_nil, or_false] at hm ⊢
        rcases hm with h | h | h | h | h
        · exact .inr (.inl h)
        · exact .inr (.inr (.inl h))
        · exact .inr (.inr (.inr (.inr (.inr (.inr (.inl h))))))
        · exact .inr (.inr (.inr (.inr (.inr (.inr (.inr (.inl h)))))))
        · exact .inr (.inr (.inr (.inr (.inr (.inr (.inr (.inr h)))))))
      · have := PySem.stored_length_le kvs' (jt : Int) (.int (suf a b jk alo blo i jt : Int) tv)
        lia
  case post =>
    rintro h' tk m' n' F4 N4 ⟨ond, kvs', bi', bj', bs', ta', tb', t1', t2', t3', t4', t5', rfl, hm1, hfr, hond, hrw, hbt⟩
    have em1 := ov_of hm1
    rw [em1] at F4
    k_steps
    rename_i _ F5 N5
    refine hQ _ _ _ d2 ond kvs' bi' bj' bs' ta' tb' t1' t2' t3' t4' t5' F5 ?hl ?fr (News.sub N5 ?sub) hond lo2 hrw hbt ?lt
    case hl => exact ⟨rfl, rfl, rfl, rfl, rfl, rfl, rfl, rfl, rfl, rfl, trivial⟩
    case fr =>
      intro y hy
      have hy' := hfr y hy
      simp only [List.mem_cons, List.not_mem_nil, or_false, not_or] at hy
      show (if y = Str.ofString "j2len" then _ else _) = m y
      rw [if_neg hy.2.2.2.2.2.1]; exact (congrFun em1 y).symm.trans hy'
    case sub =>
      intro p hp
      simp only [List.cons_append, List.nil_append, List.mem_cons] at hp ⊢
      rcases hp with h | h | h
      · exact .inr (.inl h)
      · exact .inl h
      · exact .inr (.inr (.inr (.inr h)))
    case lt =>
      intro p hp
      simp only [List.mem_cons] at hp
      rcases hp with rfl | rfl | hp
      · exact lt2.2.1
      · exact lt2.2.2.1
      · exact allLt_all _ lt2.2.2.2 p hp
end Mine
end
section
open PySem PySem.W PyProof.Rows PySem.Calls PySem.Spec
set_option Elab.async false
set_option maxRecDepth 1000000
set_option maxHeartbeats 8000000
namespace Mine
theorem regFW (P : Params) : K P = [] ∨ PySem.Challenge.rw_kl0396_01.name = PySem.Challenge.rw_kl0396_01.name := by
  k_fill
  exact .inr rfl
local macro_rules | `(tactic| walk_at $s:str) => stopAt "exec While|call ref|callWith ref" s
theorem setOf_at {prog : Program} {w : World} {K : Type} [DecidableEq K] {knd : KeyKind prog w K} {h h' : Heap} {a : Addr} {S : K → Bool} {n : Nat} (x : h.SetOf knd a S n) (hk : ∀ b o, h.get? b = some o → h'.get? b = some o) : h'.SetOf knd a S n := by
  obtain ⟨o, es, ep, tb, ho, r⟩ := x
  exact ⟨o, es, ep, tb, hk _ _ ho, r⟩
/-- the match is drawn out to the left over signs that are junk (or are none) -/
inductive LeftX (a b : Str) (jk : Nat → Bool) (f : Bool) (alo blo : Nat) (i j k i' j' k' : Nat) : Prop
  | mk (u : Nat) (h1 : i' + u = i) (h2 : j' + u = j) (h3 : k' = k + u) (h4 : ∀ v, v < u → ch a (i' + v) = ch b (j' + v) ∧ jk (ch b (j' + v)) = f) (h5 : alo ≤ i') (h6 : blo ≤ j')
      (h7 : ¬ (alo < i' ∧ blo < j' ∧ jk (ch b (j' - 1)) = f ∧ ch a (i' - 1) = ch b (j' - 1)))
inductive RightX (a b : Str) (jk : Nat → Bool) (f : Bool) (ahi bhi : Nat) (i j k k' : Nat) : Prop
  | mk (h1 : k ≤ k') (h2 : i + k' ≤ ahi) (h3 : j + k' ≤ bhi) (h4 : ∀ v, k ≤ v → v < k' → ch a (i + v) = ch b (j + v) ∧ jk (ch b (j + v)) = f) (h5 : ¬ (i + k' < ahi ∧ j + k' < bhi ∧ jk (ch b (j + k')) = f ∧ ch a (i + k') = ch b (j + k')))
noncomputable abbrev whLL (a b : Str) (c : Addr) (alo ahi blo bhi i j k : Nat) (ta tb u1 u2 u3 u4 t3 t4 t5 : Tok) : List (Str × Value) :=
  [("a", .str a ta), ("b", .str b tb), ("isbjunk", .ref c), ("alo", .int alo u1), ("ahi", .int ahi u2), ("blo", .int blo u3), ("bhi", .int bhi u4), ("besti", .int i t3), ("bestj", .int j t4), ("bestsize", .int k t5)]
theorem str_at {w : World} {A : Around} {E : Value → Shared → Prop} {s : Shared} {x : Str} {i : Int} {t u : Tok} {Q : Value → Shared → Prop} {e1 e2 : Expr} (n : Nat) (hi : i = n) (hn : n < x.cps.size) (hx : x.cps.size < 1000)
    (h : ∀ t' k, Q (.str ⟨#[ch x n]⟩ t') { s with toks := k })
    (hs : subscripted e2 false (.str x t) (.int i u) = operate [.str x t, .int i u] (getItem (.str x t) (.int i u)) := by with_unfolding_all rfl) (ht : ∀ r, letTemporaryGo e1 (.str x t) r = pure () := by intro _; with_unfolding_all rfl) :
    wpAny (model pw w) A (subscriptTail e1 e2 (.str x t) (.int i u)) Q E s := by
  subst hi
  have e : x.length = x.cps.size := rfl
  obtain ⟨T, id, h1, h2, h3⟩ := SBL.item (prog := pw) (w := w) (A := A) (E := E) (s := s) (Q := Q) (x := x) (t := t) (u := u) (i := (n : Int)) (by lia) (by lia) (by lia) (fun _ => by rw [txt_item hn]; exact h _ _)
  exact subscriptTail_builtin h2 h1 h3 hs ht
theorem stopStr {w : World} {A : Around} {E : Value → Shared → Prop} {s : Shared} {e1 e2 : Expr} {x : Str} {i : Int} {t u : Tok} {Q : Value → Shared → Prop} (h : Stop (wpAny (model pw w) A (subscriptTail e1 e2 (.str x t) (.int i u)) Q E s)) : wpAny (model pw w) A (subscriptTail e1 e2 (.str x t) (.int i u)) Q E s := h
local macro_rules | `(tactic| walk_at "subscriptTail") => `(tactic| (with_reducible refine stopStr ?_))
local macro_rules | `(tactic| walk_at $s:str) => stopAt "no such line" s
theorem str1_eq {x y : Nat} : ((⟨#[x]⟩ : Str) == ⟨#[y]⟩) = (x == y) := by
  by_cases h : x = y
  · subst h; simp
  · rw [beq_eq_false_iff_ne.mpr h, beq_eq_false_iff_ne]
    intro e; injection e with e; simp at e; exact h e
/-- what holds between the turns: to the left, to the right -/
inductive LwJ (a b : Str) (jk : Nat → Bool) (f : Bool) (c sj : Addr) (rest : List (Addr × Obj)) (alo ahi blo bhi i j k : Nat) (ta tb u1 u2 u3 u4 : Tok) (n : Nat) (m' : Str → Option Value) (n' : List (Addr × Obj)) : Prop
  | mk (e : n' = (c, boundObj "set.__contains__" sj) :: rest) (i' j' k' : Nat) (t3 t4 t5 : Tok) (en : n = i') (hm : HasL m' (whLL a b c alo ahi blo bhi i' j' k' ta tb u1 u2 u3 u4 t3 t4 t5)) (h1 : alo ≤ i') (h2 : blo ≤ j') (u : Nat) (h3 : i' + u = i) (h4 : j' + u = j) (h5 : k' = k + u) (h6 : ∀ v, v < u → ch a (i' + v) = ch b (j' + v) ∧ jk (ch b (j' + v)) = f)
inductive RwJ (a b : Str) (jk : Nat → Bool) (f : Bool) (c sj : Addr) (rest : List (Addr × Obj)) (alo ahi blo bhi i j k : Nat) (ta tb u1 u2 u3 u4 : Tok) (n : Nat) (m' : Str → Option Value) (n' : List (Addr × Obj)) : Prop
  | mk (e : n' = (c, boundObj "set.__contains__" sj) :: rest) (k' : Nat) (t3 t4 t5 : Tok) (en : n = ahi - (i + k')) (hm : HasL m' (whLL a b c alo ahi blo bhi i j k' ta tb u1 u2 u3 u4 t3 t4 t5)) (h1 : k ≤ k') (h2 : i + k' ≤ ahi) (h3 : j + k' ≤ bhi) (h4 : ∀ v, k ≤ v → v < k' → ch a (i + v) = ch b (j + v) ∧ jk (ch b (j + v)) = f)
theorem flm_w1 {w : World} {dp un : Nat} {fr : Option (List Env)} {gd : Option (List Code)} {s : Shared} {g : Heap} {mg mb : Str → Option Value} {L : Addr} {m : Str → Option Value} {c sj : Addr} {rest : List (Addr × Obj)}
    {a b : Str} {jk : Nat → Bool} {S : Str → Bool} {sn alo ahi blo bhi i j k : Nat} {ta tb u1 u2 u3 u4 t3 t4 t5 : Tok} {Q : Flow → Shared → Prop}
    (X : (K w.params).In g) (T : TopRead q (looseW q loose) mg mb g) (hS : g.SetOf (strKind pw w) sj S sn) (hjk : ∀ v, v < b.cps.size → S ⟨#[ch b v]⟩ = jk (ch b v))
    (F : Fr g L s.heap m) (hm : HasL m (whLL a b c alo ahi blo bhi i j k ta tb u1 u2 u3 u4 t3 t4 t5)) (N : News g L s.heap ((c, boundObj "set.__contains__" sj) :: rest))
    (hi : alo ≤ i) (hj : blo ≤ j) (ha : i + k ≤ a.cps.size) (hb : j + k ≤ b.cps.size) (hal : a.cps.size < 1000) (hbl : b.cps.size < 1000)
    (hQ : ∀ h' tk m' i' j' k' t3 t4 t5, Fr g L h' m' → HasL m' (whLL a b c alo ahi blo bhi i' j' k' ta tb u1 u2 u3 u4 t3 t4 t5) → News g L h' ((c, boundObj "set.__contains__" sj) :: rest) → LeftX a b jk false alo blo i j k i' j' k' → Q .next { s with heap := h', toks := tk }) :
    wpAny (model pw w) ((AR dp un fr gd).deeper (flmEnv L)) (exec (flmSt 8) (flmEnv L)) Q (fun _ _ => False) s := by
  conv in exec _ _ => arg 1; whnf
  delta flmEnv
  conv in (occs := *) envX _ _ _ _ _ _ => all_goals (arg 2; whnf)
  refine While_inv (LwJ a b jk false c sj rest alo ahi blo bhi i j k ta tb u1 u2 u3 u4) F N ⟨rfl, i, j, k, t3, t4, t5, rfl, hm, hi, hj, 0, rfl, rfl, rfl, fun v hv => absurd hv (Nat.not_lt_zero v)⟩ ?_
  clear hm F N
  rintro n m₁ n₁ h₁ tk₁ F N ⟨rfl, i', j', k', t3, t4, t5, rfl, hm, hi', hj', u, hu1, hu2, hu3, hall⟩
  have em := ov_of hm
  rw [em] at F
  have stop : ¬ (alo < n ∧ blo < j' ∧ jk (ch b (j' - 1)) = false ∧ ch a (n - 1) = ch b (j' - 1)) → ∀ h₂ tk₂ m₂, Fr g L h₂ m₂ → HasL m₂ (whLL a b c alo ahi blo bhi n j' k' ta tb u1 u2 u3 u4 t3 t4 t5) → News g L h₂ ((c, boundObj "set.__contains__" sj) :: rest) → Q .next { s with heap := h₂, toks := tk₂ } := fun hn h₂ tk₂ m₂ F₂ hm₂ N₂ =>
    hQ h₂ tk₂ m₂ n j' k' t3 t4 t5 F₂ hm₂ N₂ ⟨u, hu1, hu2, hu3, hall, hi', hj', hn⟩
  k_steps
  · refine Stop.intro ?_
    refine callWith_b (id := "set.__contains__") (a := sj) ?_
    k_steps
    refine Stop.intro ?_
    refine str_at (j' - 1) (by lia) (by lia) hbl fun t' k'' => ?_
    k_steps
    · exact News.get (by k_asm) (by k_mem)
    refine Stop.intro ?_
    refine call_contains (News.get (by k_asm) (by k_mem)) (strKind_is pw w _ _) rfl (setOf_at hS (Fr.keep (by k_asm))) ?_
    rw [hjk _ (by lia)]
    cases hjj : jk (ch b (j' - 1)) with
    | true =>
      k_steps
      refine stop (fun h => by rw [hjj] at h; exact absurd h.2.2.1 (by decide)) _ _ _ F ⟨rfl, rfl, rfl, rfl, rfl, rfl, rfl, rfl, rfl, rfl, trivial⟩ N
    | false =>
      k_steps
      refine Stop.intro ?_
      refine str_at (n - 1) (by lia) (by lia) hal fun t' k'' => ?_
      k_steps
      refine Stop.intro ?_
      refine str_at (j' - 1) (by lia) (by lia) hbl fun t' k'' => ?_
      k_steps
      · rename_i hch _ _ _ _ _ _ _ F' N'
        rw [str1_eq, beq_iff_eq] at hch
        rw [show (n : Int) - 1 = ((n - 1 : Nat) : Int) by lia, show (j' : Int) - 1 = ((j' - 1 : Nat) : Int) by lia, show (k' : Int) + 1 = ((k' + 1 : Nat) : Int) by lia] at F'
        refine WhileStep.intro (n' := n - 1) F' (News.sub N' ?sub) (by lia) ⟨rfl, n - 1, j' - 1, k' + 1, _, _, _, rfl, ⟨rfl, rfl, rfl, rfl, rfl, rfl, rfl, rfl, rfl, rfl, trivial⟩, by lia, by lia, u + 1, by lia, by lia, by lia, fun v hv => ?_⟩
        case sub => exact fun p hp => List.mem_cons_of_mem _ hp
        cases v with
        | zero => exact ⟨hch, hjj⟩
        | succ v =>
          rw [show n - 1 + (v + 1) = n + v by lia, show j' - 1 + (v + 1) = j' + v by lia]
          exact hall v (by lia)
      · rename_i hch
        rw [str1_eq] at hch
        refine stop (fun h => ?_) _ _ _ F ⟨rfl, rfl, rfl, rfl, rfl, rfl, rfl, rfl, rfl, rfl, trivial⟩ N
        rw [h.2.2.2] at hch
        simp at hch
  · exact stop (by lia) _ _ _ F ⟨rfl, rfl, rfl, rfl, rfl, rfl, rfl, rfl, rfl, rfl, trivial⟩ N
  · exact stop (by lia) _ _ _ F ⟨rfl, rfl, rfl, rfl, rfl, rfl, rfl, rfl, rfl, rfl, trivial⟩ N
theorem flm_w2 {w : World} {dp un : Nat} {fr : Option (List Env)} {gd : Option (List Code)} {s : Shared} {g : Heap} {mg mb : Str → Option Value} {L : Addr} {m : Str → Option Value} {c sj : Addr} {rest : List (Addr × Obj)}
    {a b : Str} {jk : Nat → Bool} {S : Str → Bool} {sn alo ahi blo bhi i j k : Nat} {ta tb u1 u2 u3 u4 t3 t4 t5 : Tok} {Q : Flow → Shared → Prop}
    (X : (K w.params).In g) (T : TopRead q (looseW q loose) mg mb g) (hS : g.SetOf (strKind pw w) sj S sn) (hjk : ∀ v, v < b.cps.size → S ⟨#[ch b v]⟩ = jk (ch b v))
    (F : Fr g L s.heap m) (hm : HasL m (whLL a b c alo ahi blo bhi i j k ta tb u1 u2 u3 u4 t3 t4 t5)) (N : News g L s.heap ((c, boundObj "set.__contains__" sj) :: rest))
    (hi : i + k ≤ ahi) (hj : j + k ≤ bhi) (ha : ahi ≤ a.cps.size) (hb : bhi ≤ b.cps.size) (hal : a.cps.size < 1000) (hbl : b.cps.size < 1000)
    (hQ : ∀ h' tk m' k' t3 t4 t5, Fr g L h' m' → HasL m' (whLL a b c alo ahi blo bhi i j k' ta tb u1 u2 u3 u4 t3 t4 t5) → News g L h' ((c, boundObj "set.__contains__" sj) :: rest) → RightX a b jk false ahi bhi i j k k' → Q .next { s with heap := h', toks := tk }) :
    wpAny (model pw w) ((AR dp un fr gd).deeper (flmEnv L)) (exec (flmSt 9) (flmEnv L)) Q (fun _ _ => False) s := by
  conv in exec _ _ => arg 1; whnf
  delta flmEnv
  conv in (occs := *) envX _ _ _ _ _ _ => all_goals (arg 2; whnf)
  refine While_inv (RwJ a b jk false c sj rest alo ahi blo bhi i j k ta tb u1 u2 u3 u4) F N ⟨rfl, k, t3, t4, t5, rfl, hm, Nat.le_refl _, hi, hj, fun v hv hv' => absurd hv' (Nat.not_lt.mpr hv)⟩ ?_
  clear hm F N hi hj
  rintro n m₁ n₁ h₁ tk₁ F N ⟨rfl, k', t3, t4, t5, hn, hm, hk, hi, hj, hall⟩
  have em := ov_of hm
  rw [em] at F
  have stop : ¬ (i + k' < ahi ∧ j + k' < bhi ∧ jk (ch b (j + k')) = false ∧ ch a (i + k') = ch b (j + k')) → ∀ h₂ tk₂ m₂, Fr g L h₂ m₂ → HasL m₂ (whLL a b c alo ahi blo bhi i j k' ta tb u1 u2 u3 u4 t3 t4 t5) → News g L h₂ ((c, boundObj "set.__contains__" sj) :: rest) → Q .next { s with heap := h₂, toks := tk₂ } := fun hn h₂ tk₂ m₂ F₂ hm₂ N₂ =>
    hQ h₂ tk₂ m₂ k' t3 t4 t5 F₂ hm₂ N₂ ⟨hk, hi, hj, hall, hn⟩
  k_steps
  · refine Stop.intro ?_
    refine callWith_b (id := "set.__contains__") (a := sj) ?_
    k_steps
    refine Stop.intro ?_
    refine str_at (j + k') (by lia) (by lia) hbl fun t' k'' => ?_
    k_steps
    · exact News.get (by k_asm) (by k_mem)
    refine Stop.intro ?_
    refine call_contains (News.get (by k_asm) (by k_mem)) (strKind_is pw w _ _) rfl (setOf_at hS (Fr.keep (by k_asm))) ?_
    rw [hjk _ (by lia)]
    cases hjj : jk (ch b (j + k')) with
    | true =>
      k_steps
      exact stop (fun h => by rw [hjj] at h; exact absurd h.2.2.1 (by decide)) _ _ _ F ⟨rfl, rfl, rfl, rfl, rfl, rfl, rfl, rfl, rfl, rfl, trivial⟩ N
    | false =>
      k_steps
      refine Stop.intro ?_
      refine str_at (i + k') (by lia) (by lia) hal fun t' k'' => ?_
      k_steps
      refine Stop.intro ?_
      refine str_at (j + k') (by lia) (by lia) hbl fun t' k'' => ?_
      k_steps
      · have hch : ((⟨#[ch a (i + k')]⟩ : Str) == ⟨#[ch b (j + k')]⟩) = true := by assumption
        rename Fr _ _ _ _ => F'
        rw [str1_eq, beq_iff_eq] at hch
        rw [show (k' : Int) + 1 = ((k' + 1 : Nat) : Int) by lia] at F'
        refine WhileStep.intro (n' := n - 1) F' (by k_asm) (by lia) ⟨rfl, k' + 1, _, _, _, congrArg Nat.pred hn, ⟨rfl, rfl, rfl, rfl, rfl, rfl, rfl, rfl, rfl, rfl, trivial⟩, by lia, by lia, by lia, fun v hv hv' => ?_⟩
        by_cases h : v = k'
        · subst h; exact ⟨hch, hjj⟩
        · exact hall v hv (by lia)
      · rename_i hch
        rw [str1_eq] at hch
        refine stop (fun h => ?_) _ _ _ F ⟨rfl, rfl, rfl, rfl, rfl, rfl, rfl, rfl, rfl, rfl, trivial⟩ N
        rw [h.2.2.2] at hch
        simp at hch
  · exact stop (by lia) _ _ _ F ⟨rfl, rfl, rfl, rfl, rfl, rfl, rfl, rfl, rfl, rfl, trivial⟩ N
  · exact stop (by lia) _ _ _ F ⟨rfl, rfl, rfl, rfl, rfl, rfl, rfl, rfl, rfl, rfl, trivial⟩ N
theorem flm_w3 {w : World} {dp un : Nat} {fr : Option (List Env)} {gd : Option (List Code)} {s : Shared} {g : Heap} {mg mb : Str → Option Value} {L : Addr} {m : Str → Option Value} {c sj : Addr} {rest : List (Addr × Obj)}
    {a b : Str} {jk : Nat → Bool} {S : Str → Bool} {sn alo ahi blo bhi i j k : Nat} {ta tb u1 u2 u3 u4 t3 t4 t5 : Tok} {Q : Flow → Shared → Prop}
    (X : (K w.params).In g) (T : TopRead q (looseW q loose) mg mb g) (hS : g.SetOf (strKind pw w) sj S sn) (hjk : ∀ v, v < b.cps.size → S ⟨#[ch b v]⟩ = jk (ch b v))
    (F : Fr g L s.heap m) (hm : HasL m (whLL a b c alo ahi blo bhi i j k ta tb u1 u2 u3 u4 t3 t4 t5)) (N : News g L s.heap ((c, boundObj "set.__contains__" sj) :: rest))
    (hi : alo ≤ i) (hj : blo ≤ j) (ha : i + k ≤ a.cps.size) (hb : j + k ≤ b.cps.size) (hal : a.cps.size < 1000) (hbl : b.cps.size < 1000)
    (hQ : ∀ h' tk m' i' j' k' t3 t4 t5, Fr g L h' m' → HasL m' (whLL a b c alo ahi blo bhi i' j' k' ta tb u1 u2 u3 u4 t3 t4 t5) → News g L h' ((c, boundObj "set.__contains__" sj) :: rest) → LeftX a b jk true alo blo i j k i' j' k' → Q .next { s with heap := h', toks := tk }) :
    wpAny (model pw w) ((AR dp un fr gd).deeper (flmEnv L)) (exec (flmSt 10) (flmEnv L)) Q (fun _ _ => False) s := by
  conv in exec _ _ => arg 1; whnf
  delta flmEnv
  conv in (occs := *) envX _ _ _ _ _ _ => all_goals (arg 2; whnf)
  refine While_inv (LwJ a b jk true c sj rest alo ahi blo bhi i j k ta tb u1 u2 u3 u4) F N ⟨rfl, i, j, k, t3, t4, t5, rfl, hm, hi, hj, 0, rfl, rfl, rfl, fun v hv => absurd hv (Nat.not_lt_zero v)⟩ ?_
  clear hm F N
  rintro n m₁ n₁ h₁ tk₁ F N ⟨rfl, i', j', k', t3, t4, t5, rfl, hm, hi', hj', u, hu1, hu2, hu3, hall⟩
  have em := ov_of hm
  rw [em] at F
  have stop : ¬ (alo < n ∧ blo < j' ∧ jk (ch b (j' - 1)) = true ∧ ch a (n - 1) = ch b (j' - 1)) → ∀ h₂ tk₂ m₂, Fr g L h₂ m₂ → HasL m₂ (whLL a b c alo ahi blo bhi n j' k' ta tb u1 u2 u3 u4 t3 t4 t5) → News g L h₂ ((c, boundObj "set.__contains__" sj) :: rest) → Q .next { s with heap := h₂, toks := tk₂ } := fun hn h₂ tk₂ m₂ F₂ hm₂ N₂ =>
    hQ h₂ tk₂ m₂ n j' k' t3 t4 t5 F₂ hm₂ N₂ ⟨u, hu1, hu2, hu3, hall, hi', hj', hn⟩
  k_steps
  · refine Stop.intro ?_
    refine callWith_b (id := "set.__contains__") (a := sj) ?_
    k_steps
    refine Stop.intro ?_
    refine str_at (j' - 1) (by lia) (by lia) hbl fun t' k'' => ?_
    k_steps
    · exact News.get (by k_asm) (by k_mem)
    refine Stop.intro ?_
    refine call_contains (News.get (by k_asm) (by k_mem)) (strKind_is pw w _ _) rfl (setOf_at hS (Fr.keep (by k_asm))) ?_
    rw [hjk _ (by lia)]
    cases hjj : jk (ch b (j' - 1)) with
    | false =>
      k_steps
      refine stop (fun h => by rw [hjj] at h; exact absurd h.2.2.1 (by decide)) _ _ _ F ⟨rfl, rfl, rfl, rfl, rfl, rfl, rfl, rfl, rfl, rfl, trivial⟩ N
    | true =>
      k_steps
      refine Stop.intro ?_
      refine str_at (n - 1) (by lia) (by lia) hal fun t' k'' => ?_
      k_steps
      refine Stop.intro ?_
      refine str_at (j' - 1) (by lia) (by lia) hbl fun t' k'' => ?_
      k_steps
      · rename_i hch _ _ _ _ _ _ _ F' N'
        rw [str1_eq, beq_iff_eq] at hch
        rw [show (n : Int) - 1 = ((n - 1 : Nat) : Int) by lia, show (j' : Int) - 1 = ((j' - 1 : Nat) : Int) by lia, show (k' : Int) + 1 = ((k' + 1 : Nat) : Int) by lia] at F'
        refine WhileStep.intro (n' := n - 1) F' (News.sub N' ?sub) (by lia) ⟨rfl, n - 1, j' - 1, k' + 1, _, _, _, rfl, ⟨rfl, rfl, rfl, rfl, rfl, rfl, rfl, rfl, rfl, rfl, trivial⟩, by lia, by lia, u + 1, by lia, by lia, by lia, fun v hv => ?_⟩
        case sub => exact fun p hp => List.mem_cons_of_mem _ hp
        cases v with
        | zero => exact ⟨hch, hjj⟩
        | succ v =>
          rw [show n - 1 + (v + 1) = n + v by lia, show j' - 1 + (v + 1) = j' + v by lia]
          exact hall v (by lia)
      · rename_i hch
        rw [str1_eq] at hch
        refine stop (fun h => ?_) _ _ _ F ⟨rfl, rfl, rfl, rfl, rfl, rfl, rfl, rfl, rfl, rfl, trivial⟩ N
        rw [h.2.2.2] at hch
        simp at hch
  · exact stop (by lia) _ _ _ F ⟨rfl, rfl, rfl, rfl, rfl, rfl, rfl, rfl, rfl, rfl, trivial⟩ N
  · exact stop (by lia) _ _ _ F ⟨rfl, rfl, rfl, rfl, rfl, rfl, rfl, rfl, rfl, rfl, trivial⟩ N
theorem flm_w4 {w : World} {dp un : Nat} {fr : Option (List Env)} {gd : Option (List Code)} {s : Shared} {g : Heap} {mg mb : Str → Option Value} {L : Addr} {m : Str → Option Value} {c sj : Addr} {rest : List (Addr × Obj)}
    {a b : Str} {jk : Nat → Bool} {S : Str → Bool} {sn alo ahi blo bhi i j k : Nat} {ta tb u1 u2 u3 u4 t3 t4 t5 : Tok} {Q : Flow → Shared → Prop}
    (X : (K w.params).In g) (T : TopRead q (looseW q loose) mg mb g) (hS : g.SetOf (strKind pw w) sj S sn) (hjk : ∀ v, v < b.cps.size → S ⟨#[ch b v]⟩ = jk (ch b v))
    (F : Fr g L s.heap m) (hm : HasL m (whLL a b c alo ahi blo bhi i j k ta tb u1 u2 u3 u4 t3 t4 t5)) (N : News g L s.heap ((c, boundObj "set.__contains__" sj) :: rest))
    (hi : i + k ≤ ahi) (hj : j + k ≤ bhi) (ha : ahi ≤ a.cps.size) (hb : bhi ≤ b.cps.size) (hal : a.cps.size < 1000) (hbl : b.cps.size < 1000)
    (hQ : ∀ h' tk m' k' t3 t4 t5, Fr g L h' m' → HasL m' (whLL a b c alo ahi blo bhi i j k' ta tb u1 u2 u3 u4 t3 t4 t5) → News g L h' ((c, boundObj "set.__contains__" sj) :: rest) → RightX a b jk true ahi bhi i j k k' → Q .next { s with heap := h', toks := tk }) :
    wpAny (model pw w) ((AR dp un fr gd).deeper (flmEnv L)) (exec (flmSt 11) (flmEnv L)) Q (fun _ _ => False) s := by
  conv in exec _ _ => arg 1; whnf
  delta flmEnv
  conv in (occs := *) envX _ _ _ _ _ _ => all_goals (arg 2; whnf)
  refine While_inv (RwJ a b jk true c sj rest alo ahi blo bhi i j k ta tb u1 u2 u3 u4) F N ⟨rfl, k, t3, t4, t5, rfl, hm, Nat.le_refl _, hi, hj, fun v hv hv' => absurd hv' (Nat.not_lt.mpr hv)⟩ ?_
  clear hm F N hi hj
  rintro n m₁ n₁ h₁ tk₁ F N ⟨rfl, k', t3, t4, t5, hn, hm, hk, hi, hj, hall⟩
  have em := ov_of hm
  rw [em] at F
  have stop : ¬ (i + k' < ahi ∧ j + k' < bhi ∧ jk (ch b (j + k')) = true ∧ ch a (i + k') = ch b (j + k')) → ∀ h₂ tk₂ m₂, Fr g L h₂ m₂ → HasL m₂ (whLL a b c alo ahi blo bhi i j k' ta tb u1 u2 u3 u4 t3 t4 t5) → News g L h₂ ((c, boundObj "set.__contains__" sj) :: rest) → Q .next { s with heap := h₂, toks := tk₂ } := fun hn h₂ tk₂ m₂ F₂ hm₂ N₂ =>
    hQ h₂ tk₂ m₂ k' t3 t4 t5 F₂ hm₂ N₂ ⟨hk, hi, hj, hall, hn⟩
  k_steps
  · refine Stop.intro ?_
    refine callWith_b (id := "set.__contains__") (a := sj) ?_
    k_steps
    refine Stop.intro ?_
    refine str_at (j + k') (by lia) (by lia) hbl fun t' k'' => ?_
    k_steps
    · exact News.get (by k_asm) (by k_mem)
    refine Stop.intro ?_
    refine call_contains (News.get (by k_asm) (by k_mem)) (strKind_is pw w _ _) rfl (setOf_at hS (Fr.keep (by k_asm))) ?_
    rw [hjk _ (by lia)]
    cases hjj : jk (ch b (j + k')) with
    | false =>
      k_steps
      exact stop (fun h => by rw [hjj] at h; exact absurd h.2.2.1 (by decide)) _ _ _ F ⟨rfl, rfl, rfl, rfl, rfl, rfl, rfl, rfl, rfl, rfl, trivial⟩ N
    | true =>
      k_steps
      refine Stop.intro ?_
      refine str_at (i + k') (by lia) (by lia) hal fun t' k'' => ?_
      k_steps
      refine Stop.intro ?_
      refine str_at (j + k') (by lia) (by lia) hbl fun t' k'' => ?_
      k_steps
      · have hch : ((⟨#[ch a (i + k')]⟩ : Str) == ⟨#[ch b (j + k')]⟩) = true := by assumption
        rename Fr _ _ _ _ => F'
        rw [str1_eq, beq_iff_eq] at hch
        rw [show (k' : Int) + 1 = ((k' + 1 : Nat) : Int) by lia] at F'
        refine WhileStep.intro (n' := n - 1) F' (by k_asm) (by lia) ⟨rfl, k' + 1, _, _, _, congrArg Nat.pred hn, ⟨rfl, rfl, rfl, rfl, rfl, rfl, rfl, rfl, rfl, rfl, trivial⟩, by lia, by lia, by lia, fun v hv hv' => ?_⟩
        by_cases h : v = k'
        · subst h; exact ⟨hch, hjj⟩
        · exact hall v hv (by lia)
      · rename_i hch
        rw [str1_eq] at hch
        refine stop (fun h => ?_) _ _ _ F ⟨rfl, rfl, rfl, rfl, rfl, rfl, rfl, rfl, rfl, rfl, trivial⟩ N
        rw [h.2.2.2] at hch
        simp at hch
  · exact stop (by lia) _ _ _ F ⟨rfl, rfl, rfl, rfl, rfl, rfl, rfl, rfl, rfl, rfl, trivial⟩ N
  · exact stop (by lia) _ _ _ F ⟨rfl, rfl, rfl, rfl, rfl, rfl, rfl, rfl, rfl, rfl, trivial⟩ N
end Mine
end
section
open PySem PySem.W PyProof.Rows PySem.Calls PySem.Spec
set_option Elab.async false
set_option maxRecDepth 1000000
set_option maxHeartbeats 8000000
namespace Mine
theorem regKM (P : Params) : K P = [] ∨ PySem.Challenge.rw_kl0396_01.name = PySem.Challenge.rw_kl0396_01.name := by
  k_fill
  exact .inr rfl
section
variable {w : World} {h : Heap}
noncomputable abbrev mCd : ClassData := { name := "Match", bases := [(.type "tuple")], mro := [(.ref 135), (.type "tuple"), (.type "object")], ns := 134, qualname := "Match", hasDict := false, slotNames := [], subclasses := [], abstract := false, collection := none, hasDel := false }
noncomputable abbrev mCls : Obj := ⟨(.type "type"), none, .cls mCd, #[(some (.ref 65)), none, (some (.str "Match" 253)), (some (.str "Match" 261)), (some .none), (some (.bool false))]⟩
theorem m135 (X : (K w.params).In h) : h.get? 135 = some mCls := X _ _ (by k_is)
theorem mro135 (X : (K w.params).In h) : Looks (model pw w) h (mroOf (.ref 135)) [(.ref 135), (.type "tuple"), (.type "object")] := ((Looks.ld (part := none) (m135 X)).andThen .now).andThen .now
theorem made135 (X : (K w.params).In h) : Looks (model pw w) h (Bind.madeBy (.ref 135)) none := by
  intro A Q E s k q
  unfold Bind.madeBy
  refine wpAny_bind (mro135 X A _ E s k ?_)
  rw [List.forIn_cons]
  refine wpAny_bind (wpAny_bind (wpAny_bind (wpAny_bind (wpAny_loadPart (k _ _ (m135 X)) (wpAny_pure ?_)))))
  exact wpAny_pure (wpAny_pure (wpAny_pure q))
theorem madeTup : Bind.madeBy (.type "tuple") = pure (some "tuple.__new__") := F.called_tuple.made
theorem best_tup : Builtin.Slots.bestBase [.type "tuple"] = pure (.type "tuple") := by kernel_rfl
theorem base135 (X : (K w.params).In h) : Looks (model pw w) h (Bind.staticBase (.ref 135)) (.type "tuple") := by
  intro A Q E s k q
  unfold Bind.staticBase
  refine wpAny_bind (mro135 X A _ E s k ?_)
  rw [List.forIn_cons]
  refine wpAny_bind (wpAny_bind (wpAny_bind (made135 X A _ E s k ?_)))
  dsimp only [Option.isSome]
  rw [if_neg (by decide)]
  refine wpAny_bind (wpAny_bind (wpAny_loadPart (k _ _ (m135 X)) (wpAny_pure ?_)))
  rw [best_tup]
  refine wpAny_bind (wpAny_pure (wpAny_pure ?_))
  dsimp only
  rw [List.forIn_cons]
  refine wpAny_bind (wpAny_bind ?_)
  dsimp only
  rw [madeTup]
  refine wpAny_pure ?_
  dsimp only
  rw [if_pos rfl]
  exact wpAny_pure (wpAny_pure (wpAny_pure q))
theorem sub135 (X : (K w.params).In h) : Looks (model pw w) h (isSubtype (.ref 135) (.type "tuple")) true := looks_subIn X (by k_is)
theorem init135 (X : (K w.params).In h) : Looks (model pw w) h (typeLookup (.ref 135) "__init__") (some (.builtin "object.__init__")) := looks_findIn X (by k_is)
theorem isT135 (X : (K w.params).In h) : Looks (model pw w) h (isType (.ref 135)) true := by
  unfold isType
  exact (Looks.ld (m135 X)).andThen .now
theorem here135 (X : (K w.params).In h) : Looks (model pw w) h (Bind.madeHere "tuple.__new__" (.ref 135)) () := by
  unfold Bind.madeHere
  refine (base135 X).andThen ?_
  rw [madeTup]
  refine (Looks.now).andThen ?_
  rw [if_neg (by decide +kernel)]
  exact .now
noncomputable abbrev mObj (d : Addr) (vs : Array Value) : Obj := { cls := .ref 135, dict := some d, data := .seq vs }
theorem tn_kind : builtinKind "tuple.__new__" = some .builtinFn := by decide +kernel
theorem tn_split : splitId "tuple.__new__" = some ("tuple", "__new__") := by decide +kernel
theorem tn_args (a b : Value) : (match Manifest.signature? "tuple.__new__" with | some sig => Bind.checkArgs "tuple.__new__" sig ⟨[a, b], []⟩ | none => pure ()) = pure () := by kernel_rfl
theorem check135 {A : Around} {E : Value → Shared → Prop} {s : Shared} {v : Value} {Q : Unit → Shared → Prop} (X : (K w.params).In s.heap) (q : Q () s) : wpAny (model pw w) A (checkBuiltinCall "tuple.__new__" ⟨[.ref 135, v], []⟩) Q E s := by
  obtain ⟨hh, g, d, t, os⟩ := s
  have h1 := isT135 X
  have h2 := sub135 X
  have h3 := base135 X
  have h4 := made135 X
  have h5 := tn_args (.ref 135) v
  have h6 : Looks (model pw w) hh (Bind.madeBy (.type "tuple")) (some "tuple.__new__") := Looks.of_pure madeTup
  unfold checkBuiltinCall
  rw [tn_kind, tn_split]
  dsimp only
  repeat (first | with_reducible refine wpAny_ite_false rfl ?_ | lk)
  exact q
/-- tuple.__new__(Match, a list or a tuple) -/
theorem tuple_new135 {A : Around} {s : Shared} {R : Result → Shared → Prop} {t : Addr} {T : String} {o : Obj} {items : Array Value} {n : Nat} (X : (K w.params).In s.heap) (hT : T = "list" ∨ T = "tuple")
    (ho : s.heap.get? t = some o) (hc : o.cls = .type T) (hd : o.data = .seq items n) (hsz : items.size ≤ sizeLine)
    (h : ∀ h' : Heap, (∀ b o, s.heap.get? b = some o → h'.get? b = some o) → R (.ok (.ret (.ref (h'.objs.size + 1)))) { s with heap := (h'.push emptyDict).push (mObj h'.objs.size items) }) :
    codeAny (model pw w) A (.call (.builtin "tuple.__new__") ⟨[.ref 135, .ref t], []⟩) R s := by
  refine codeAny_call_builtin_code (Code.quiet_builtin _ (by decide +kernel)) (check135 X ?_)
  refine codeAny_builtin F.entry_tuple_new ?_
  obtain ⟨hh, g, d, tk, os⟩ := s
  have h1 := isT135 X
  have h2 := sub135 X
  have h3 := here135 X
  have h4 := init135 X
  unfold Builtin.«tuple.__new__»
  repeat (first | with_reducible refine wpAny_ite_false rfl ?_ | with_reducible refine wpAny_collect_seq t hT ho hc hd (hsz := hsz) ?_ | lk)
  intro h' hk
  refine wpAny_bind (wpAny_pure ?_)
  refine wpAny_bind (wpAny_alloc (wpAny_bind ?_))
  unfold newObj
  dsimp only
  rw [if_neg (by simpa using hsz)]
  unfold newObjAsIs classHasDel
  refine wpAny_bind (wpAny_alloc (wpAny_bind (wpAny_bind (wpAny_load (Heap.get?_push_of_some _ (Heap.get?_push_of_some _ (hk _ _ (m135 X)))) (wpAny_pure ?_)))))
  refine wpAny_pure (wpAny_pure ?_)
  show R _ _
  have e : items.toList.toArray = items := by simp
  rw [e, Heap.size_push]
  exact h h' hk
end
local macro_rules | `(tactic| walk_at $s:str) => stopAt "call builtin:tuple.__new__|getMethod type" s
theorem tuple_get_new {w : World} {A : Around} {E : Value → Shared → Prop} {s : Shared} {Q : Value → Shared → Prop} {ex : Bool} (X : (K w.params).In s.heap) (h : Q (.builtin "tuple.__new__") { s with toks := s.toks + 1 }) : wpAny (model pw w) A (getAttr (.type "tuple") "__new__" ex) Q E s := by
  refine cls_open (mc := .type "type") (hook := none) (r := .val (.builtin "tuple.__new__")) X (Looks.of_pure (by kernel_rfl)) (Looks.of_pure (by kernel_rfl)) (by k_is) (looks_hook X (by rfl)) (by k_is) (by k_is) ?_
  exact wpAny_pure (by show wpAny _ _ (handedOut _) _ _ _; rw [handedOut_of (by decide +kernel)]; exact wpAny_pure h)
theorem tuple_dot_new {w : World} {A : Around} {E : Value → Shared → Prop} {s : Shared} {pl : Sem Bool} {Q : Value × List Value → Shared → Prop} (X : (K w.params).In s.heap) (h : Q (.builtin "tuple.__new__", []) { s with toks := s.toks + 1 }) : wpAny (model pw w) A (getMethod (.type "tuple") "__new__" pl) Q E s := by
  unfold getMethod
  refine wpAny_bind ((Looks.of_pure (by kernel_rfl) : Looks (model pw w) s.heap (specialOf (.type "tuple") "__getattribute__") (some (.builtin "type.__getattribute__"))).here ?_)
  dsimp only
  rw [if_pos canon_tga]
  exact wpAny_bind (tuple_get_new X (wpAny_pure h))
/-- Match.__new__ -/
theorem new82 {w : World} {dp un : Nat} {fr : Option (List Env)} {gd : Option (List Code)} {s : Shared} {R : Result → Shared → Prop} {g : Heap} {mg mb : Str → Option Value} {va vb vk : Value}
    (hkp : ∀ b o, g.get? b = some o → s.heap.get? b = some o) (X : (K w.params).In g) (T : TopRead q (looseW q loose) mg mb g) (hd : dp < 1000)
    (h : ∀ h' tk x d, (∀ b o, s.heap.get? b = some o → h'.get? b = some o) → h'.get? x = some (mObj d #[va, vb, vk]) → s.heap.get? x = none → R (.ok (.ret (.ref x))) { s with heap := h', toks := tk }) :
    codeAny (model pw w) (AR dp un fr gd) (.call (.ref 82) ⟨[.ref 135, va, vb, vk], []⟩) R s := by
  refine enterL [("_cls", .ref 135), ("a", va), ("b", vb), ("size", vk)] hkp X T (news := []) (fun _ hp => nomatch hp) (by k_is) (by k_is) hd (by first | exact BindsTo.of_eq rfl | exact binds_K (X.keeps hkp) rfl (by k_is) rfl rfl rfl) (locs rfl) ?_ (by decide) rfl rfl rfl
  clear X T
  intro g' L h₁ hin hof hno X T F N hlt
  conv in execs _ _ => arg 1; whnf
  conv in (occs := *) envX _ _ _ _ _ _ => all_goals (arg 2; whnf)
  k_steps
  refine Stop.intro ?_
  refine tuple_dot_new (X.keeps (Fr.keep (by k_asm))) ?_
  k_steps
  refine Stop.intro ?_
  rename Fr _ _ _ _ => F'
  rename News _ _ _ _ => N'
  obtain ⟨e1, _, _⟩ := N' _ (.head _)
  refine wpAny_call (tuple_new135 (X.keeps F'.keep) (.inr rfl) e1 rfl rfl (by show (3 : Nat) ≤ 16777216; decide) fun h' hk => ?_)
  refine h _ _ (h'.objs.size + 1) h'.objs.size (fun b o e => Heap.get?_push_of_some _ (Heap.get?_push_of_some _ (hk _ _ (F'.keep _ _ (hin b o e (by simp)))))) (by heap_get) ?_
  cases e : s.heap.get? (h'.objs.size + 1) with
  | none => rfl
  | some o => exact absurd (Heap.lt_size (hk _ _ (F'.keep _ _ (hin _ o e (by simp))))) (Nat.not_lt.mpr (Nat.le_succ _))
theorem oi135_args (a b c d : Value) : argsOk "object.__init__" ⟨[a, b, c, d], []⟩ := by unfold argsOk; kernel_rfl
theorem get_new135 {w : World} {A : Around} {E : Value → Shared → Prop} {s : Shared} {Q : Value → Shared → Prop} {ex : Bool} (X : (K w.params).In s.heap) (h : Q (.ref 82) { s with toks := s.toks + 1 }) : wpAny (model pw w) A (getAttr (.ref 135) "__new__" ex) Q E s := by
  refine cls_bind X (mc := .type "type") (g := .builtin "staticmethod.__get__") (a := .ref 136) (obj := .none) (tp := .ref 135) (by k_is) (by k_is) (wpAny_call ?_)
  refine sm_get X (f := .ref 82) (by k_is) ?_
  exact handed_on (by decide +kernel) h
theorem wt_call (a : Args) : (Code.builtin "type.__call__" a).weight ≤ 1 := by
  unfold Code.weight
  split <;> first | exact Nat.le_refl _ | exact Nat.zero_le _ | skip
/-- Match(a, b, size) -/
theorem make135 {w : World} {dp un : Nat} {fr : Option (List Env)} {gd : Option (List Code)} {s : Shared} {R : Result → Shared → Prop} {g : Heap} {mg mb : Str → Option Value} {va vb vk : Value}
    (hkp : ∀ b o, g.get? b = some o → s.heap.get? b = some o) (X : (K w.params).In g) (T : TopRead q (looseW q loose) mg mb g) (hd : dp < 900)
    (h : ∀ h' tk x d, (∀ b o, s.heap.get? b = some o → h'.get? b = some o) → h'.get? x = some (mObj d #[va, vb, vk]) → s.heap.get? x = none → R (.ok (.ret (.ref x))) { s with heap := h', toks := tk }) :
    codeAny (model pw w) (AR dp un fr gd) (.call (.ref 135) ⟨[va, vb, vk], []⟩) R s := by
  have X' := X.keeps hkp
  have hC := m135 X'
  obtain ⟨hh, g', d, t, os⟩ := s
  refine codeAny_of_tree ?_
  show wpAny _ _ (callAny (.ref 135) _) _ _ _
  refine nd_load hC ?_
  show wpAny _ _ (callAny.viaDunder (.ref 135) _) _ _ _
  unfold callAny.viaDunder
  refine wpAny_bind ((looks_specialIn X' (by k_is) : Looks (model pw w) hh (specialOf (.ref 135) "__call__") (some (.builtin "type.__call__"))).at ?_)
  dsimp only
  rw [tc_bind]
  refine wpAny_bind (wpAny_pure (wpAny_bind (wpAny_pure ?_)))
  refine wpAny_pure (a := Fin.again (.call (.builtin "type.__call__") ⟨[.ref 135, va, vb, vk], []⟩)) (And.intro rfl ?_)
  refine codeAny_call_builtin_at (Code.quiet_builtin _ (by decide +kernel)) entry_typeCall (@check_slot (model pw w) _ _ _ "type.__call__" "type" "__call__" (.ref 135) [va, vb, vk] [] _ tc_kind tc_split (looks_instIn X' (by k_is)) (tc_args (.ref 135) [va, vb, vk] []) ?_)
  unfold Builtin.«type.__call__»
  have hm := mro135 X'
  have hmade := made135 X'
  repeat (first | with_reducible refine wpAny_ite_false rfl ?_ | with_reducible refine get_new135 X' ?_ | with_reducible refine wpAny_call ?_ | lk)
  show codeAny _ (AR _ _ _ _) _ _ _
  refine new82 hkp X T (by show dp + _ < 1000; exact Nat.lt_of_le_of_lt (Nat.add_le_add_left (show (Code.builtin "type.__call__" _).weight ≤ 1 from wt_call _) dp) (by lia)) fun h' tk x d hk hx hno => ?_
  have X₁ := X'.keeps hk
  have t1 : Looks (model pw w) h' (typeOf (.ref x)) (.ref 135) := (Looks.ld hx).andThen .now
  have s1 : Looks (model pw w) h' (isSubtype (.ref 135) (.ref 135)) true := looks_subIn X₁ (by k_is)
  have i1 := init135 X₁
  have b1 : Looks (model pw w) h' (bindSpecial (.builtin "object.__init__") (.ref x)) (.builtin "object.__init__", [.ref x]) := Looks.of_pure (oi_bind _)
  unfold isInstance callSpecial? specialOf
  repeat (first | with_reducible refine wpAny_ite_false rfl ?_ | with_reducible refine wpAny_call ?_ | lk)
  have t2 : Looks (model pw w) h' (isInstance (.ref x) (.type "object")) true := t1.andThen (looks_subIn X₁ (by k_is))
  have m1 := made135 X₁
  refine codeAny_call_builtin oi_plain entry_oi (@check_slot (model pw w) _ _ _ "object.__init__" "object" "__init__" (.ref x) [va, vb, vk] [] _ oi_kind oi_split t2 (oi135_args (.ref x) va vb vk) ?_)
  unfold Builtin.«object.__init__»
  repeat (first | with_reducible refine wpAny_ite_false rfl ?_ | lk)
  exact h _ _ x d hk hx hno
end Mine
end
section
open PySem PySem.W PyProof.Rows PySem.Calls PySem.Spec
set_option Elab.async false
set_option maxRecDepth 1000000
set_option maxHeartbeats 8000000
namespace Mine
theorem regFZ (P : Params) : K P = [] ∨ PySem.Challenge.rw_kl0396_01.name = PySem.Challenge.rw_kl0396_01.name := by
  k_fill
  exact .inr rfl
noncomputable abbrev setObj (es : Array (Int × Value)) (n : Nat) (tb : SetTable) : Obj := { cls := .type "set", data := .set es n tb }
theorem contains_attr {w : World} {A : Around} {E : Value → Shared → Prop} {s : Shared} {g : Heap} {L : Addr} {m : Str → Option Value} {news : List (Addr × Obj)} {a : Addr} {es : Array (Int × Value)} {n : Nat} {tb : SetTable} {Q : Value → Shared → Prop}
    (F : Fr g L s.heap m) (N : News g L s.heap news) (hs : g.get? a = some (setObj es n tb))
    (h : ∀ c h', Fr g L h' m → News g L h' ((c, boundObj "set.__contains__" a) :: news) → (∀ p ∈ news, p.1 < c) → Q (.ref c) { s with heap := h', toks := s.toks + 1 }) :
    wpAny (model pw w) A (getAttr (.ref a) "__contains__" true) Q E s :=
  getAttr_set_contains (F.keep _ _ hs) (h _ _ (F.push _) (News.push F N _) fun p hp => Heap.lt_size (N p hp).1)
theorem stopContains {w : World} {A : Around} {E : Value → Shared → Prop} {s : Shared} {a : Addr} {b : Bool} {Q : Value → Shared → Prop} (h : Stop (wpAny (model pw w) A (getAttr (.ref a) (PySem.Str.ofString "__contains__") b) Q E s)) : wpAny (model pw w) A (getAttr (.ref a) (PySem.Str.ofString "__contains__") b) Q E s := h
local macro_rules | `(tactic| walk_at $s:str) => stopAt "exec For Name Call cons nil|exec While|pyIter ref|call ref" s
local macro_rules | `(tactic| walk_at "getAttr ref") => `(tactic| (with_reducible refine stopContains ?_))
/-- what find_longest_match finds -/
inductive FLM (a b : Str) (jk : Nat → Bool) (alo ahi blo bhi i j k : Nat) : Prop
  | mk (i0 j0 k0 i1 j1 k1 k2 i3 j3 k3 : Nat) (hB : Best a b jk alo blo (allS bhi ahi) i0 j0 k0) (h1 : LeftX a b jk false alo blo i0 j0 k0 i1 j1 k1) (h2 : RightX a b jk false ahi bhi i1 j1 k1 k2) (h3 : LeftX a b jk true alo blo i1 j1 k2 i3 j3 k3) (h4 : RightX a b jk true ahi bhi i3 j3 k3 k) (ei : i = i3) (ej : j = j3)
theorem B2J.keeps {w : World} {g g' : Heap} {db : Addr} {b : Str} {jk : Nat → Bool} (h : B2J w g db b jk) (hk : ∀ b o, g.get? b = some o → g'.get? b = some o) : B2J w g' db b jk := by
  obtain ⟨h0, f, hf, hc⟩ := h
  refine ⟨h0, f, mapOf_at hf hk, fun c => ?_⟩
  rcases hc c with ⟨e, l, vs, h1, h2, h3⟩ | h
  · exact .inl ⟨e, l, vs, h1, h2.at fun o e => hk _ o e, h3⟩
  · exact .inr h
theorem suf_span {a b : Str} {jk : Nat → Bool} {alo blo : Nat} : ∀ i j, 0 < suf a b jk alo blo i j → alo + suf a b jk alo blo i j ≤ i + 1 ∧ blo + suf a b jk alo blo i j ≤ j + 1
  | 0, j, h => by
    simp only [suf_0, suf_s0, suf_ss] at h ⊢
    split at h
    · rename_i c; rw [if_pos c]; lia
    · lia
  | i + 1, 0, h => by
    simp only [suf_0, suf_s0, suf_ss] at h ⊢
    split at h
    · rename_i c; rw [if_pos c]; lia
    · lia
  | i + 1, j + 1, h => by
    simp only [suf_0, suf_s0, suf_ss] at h ⊢
    split at h
    · rename_i c
      rw [if_pos c]
      by_cases hz : 0 < suf a b jk alo blo i j
      · have := suf_span i j hz; lia
      · lia
    · lia
theorem ar_i {e s : Nat} (h : s ≤ e + 1) : (e : Int) - s + 1 = ((e + 1 - s : Nat) : Int) := by lia
theorem Best.nat {a b : Str} {jk : Nat → Bool} {alo ahi blo bhi : Nat} {bi bj bs : Int} (h : Best a b jk alo blo (allS bhi ahi) bi bj bs) (h1 : alo ≤ ahi) (h2 : blo ≤ bhi) :
    ∃ i j k : Nat, bi = i ∧ bj = j ∧ bs = k ∧ alo ≤ i ∧ blo ≤ j ∧ i + k ≤ ahi ∧ j + k ≤ bhi := by
  rcases h with ⟨e0, e1, e2, e3⟩ | ⟨p, ei, ej, hs, e1, e2, e3, e4⟩
  · exact ⟨alo, blo, 0, e1, e2, e0, Nat.le_refl _, Nat.le_refl _, h1, h2⟩
  · obtain ⟨a1, a2⟩ := suf_span ei ej (Int.natCast_pos.mp (e1 ▸ p))
    have b1 := Nat.le_trans (Nat.le_add_left _ _) a1
    have b2 := Nat.le_trans (Nat.le_add_left _ _) a2
    refine ⟨ei + 1 - suf a b jk alo blo ei ej, ej + 1 - suf a b jk alo blo ei ej, suf a b jk alo blo ei ej, ?_, ?_, e1.symm, Nat.le_sub_of_add_le a1, Nat.le_sub_of_add_le a2, ?_, ?_⟩
    · rw [e2, ← e1]; exact ar_i b1
    · rw [e3, ← e1]; exact ar_i b2
    · rw [Nat.sub_add_cancel b1]; exact hs.1
    · rw [Nat.sub_add_cancel b2]; exact hs.2
/-- what holds between the turns of the outer loop -/
inductive FzJ (w : World) (a b : Str) (jk : Nat → Bool) (db sj l' c' : Addr) (ex ed : Addr × Obj) (alo ahi blo bhi : Nat) (t1 t2 : Tok) (t : Nat) (m₁ : Str → Option Value) (n₁ : List (Addr × Obj)) : Prop
  | mk (d : Addr) (od : Obj) (kvs : List (Int × Value)) (prow : Int → Int) (bi bj bs : Int) (ta' tb' u1 u2 u3 u4 u5 : Tok) (e : n₁ = (d, od) :: (l', W.listOf #[] 0) :: [(c', boundObj "set.__contains__" sj), ex, ed])
      (hm : HasL m₁ (("isbjunk", .ref c') :: ("alo", .int alo t1) :: ("ahi", .int ahi t2) :: outLL a b db l' d blo bhi bi bj bs ta' tb' u1 u2 u3 u4 u5)) (h1 : od.IsDictOf (intKind pw w) kvs) (h2 : (d == sysModules) = false) (h3 : d ≠ l') (h4 : RowIs kvs prow)
      (h5 : ∀ j : Nat, prow j = if alo + t = 0 ∨ ¬ j < bhi then 0 else suf a b jk alo blo (alo + t - 1) j) (h6 : prow (-1) = 0) (h7 : Best a b jk alo blo (allS bhi (alo + t)) bi bj bs)
theorem flm {w : World} {dp un : Nat} {fr : Option (List Env)} {gd : Option (List Code)} {s : Shared} {R : Result → Shared → Prop} {g : Heap} {mg mb : Str → Option Value} {x dx : Addr} {k : List Tok} {isj aj mbv op bp : Value} {a b : Str} {ta tb : Tok} {db sj : Addr} {n : Nat} {alo ahi blo bhi : Nat} {t1 t2 t3 t4 : Tok}
    {jk : Nat → Bool} {ses : Array (Int × Value)} {sn sm : Nat} {stb : SetTable} {S : Str → Bool}
    (hkp : ∀ b o, g.get? b = some o → s.heap.get? b = some o) (X : (K w.params).In g) (T : TopRead q (looseW q loose) mg mb g)
    (N : Led g s.heap [(x, instObj 242 dx), (dx, dictOf (smEs w.params k isj a b ta tb aj mbv op (.ref db) (.ref sj) bp) n)])
    (hB : B2J w g db b jk) (hsj : g.get? sj = some (setObj ses sn stb)) (hS : g.SetOf (strKind pw w) sj S sm) (hjk : ∀ v, v < b.cps.size → S ⟨#[ch b v]⟩ = jk (ch b v))
    (ha : a.cps.size < 1000) (hb : b.cps.size < 1000) (hahi : ahi ≤ a.cps.size) (hbhi : bhi ≤ b.cps.size) (halo : alo ≤ ahi) (hblo : blo ≤ bhi) (hd : dp < 500) (hu : un < 500)
    (hRes : ∀ h' tk x' d i j k ti tj tk', (∀ b o, s.heap.get? b = some o → h'.get? b = some o) → h'.get? x' = some (mObj d #[.int (i : Nat) ti, .int (j : Nat) tj, .int (k : Nat) tk']) → s.heap.get? x' = none → FLM a b jk alo ahi blo bhi i j k → R (.ok (.ret (.ref x'))) { s with heap := h', toks := tk }) :
    codeAny (model pw w) (AR dp un fr gd) (.call (.ref 196) ⟨[.ref x, .int alo t1, .int ahi t2, .int blo t3, .int bhi t4], []⟩) R s := by
  have hsx : s.heap.get? x = _ := (N _ (.head _)).1
  have hsd : s.heap.get? dx = _ := (N _ (.tail _ (.head _))).1
  have hgx : g.get? x = none := (N _ (.head _)).2
  have hgd : g.get? dx = none := (N _ (.tail _ (.head _))).2
  refine enterL [("self", .ref x), ("alo", .int alo t1), ("ahi", .int ahi t2), ("blo", .int blo t3), ("bhi", .int bhi t4)] hkp X T N (by k_is) (by k_is) (Nat.lt_trans hd (by decide)) (by first | exact BindsTo.of_eq rfl | exact binds_K (X.keeps hkp) rfl (by k_is) rfl rfl rfl) (locs rfl) ?_ (by decide) rfl rfl rfl
  clear X T N
  intro g' L h₁ hin hof hno X T F N hlt
  have hgg : ∀ b o, g.get? b = some o → g'.get? b = some o := fun b o e => hin b o (hkp b o e) fun hm => by
    simp only [List.map_cons, List.map_nil, List.mem_cons, List.not_mem_nil, or_false] at hm
    rcases hm with rfl | rfl
    · rw [hgx] at e; cases e
    · rw [hgd] at e; cases e
  have hsj' := hgg _ _ hsj
  have hB' := hB.keeps hgg
  have hS' := setOf_at hS hgg
  conv in execs _ _ => arg 1; whnf
  conv in (occs := *) envX _ _ _ _ _ _ => all_goals (arg 2; whnf)
  (try k_fold)
  k_steps
  refine Stop.intro ?_
  refine contains_attr (by k_asm) (by k_asm) (by assumption) ?_
  intro c' h' F' N' lc
  k_lt lc
  k_sweep
  k_steps
  refine Stop.intro ?_
  refine For_invVF (by k_asm) (by rfl) (by rfl) ?_
  k_steps
  refine Stop.intro ?_
  rename_i _ _ ld1 _ _ _ _ _ _ _ ld2 _ _ _ _ d' _ o' lo' _ _ hi' _ ld3 _ l' _ ll _ _ _ _ _ _ _ _ hR _ _ _
  refine loopRange (news := (d', o') :: (l', W.listOf #[] 0) :: [(c', boundObj "set.__contains__" sj), (x, instObj 242 dx), (dx, dictOf (smEs w.params k isj a b ta tb aj mbv op (.ref db) (.ref sj) bp) n)]) rfl hR (by lia) (by lia) (by lia) (by lia) (by k_asm) (News.sub (by k_asm) ?sub)
    (FzJ w a b jk db sj l' c' (x, instObj 242 dx) (dx, dictOf (smEs w.params k isj a b ta tb aj mbv op (.ref db) (.ref sj) bp) n) alo ahi blo bhi t1 t2) ?start ?step ?done
  case sub =>
    intro p hp
    simp only [List.mem_cons, List.not_mem_nil, or_false] at hp ⊢
    rcases hp with h | h | h | h | h
    · exact .inr (.inl h)
    · exact .inl h
    · exact .inr (.inr (.inr (.inr (.inl h))))
    · exact .inr (.inr (.inr (.inr (.inr (.inl h)))))
    · exact .inr (.inr (.inr (.inr (.inr (.inr h)))))
  case start =>
    refine ⟨d', o', [], fun _ => 0, alo, blo, 0, _, _, _, _, _, _, _, rfl, ⟨rfl, rfl, rfl, rfl, rfl, rfl, rfl, rfl, rfl, rfl, rfl, rfl, rfl, trivial⟩, hi', lo', Nat.ne_of_lt ll.1, RowIs.nil, fun j => ?_, rfl, .inl ⟨rfl, rfl, rfl, fun i j hs => suf_low_i a b jk alo blo (by have := hs.1; lia)⟩⟩
    by_cases h : alo + 0 = 0 ∨ ¬ j < bhi
    · rw [if_pos h]; rfl
    · rw [if_neg h, suf_low_i a b jk alo blo (by lia)]; rfl
  case step =>
    rintro i tv m₁ news₁ h tk I oI hi ⟨d, od, kvs, prow, bi, bj, bs, ta', tb', u1, u2, u3, u4, u5, rfl, hm, hod, hlo, hdl, hrow, hprow, hprow', hbest⟩ hoff F1 N1
    rw [show (alo : Int) + (i : Int) = ((alo + i : Nat) : Int) by lia] at F1
    have hor : ∀ p ∈ [(c', boundObj "set.__contains__" sj), (x, instObj 242 dx), (dx, dictOf (smEs w.params k isj a b ta tb aj mbv op (.ref db) (.ref sj) bp) n)], p.1 < l' := by
      intro p hp
      simp only [List.mem_cons, List.not_mem_nil, or_false] at hp
      rcases hp with rfl | rfl | rfl
      · exact ll.2.2.2.1
      · exact ll.2.2.2.2.1
      · exact ll.2.2.2.2.2
    refine flm_outer (rest := (I, oI) :: [(c', boundObj "set.__contains__" sj), (x, instObj 242 dx), (dx, dictOf (smEs w.params k isj a b ta tb aj mbv op (.ref db) (.ref sj) bp) n)]) X T hB' F1 hm.2.2.2 (News.sub N1 ?sub1) ⟨hdl, ?hdis⟩ hod hlo (Nat.le_add_right _ _) (by lia) ha hbhi hb hrow hprow hprow' hbest ?hq
    case sub1 =>
      intro p hp
      simp only [List.mem_cons, List.not_mem_nil, or_false] at hp ⊢
      rcases hp with h | h | h | h
      · exact .inr (.inl h)
      · exact .inr (.inr (.inl h))
      · exact .inl h
      · exact .inr (.inr (.inr h))
    case hdis =>
      intro p hp
      rcases List.mem_cons.mp hp with rfl | hp
      · exact fun e => hoff (l', W.listOf #[] 0) (by simp) _ (List.mem_singleton.mpr rfl) e.symm
      · exact Nat.ne_of_lt (hor p hp)
    case hq =>
      intro h' tk' m' d2 od2 kvs2 bi' bj' bs' ta2 tb2 v1 v2 v3 v4 v5 F2 hm2 hfr N2 hod2 hlo2 hrow2 hbest2 hlt2
      refine TurnEnd.intro (news' := (d2, od2) :: (l', W.listOf #[] 0) :: [(c', boundObj "set.__contains__" sj), (x, instObj 242 dx), (dx, dictOf (smEs w.params k isj a b ta tb aj mbv op (.ref db) (.ref sj) bp) n)]) F2 (News.sub N2 ?sub2) ?off ⟨d2, od2, kvs2, _, bi', bj', bs', ta2, tb2, v1, v2, v3, v4, v5, rfl, ⟨(hfr "isbjunk" (by decide)).trans hm.1, (hfr "alo" (by decide)).trans hm.2.1, (hfr "ahi" (by decide)).trans hm.2.2.1, hm2⟩, hod2, hlo2, Nat.ne_of_gt (hlt2 (l', W.listOf #[] 0) (by simp)), hrow2, fun j => ?_, by simp [rowAll], hbest2⟩
      case sub2 =>
        intro p hp
        simp only [List.cons_append, List.nil_append, List.mem_cons, List.not_mem_nil, or_false] at hp ⊢
        rcases hp with h | h | h | h
        · exact .inr (.inr (.inl h))
        · exact .inl h
        · exact .inr (.inl h)
        · exact .inr (.inr (.inr h))
      case off =>
        intro p hp o ho
        rw [List.mem_singleton.mp ho]
        rcases List.mem_cons.mp hp with rfl | hp
        · exact Nat.ne_of_gt (hlt2 (I, oI) (by simp))
        · exact hoff p (List.mem_cons_of_mem _ hp) _ (List.mem_singleton.mpr rfl)
      · unfold rowAll
        by_cases h : j < bhi
        · rw [if_pos ⟨by lia, by lia⟩, if_neg (by lia)]; simp [Nat.add_assoc]
        · rw [if_neg (by lia), if_pos (.inr h)]; rfl
  case done =>
    rintro h' tk m' news' F1 N1 ⟨d, od, kvs, prow, bi, bj, bs, ta', tb', u1, u2, u3, u4, u5, rfl, hm, hod, hlo, hdl, hrow, hprow, hprow', hbest⟩
    rw [show alo + ((ahi : Int) - (alo : Int)).toNat = ahi by lia] at hbest
    obtain ⟨i0, j0, k0, rfl, rfl, rfl, b1, b2, b3, b4⟩ := hbest.nat halo hblo
    have hmW : HasL m' (whLL a b c' alo ahi blo bhi i0 j0 k0 ta' tb' t1 t2 u1 u2 u3 u4 u5) := ⟨hm.2.2.2.1, hm.2.2.2.2.1, hm.1, hm.2.1, hm.2.2.1, hm.2.2.2.2.2.2.2.2.1, hm.2.2.2.2.2.2.2.2.2.1, hm.2.2.2.2.2.2.2.2.2.2.1, hm.2.2.2.2.2.2.2.2.2.2.2.1, hm.2.2.2.2.2.2.2.2.2.2.2.2.1, trivial⟩
    k_steps
    refine Stop.intro ?_
    refine flm_w1 (rest := [(x, instObj 242 dx), (dx, dictOf (smEs w.params k isj a b ta tb aj mbv op (.ref db) (.ref sj) bp) n)]) X T hS' hjk F1 hmW (News.sub N1 fun p hp => ?_) b1 b2 (by lia) (by lia) ha hb fun h2 tk2 m2 i1 j1 k1 _ _ _ F2 hm2 N2 hL1 => ?_
    · exact List.mem_cons_of_mem _ (List.mem_cons_of_mem _ hp)
    obtain ⟨v1, w1, w2, w3, w4, w5, w6, w7⟩ := id hL1
    k_steps
    refine Stop.intro ?_
    refine flm_w2 (rest := [(x, instObj 242 dx), (dx, dictOf (smEs w.params k isj a b ta tb aj mbv op (.ref db) (.ref sj) bp) n)]) X T hS' hjk F2 hm2 N2 (by lia) (by lia) hahi hbhi ha hb fun h3 tk3 m3 k2 _ _ _ F3 hm3 N3 hR2 => ?_
    obtain ⟨x1, x2, x3, x4, x5⟩ := id hR2
    k_steps
    refine Stop.intro ?_
    refine flm_w3 (rest := [(x, instObj 242 dx), (dx, dictOf (smEs w.params k isj a b ta tb aj mbv op (.ref db) (.ref sj) bp) n)]) X T hS' hjk F3 hm3 N3 w5 w6 (by lia) (by lia) ha hb fun h4 tk4 m4 i3 j3 k3 _ _ _ F4 hm4 N4 hL3 => ?_
    obtain ⟨v2, y1, y2, y3, y4, y5, y6, y7⟩ := id hL3
    k_steps
    refine Stop.intro ?_
    refine flm_w4 (rest := [(x, instObj 242 dx), (dx, dictOf (smEs w.params k isj a b ta tb aj mbv op (.ref db) (.ref sj) bp) n)]) X T hS' hjk F4 hm4 N4 (by lia) (by lia) hahi hbhi ha hb fun h5 tk5 m5 k4 _ _ _ F5 hm5 N5 hR4 => ?_
    have em := ov_of hm5
    rw [em] at F5 hm5
    clear em
    k_steps
    refine Stop.intro ?_
    refine wpAny_call ?_
    show codeAny _ (AR _ _ _ _) _ _ _
    refine make135 F5.keep X T (by show dp + 1 < 900; lia) fun h6 tk6 x6 d6 hk6 hx6 hn6 => ?_
    have hks : ∀ b o, s.heap.get? b = some o → h5.get? b = some o := fun b o e => by
      by_cases h1 : b = x
      · subst h1; rw [hsx] at e; rw [← e]; exact (N5 _ (.tail _ (.head _))).1
      · by_cases h2 : b = dx
        · subst h2; rw [hsd] at e; rw [← e]; exact (N5 _ (.tail _ (.tail _ (.head _)))).1
        · exact F5.keep _ _ (hin b o e (by simp [h1, h2]))
    refine hRes h6 tk6 x6 d6 i3 j3 k4 _ _ _ (fun b o e => hk6 _ _ (hks b o e)) hx6 ?_ ⟨i0, j0, k0, i1, j1, k1, k2, i3, j3, k3, hbest, hL1, hR2, hL3, hR4, rfl, rfl⟩
    cases e : s.heap.get? x6 with
    | none => rfl
    | some o => exact absurd ((hks _ _ e).symm.trans hn6) (by simp)
end Mine
end
section
set_option maxRecDepth 100000
namespace Mine
open PySem
/-! ## the blocks of a piece, and the queue -/
noncomputable abbrev Piece := Nat × Nat × Nat × Nat
noncomputable abbrev Blk := Nat × Nat × Nat
theorem FLM.bounds {a b : Str} {jk : Nat → Bool} {alo ahi blo bhi i j k : Nat} (h : FLM a b jk alo ahi blo bhi i j k) : alo ≤ i ∧ blo ≤ j ∧ i + k ≤ ahi ∧ j + k ≤ bhi := by
  obtain ⟨i0, j0, k0, i1, j1, k1, k2, i3, j3, k3, _, _, _, h3, h4, rfl, rfl⟩ := h
  obtain ⟨_, _, _, _, _, a5, a6, _⟩ := h3
  obtain ⟨_, b2, b3, _, _⟩ := h4
  exact ⟨a5, a6, b2, b3⟩
inductive RecP (a b : Str) (jk : Nat → Bool) : Piece → List Blk → Prop
  | nil {alo ahi blo bhi i j} : FLM a b jk alo ahi blo bhi i j 0 → RecP a b jk (alo, ahi, blo, bhi) []
  | node {alo ahi blo bhi i j k l r} : FLM a b jk alo ahi blo bhi i j k → 0 < k → (alo < i ∧ blo < j → RecP a b jk (alo, i, blo, j) l) → (¬ (alo < i ∧ blo < j) → l = []) →
      (i + k < ahi ∧ j + k < bhi → RecP a b jk (i + k, ahi, j + k, bhi) r) → (¬ (i + k < ahi ∧ j + k < bhi) → r = []) → RecP a b jk (alo, ahi, blo, bhi) (l ++ (i, j, k) :: r)
inductive All2 {α β : Type} (R : α → β → Prop) : List α → List β → Prop
  | nil : All2 R [] []
  | cons {x y l m} : R x y → All2 R l m → All2 R (x :: l) (y :: m)
/-- the queue's promise: what it still holds, with the blocks so far, makes the blocks of the whole -/
noncomputable def Owes (a b : Str) (jk : Nat → Bool) (q0 : Piece) (qs : List Piece) (bs : List Blk) : Prop :=
  ∀ ls, All2 (RecP a b jk) qs ls → ∃ bl, RecP a b jk q0 bl ∧ bl.Perm (bs ++ ls.flatten)
theorem Owes.start {a b : Str} {jk : Nat → Bool} {q0 : Piece} : Owes a b jk q0 [q0] [] := by
  intro ls h
  cases h with
  | cons h1 h2 => cases h2; exact ⟨_, h1, by simp⟩
theorem Owes.fin {a b : Str} {jk : Nat → Bool} {q0 : Piece} {bs : List Blk} (h : Owes a b jk q0 [] bs) : ∃ bl, RecP a b jk q0 bl ∧ bl.Perm bs := by
  obtain ⟨bl, h1, h2⟩ := h [] .nil
  exact ⟨bl, h1, by simpa using h2⟩
theorem forall2_append {α β : Type} {R : α → β → Prop} : ∀ {l1 l2 : List α} {m : List β}, All2 R (l1 ++ l2) m → ∃ m1 m2, m = m1 ++ m2 ∧ All2 R l1 m1 ∧ All2 R l2 m2
  | [], l2, m, h => ⟨[], m, rfl, .nil, h⟩
  | x :: l1, l2, _, .cons hx h => by
    obtain ⟨m1, m2, rfl, h1, h2⟩ := forall2_append h
    exact ⟨_ :: m1, m2, rfl, .cons hx h1, h2⟩
theorem forall2_join {α β : Type} {R : α → β → Prop} {l1 l2 : List α} {m1 m2 : List β} (h1 : All2 R l1 m1) (h2 : All2 R l2 m2) : All2 R (l1 ++ l2) (m1 ++ m2) := by
  induction h1 with
  | nil => exact h2
  | cons h _ ih => exact .cons h ih
theorem Owes.none {a b : Str} {jk : Nat → Bool} {q0 : Piece} {qs : List Piece} {bs : List Blk} {alo ahi blo bhi i j : Nat} (h : Owes a b jk q0 (qs ++ [(alo, ahi, blo, bhi)]) bs) (hf : FLM a b jk alo ahi blo bhi i j 0) : Owes a b jk q0 qs bs := by
  intro ls hl
  obtain ⟨bl, h1, h2⟩ := h (ls ++ [[]]) (forall2_join hl (.cons (.nil hf) .nil))
  exact ⟨bl, h1, by simpa using h2⟩
theorem Owes.some {a b : Str} {jk : Nat → Bool} {q0 : Piece} {qs : List Piece} {bs : List Blk} {alo ahi blo bhi i j k : Nat} (h : Owes a b jk q0 (qs ++ [(alo, ahi, blo, bhi)]) bs) (hf : FLM a b jk alo ahi blo bhi i j k) (hk : 0 < k) :
    Owes a b jk q0 (qs ++ (if alo < i ∧ blo < j then [(alo, i, blo, j)] else []) ++ (if i + k < ahi ∧ j + k < bhi then [(i + k, ahi, j + k, bhi)] else [])) (bs ++ [(i, j, k)]) := by
  intro ls hl
  obtain ⟨l1, lr, rfl, hl1, hr⟩ := forall2_append hl
  obtain ⟨l0, ll, rfl, hl0, hl⟩ := forall2_append hl1
  have hL : ∃ l, (alo < i ∧ blo < j → RecP a b jk (alo, i, blo, j) l) ∧ (¬ (alo < i ∧ blo < j) → l = []) ∧ ll.flatten = l := by
    by_cases c : alo < i ∧ blo < j
    · rw [if_pos c] at hl
      cases hl with
      | cons x y => cases y; exact ⟨_, fun _ => x, fun n => absurd c n, by simp⟩
    · rw [if_neg c] at hl
      cases hl
      exact ⟨[], fun n => absurd n c, fun _ => rfl, rfl⟩
  have hR : ∃ r, (i + k < ahi ∧ j + k < bhi → RecP a b jk (i + k, ahi, j + k, bhi) r) ∧ (¬ (i + k < ahi ∧ j + k < bhi) → r = []) ∧ lr.flatten = r := by
    by_cases c : i + k < ahi ∧ j + k < bhi
    · rw [if_pos c] at hr
      cases hr with
      | cons x y => cases y; exact ⟨_, fun _ => x, fun n => absurd c n, by simp⟩
    · rw [if_neg c] at hr
      cases hr
      exact ⟨[], fun n => absurd n c, fun _ => rfl, rfl⟩
  obtain ⟨l, a1, a2, a3⟩ := hL
  obtain ⟨r, b1, b2, b3⟩ := hR
  obtain ⟨bl, h1, h2⟩ := h (l0 ++ [l ++ (i, j, k) :: r]) (forall2_join hl0 (.cons (.node hf hk a1 a2 b1 b2) .nil))
  refine ⟨bl, h1, h2.trans ?_⟩
  simp only [List.flatten_append, List.flatten_cons, List.flatten_nil, List.append_nil, a3, b3, List.append_assoc, List.singleton_append]
  refine List.Perm.append_left bs ?_
  have e1 : (l0.flatten ++ (l ++ (i, j, k) :: r)) = (l0.flatten ++ l) ++ (i, j, k) :: r := by simp
  have e2 : ((i, j, k) :: (l0.flatten ++ (l ++ r))) = (i, j, k) :: ((l0.flatten ++ l) ++ r) := by simp
  rw [e1, e2]
  exact List.perm_middle
end Mine
end
section
set_option maxRecDepth 100000
namespace Mine
open PySem
/-! ## rows laid out -/
structure Lay (T L : Str) (jk : Nat → Bool) (n : Nat) (o c mu wd tp lp off : Nat → Nat) : Prop where
  npos : 0 < n
  tp0 : tp 0 = 0
  lp0 : lp 0 = 0
  tps : ∀ r, r < n → tp (r + 1) = tp r + o r + c r
  lps : ∀ r, r < n → lp (r + 1) = lp r + mu r + o r + c r
  mun : mu n = 0
  tn : tp n = T.cps.size
  ln : lp n = L.cps.size
  ownj : ∀ r t, r < n → t < o r → jk (ch T (tp r + t)) = true
  leadj : ∀ r t, r < n → t < mu r + o r → jk (ch L (lp r + t)) = true
  own : ∀ r t, r < n → t < o r → ch T (tp r + t) = ch L (lp r + mu r + t)
  core : ∀ r t, r < n → t < c r → ch T (tp r + o r + t) = ch L (lp r + mu r + o r + t)
  corej : ∀ r t, r < n → t < c r → jk (ch L (lp r + mu r + o r + t)) = false
  lead : ∀ r, r < n → 0 < mu r + o r
  wdc : ∀ r, r < n → wd r < c r
  wd0 : ∀ r, r < n → o r = 0 → 0 < wd r
  wdl : ∀ r t, r < n → t < wd r → ch L (lp r + mu r + o r + t) ≠ 10
  wdf : ∀ r t, r < n → wd r ≤ t → t < c r → ch L (lp r + mu r + o r + t) = 10
  offo : ∀ r, r < n → off r ≤ o r
  offe : ∀ r t, r < n → t < off r → ch T (tp r + t) = ch L (lp r + t)
  offn : ∀ r, r < n → off r < o r → ch T (tp r + off r) ≠ ch L (lp r + off r)
/-- how many of the row's own blanks the run ahead takes -/
noncomputable def oo (n : Nat) (c off : Nat → Nat) (r : Nat) : Nat := if 0 < r ∧ r < n ∧ c r ≤ c (r - 1) then off r else 0
noncomputable def FMax (c : Nat → Nat) (x y m : Nat) : Prop := x ≤ m ∧ m < y ∧ (∀ r, x ≤ r → r < y → c r ≤ c m) ∧ ∀ r, x ≤ r → r < m → c r < c m
theorem FMax.ex (c : Nat → Nat) (x : Nat) : ∀ d, ∃ m, FMax c x (x + d + 1) m := by
  intro d
  induction d with
  | zero =>
    refine ⟨x, Nat.le_refl _, by lia, fun r h1 h2 => ?_, fun r h1 h2 => by lia⟩
    have : r = x := by lia
    rw [this]; exact Nat.le_refl _
  | succ d ih =>
    obtain ⟨m, h1, h2, h3, h4⟩ := ih
    by_cases h : c m < c (x + d + 1)
    · refine ⟨x + d + 1, by lia, by lia, fun r a1 a2 => ?_, fun r a1 a2 => ?_⟩
      · by_cases e : r = x + d + 1
        · subst e; exact Nat.le_refl _
        · have := h3 r a1 (by lia); lia
      · have := h3 r a1 (by lia); lia
    · refine ⟨m, h1, by lia, fun r a1 a2 => ?_, h4⟩
      by_cases e : r = x + d + 1
      · subst e; lia
      · exact h3 r a1 (by lia)
/-! ## words about suf -/
theorem suf_all {a b : Str} {jk : Nat → Bool} {alo blo : Nat} : ∀ i j t, t < suf a b jk alo blo i j → t ≤ i ∧ t ≤ j ∧ alo ≤ i - t ∧ blo ≤ j - t ∧ ch a (i - t) = ch b (j - t) ∧ jk (ch b (j - t)) = false := by
  intro i
  induction i with
  | zero =>
    intro j t h
    simp only [suf_0, suf_s0, suf_ss] at h
    split at h
    · rename_i e
      have : t = 0 := by lia
      subst this
      have := e.2.2
      unfold eqv at this
      simp only [Bool.and_eq_true, beq_iff_eq, Bool.not_eq_true'] at this
      exact ⟨by lia, by lia, e.1, e.2.1, this.1, this.2⟩
    · lia
  | succ i ih =>
    intro j t h
    cases j with
    | zero =>
      simp only [suf_0, suf_s0, suf_ss] at h
      split at h
      · rename_i e
        have : t = 0 := by lia
        subst this
        have := e.2.2
        unfold eqv at this
        simp only [Bool.and_eq_true, beq_iff_eq, Bool.not_eq_true'] at this
        exact ⟨by lia, by lia, e.1, e.2.1, this.1, this.2⟩
      · lia
    | succ j =>
      simp only [suf_0, suf_s0, suf_ss] at h
      split at h
      · rename_i e
        cases t with
        | zero =>
          have := e.2.2
          unfold eqv at this
          simp only [Bool.and_eq_true, beq_iff_eq, Bool.not_eq_true'] at this
          exact ⟨by lia, by lia, e.1, e.2.1, this.1, this.2⟩
        | succ t =>
          obtain ⟨a1, a2, a3, a4, a5, a6⟩ := ih j t (by lia)
          rw [Nat.add_sub_add_right, Nat.add_sub_add_right]
          exact ⟨by lia, by lia, a3, a4, a5, a6⟩
      · lia
theorem suf_ge {a b : Str} {jk : Nat → Bool} {alo blo : Nat} : ∀ s i j, alo + s ≤ i + 1 → blo + s ≤ j + 1 → (∀ t, t < s → ch a (i - t) = ch b (j - t) ∧ jk (ch b (j - t)) = false) → s ≤ suf a b jk alo blo i j := by
  intro s
  induction s with
  | zero => intro i j _ _ _; lia
  | succ s ih =>
    intro i j h1 h2 h
    have e : eqv a b jk i j = true := by
      have := h 0 (by lia)
      unfold eqv
      simp only [Nat.sub_zero] at this
      rw [this.1, this.2]; simp
    rw [suf_eq a b jk alo blo (by lia) (by lia) e]
    by_cases c : i = 0 ∨ j = 0
    · have : s = 0 := by lia
      rw [if_pos c]; lia
    · rw [if_neg c]
      have := ih (i - 1) (j - 1) (by lia) (by lia) fun t ht => by
        have := h (t + 1) (by lia)
        rw [show i - (t + 1) = i - 1 - t from Nat.sub_right_comm i t 1, show j - (t + 1) = j - 1 - t from Nat.sub_right_comm j t 1] at this
        exact this
      lia
theorem eqv_comm {a b : Str} {jk : Nat → Bool} (i j : Nat) : eqv a b jk i j = eqv b a jk j i := by
  unfold eqv
  by_cases h : ch a i = ch b j
  · rw [h]
  · rw [show (ch a i == ch b j) = false by simpa using h, show (ch b j == ch a i) = false by simpa using fun e => h e.symm]
    rfl
theorem suf_comm {a b : Str} {jk : Nat → Bool} {alo blo : Nat} : ∀ i j, suf a b jk alo blo i j = suf b a jk blo alo j i := by
  intro i
  induction i with
  | zero => intro j; cases j <;> (simp only [suf_0, suf_s0, suf_ss]; rw [eqv_comm]; congr 1; apply propext; constructor <;> rintro ⟨x, y, z⟩ <;> exact ⟨y, x, z⟩)
  | succ i ih =>
    intro j
    cases j with
    | zero => simp only [suf_0, suf_s0, suf_ss]; rw [eqv_comm]; congr 1; apply propext; constructor <;> rintro ⟨x, y, z⟩ <;> exact ⟨y, x, z⟩
    | succ j => simp only [suf_0, suf_s0, suf_ss]; rw [eqv_comm, ih j]; congr 1; apply propext; constructor <;> rintro ⟨x, y, z⟩ <;> exact ⟨y, x, z⟩
theorem LeftX.comm {a b : Str} {jk : Nat → Bool} {f : Bool} {alo blo i j k i' j' k' : Nat} (h : LeftX a b jk f alo blo i j k i' j' k') : LeftX b a jk f blo alo j i k j' i' k' := by
  obtain ⟨u, h1, h2, h3, h4, h5, h6, h7⟩ := h
  refine ⟨u, h2, h1, h3, fun v hv => ?_, h6, h5, fun ⟨a1, a2, a3, a4⟩ => h7 ⟨a2, a1, a4 ▸ a3, a4.symm⟩⟩
  have := h4 v hv
  exact ⟨this.1.symm, this.1 ▸ this.2⟩
theorem RightX.comm {a b : Str} {jk : Nat → Bool} {f : Bool} {ahi bhi i j k k' : Nat} (h : RightX a b jk f ahi bhi i j k k') : RightX b a jk f bhi ahi j i k k' := by
  obtain ⟨h1, h2, h3, h4, h5⟩ := h
  refine ⟨h1, h3, h2, fun v v1 v2 => ?_, fun ⟨a1, a2, a3, a4⟩ => h5 ⟨a2, a1, a4 ▸ a3, a4.symm⟩⟩
  have := h4 v v1 v2
  exact ⟨this.1.symm, this.1 ▸ this.2⟩
section
variable {T L : Str} {jk : Nat → Bool} {n : Nat} {o c mu wd tp lp off : Nat → Nat}
theorem Lay.tmono (h : Lay T L jk n o c mu wd tp lp off) {r : Nat} : ∀ d, r + d ≤ n → tp r ≤ tp (r + d) := by
  intro d
  induction d with
  | zero => intro _; exact Nat.le_refl _
  | succ d ih => intro hd; refine Nat.le_trans (ih (Nat.le_of_succ_le hd)) ?_; show _ ≤ tp (r + d + 1); rw [h.tps (r + d) hd, Nat.add_assoc]; exact Nat.le_add_right _ _
theorem Lay.lmono (h : Lay T L jk n o c mu wd tp lp off) {r : Nat} : ∀ d, r + d ≤ n → lp r ≤ lp (r + d) := by
  intro d
  induction d with
  | zero => intro _; exact Nat.le_refl _
  | succ d ih => intro hd; refine Nat.le_trans (ih (Nat.le_of_succ_le hd)) ?_; show _ ≤ lp (r + d + 1); rw [h.lps (r + d) hd, Nat.add_assoc, Nat.add_assoc]; exact Nat.le_add_right _ _
theorem Lay.tlt (h : Lay T L jk n o c mu wd tp lp off) {r q : Nat} (hr : r < q) (hq : q ≤ n) : tp r + o r + c r ≤ tp q := by
  have e := Nat.add_sub_cancel' hr
  have := h.tmono (r := r + 1) (q - (r + 1)) (e.symm ▸ hq)
  rw [e] at this
  rw [← h.tps r (Nat.lt_of_lt_of_le hr hq)]; exact this
theorem Lay.llt (h : Lay T L jk n o c mu wd tp lp off) {r q : Nat} (hr : r < q) (hq : q ≤ n) : lp r + mu r + o r + c r ≤ lp q := by
  have e := Nat.add_sub_cancel' hr
  have := h.lmono (r := r + 1) (q - (r + 1)) (e.symm ▸ hq)
  rw [e] at this
  rw [← h.lps r (Nat.lt_of_lt_of_le hr hq)]; exact this
/-- the row of a place -/
theorem row_of {p : Nat → Nat} {x i : Nat} : ∀ d, p x ≤ i → i < p (x + d) → ∃ r, x ≤ r ∧ r < x + d ∧ p r ≤ i ∧ i < p (r + 1) := by
  intro d
  induction d with
  | zero => intro h1 h2; simp only [Nat.add_zero] at h2; lia
  | succ d ih =>
    intro h1 h2
    by_cases h : i < p (x + d)
    · obtain ⟨r, a1, a2, a3⟩ := ih h1 h
      exact ⟨r, a1, by lia, a3⟩
    · exact ⟨x + d, by lia, by lia, by lia, h2⟩
theorem oo_le (h : Lay T L jk n o c mu wd tp lp off) {r : Nat} (hr : r < n) : oo n c off r ≤ o r := by
  unfold oo; split
  · exact h.offo r hr
  · lia
theorem oo_n : oo n c off n = 0 := by unfold oo; rw [if_neg]; lia
theorem ar_g {l d s m : Nat} (h : l + d + s ≤ l + m) (hs : 0 < s) : d < m := by lia
theorem ar_h {a j s c : Nat} (h1 : a ≤ j) (h2 : j + s ≤ a + c) : s ≤ c := Nat.le_of_add_le_add_left (Nat.le_trans (Nat.add_le_add_right h1 s) h2)
theorem ar_m {i k a c : Nat} (h : i + k + 1 = a + c) (hc : 0 < c) : i + k = a + (c - 1) := by rw [← Nat.add_sub_assoc hc, ← h]; rfl
/-- the longest junk-free match of a piece -/
theorem Lay.long (h : Lay T L jk n o c mu wd tp lp off) {x y m i j s : Nat} (hy : y ≤ n) (hm : FMax c x y m) (hi : tp x ≤ i) (hj : lp x ≤ j) (hi2 : i + s ≤ tp y) (hj2 : j + s ≤ lp y + mu y) (hs : 0 < s)
    (he : ∀ t, t < s → ch T (i + t) = ch L (j + t) ∧ jk (ch L (j + t)) = false) : s ≤ c m ∧ (s = c m → tp m + o m ≤ i ∧ lp m + mu m + o m ≤ j) := by
  obtain ⟨m1, m2, m3, m4⟩ := hm
  have hjy : j < lp y := Decidable.byContradiction fun e => by
    obtain ⟨d, rfl⟩ := Nat.exists_eq_add_of_le (Nat.le_of_not_lt e)
    have h0 := (he 0 hs).2
    have hd : d < mu y := ar_g hj2 hs
    rcases Nat.eq_or_lt_of_le hy with c | c
    · subst c; rw [h.mun] at hd; exact Nat.not_lt_zero _ hd
    · rw [Nat.add_zero, h.leadj y d c (Nat.lt_of_lt_of_le hd (Nat.le_add_right _ _))] at h0; cases h0
  have hxe := Nat.add_sub_cancel' (Nat.le_of_lt (Nat.lt_of_le_of_lt m1 m2))
  obtain ⟨r, r1, r2, r3, r4⟩ := row_of (p := lp) (y - x) hj (by rw [hxe]; exact hjy)
  rw [hxe] at r2
  have hrn := Nat.lt_of_lt_of_le r2 hy
  have hr := h.lps r hrn
  have hjc : lp r + mu r + o r ≤ j := Nat.not_lt.mp fun e => by
    obtain ⟨d, rfl⟩ := Nat.exists_eq_add_of_le r3
    have h0 := (he 0 hs).2
    rw [Nat.add_zero, h.leadj r d hrn (Nat.lt_of_add_lt_add_left (by rw [← Nat.add_assoc]; exact e))] at h0
    cases h0
  have hje : j + s ≤ lp (r + 1) := Nat.not_lt.mp fun e => by
    have h0 := (he (lp (r + 1) - j) (Nat.sub_lt_left_of_lt_add (Nat.le_of_lt r4) e)).2
    rw [Nat.add_sub_cancel' (Nat.le_of_lt r4)] at h0
    by_cases c : r + 1 < n
    · have := h.leadj (r + 1) 0 c (h.lead _ c)
      rw [Nat.add_zero, h0] at this
      cases this
    · have e1 : r + 1 = n := Nat.le_antisymm hrn (Nat.not_lt.mp c)
      have e2 : y = r + 1 := Nat.le_antisymm (e1 ▸ hy) r2
      have := h.mun
      rw [← e1, ← e2] at this
      rw [this, e2] at hj2
      exact absurd hj2 (Nat.not_le.mpr e)
  rw [hr] at hje
  have hsr : s ≤ c r := ar_h hjc hje
  have hcr := m3 r r1 r2
  refine ⟨Nat.le_trans hsr hcr, fun e => ?_⟩
  have hrm : m ≤ r := Nat.not_lt.mp fun e' => Nat.lt_irrefl _ (Nat.lt_of_lt_of_le (m4 r r1 e') (e ▸ hsr))
  have hsc : s = c r := Nat.le_antisymm hsr (e ▸ hcr)
  rw [← hsc] at hje
  have hj' : j = lp r + mu r + o r := Nat.le_antisymm (Nat.le_of_add_le_add_right hje) hjc
  constructor
  · obtain ⟨p, p1, p2, p3, p4⟩ := row_of (p := tp) (y - x) hi (by rw [hxe]; exact Nat.lt_of_lt_of_le (Nat.lt_add_of_pos_right hs) hi2)
    rw [hxe] at p2
    have hpn := Nat.lt_of_lt_of_le p2 hy
    have hp := h.tps p hpn
    have hic : tp p + o p ≤ i := Nat.not_lt.mp fun e => by
      obtain ⟨d, rfl⟩ := Nat.exists_eq_add_of_le p3
      have h0 := he 0 hs
      cases (h.ownj p d hpn (Nat.lt_of_add_lt_add_left e)).symm.trans ((congrArg jk h0.1).trans h0.2)
    rcases Nat.lt_or_ge p m with hpm | hpm
    · exfalso
      obtain ⟨k, hk⟩ := Nat.exists_eq_add_of_lt p4
      rw [hk] at hp
      have hk1 : k + 1 ≤ c p := ar_h hic (Nat.le_of_eq hp)
      have hk2 : k + 1 < s := by rw [e]; exact Nat.lt_of_le_of_lt hk1 (m4 p p1 hpm)
      have hc := Nat.lt_of_lt_of_le (Nat.succ_pos k) hk1
      have e1 := (he k (Nat.lt_of_succ_lt hk2)).1
      obtain ⟨e2, e2'⟩ := he (k + 1) hk2
      rw [ar_m hp hc, h.core p _ hpn (Nat.sub_lt hc Nat.one_pos), h.wdf p _ hpn (Nat.le_sub_one_of_lt (h.wdc p hpn)) (Nat.sub_lt hc Nat.one_pos)] at e1
      have hw : wd r ≤ k := Nat.not_lt.mp fun e => h.wdl r k hrn e (hj' ▸ e1.symm)
      have e3 : ch L (j + (k + 1)) = 10 := by rw [hj']; exact h.wdf r (k + 1) hrn (Nat.le_succ_of_le hw) (hsc ▸ hk2)
      have hp1 : p + 1 < n := Nat.lt_of_le_of_lt hpm (Nat.lt_of_lt_of_le m2 hy)
      have ho : o (p + 1) = 0 := by
        rcases Nat.eq_zero_or_pos (o (p + 1)) with e | e
        · exact e
        · have := h.ownj (p + 1) 0 hp1 e
          rw [Nat.add_zero, hk] at this
          cases this.symm.trans ((congrArg jk e2).trans e2')
      exact h.wdl (p + 1) 0 hp1 (h.wd0 (p + 1) hp1 ho) ((h.core (p + 1) 0 hp1 (Nat.lt_of_le_of_lt (Nat.zero_le _) (h.wdc (p + 1) hp1))).symm.trans (by rw [ho, hk]; exact e2.trans e3))
    · rcases Nat.lt_or_ge m p with h' | h'
      · exact Nat.le_trans (Nat.le_add_right _ _) (Nat.le_trans (h.tlt h' (Nat.le_of_lt hpn)) p3)
      · obtain rfl : p = m := Nat.le_antisymm h' hpm
        exact hic
  · rcases Nat.lt_or_ge m r with h' | h'
    · exact Nat.le_trans (Nat.le_add_right _ _) (Nat.le_trans (h.llt h' (Nat.le_of_lt hrn)) r3)
    · obtain rfl : r = m := Nat.le_antisymm h' hrm
      exact hjc
end
end Mine
end
section
set_option maxRecDepth 100000
namespace Mine
open PySem
/-! ## find_longest_match at a piece of the rows -/
theorem ar_j {i e k : Nat} (h : (i : Int) = e - k + 1) : i + k = e + 1 := by lia
theorem best_pin {a b : Str} {jk : Nat → Bool} {alo blo ahi bhi p q s i0 j0 k0 : Nat} (h : Best a b jk alo blo (allS bhi ahi) i0 j0 k0) (hs : 0 < s) (hp : p < ahi) (hq : q < bhi) (hsuf : s ≤ suf a b jk alo blo p q)
    (hall : ∀ i j, i < ahi → j < bhi → 0 < suf a b jk alo blo i j → suf a b jk alo blo i j ≤ s ∧ (suf a b jk alo blo i j = s → p ≤ i ∧ q ≤ j)) : k0 = s ∧ i0 + s = p + 1 ∧ j0 + s = q + 1 := by
  rcases h with ⟨_, _, _, h0⟩ | ⟨hk, ei, ej, ⟨s1, s2⟩, e1, e2, e3, e4⟩
  · have := h0 p q ⟨hp, hq⟩; lia
  · have e1 : suf a b jk alo blo ei ej = k0 := Int.ofNat.inj e1
    have h1 := hall ei ej s1 s2 (by rw [e1]; exact Int.natCast_pos.mp hk)
    obtain ⟨h2, h2'⟩ := e4 p q ⟨hp, hq⟩
    have h2 := Int.ofNat_le.mp h2
    have h3 : suf a b jk alo blo ei ej = s := Nat.le_antisymm h1.1 (Nat.le_trans hsuf (Nat.le_trans h2 (Nat.le_of_eq e1.symm)))
    have h4 := h1.2 h3
    obtain rfl : k0 = s := e1.symm.trans h3
    rcases h2' (by rw [Nat.le_antisymm h2 hsuf]) with h | ⟨rfl, h⟩
    · exact absurd h4.1 (Nat.not_le.mpr h)
    · obtain rfl : ej = q := Nat.le_antisymm h h4.2
      exact ⟨rfl, ar_j e2, ar_j e3⟩
section
variable {T L : Str} {jk : Nat → Bool} {n : Nat} {o c mu wd tp lp off : Nat → Nat}
theorem Lay.cpos (h : Lay T L jk n o c mu wd tp lp off) {r : Nat} (hr : r < n) : 0 < c r := Nat.lt_of_le_of_lt (Nat.zero_le _) (h.wdc r hr)
theorem ooY {n y : Nat} {o c off : Nat → Nat} (h : Lay T L jk n o c mu wd tp lp off) : oo n c off y = 0 ∨ (y < n ∧ oo n c off y ≤ o y) := by
  by_cases e : y < n
  · exact .inr ⟨e, oo_le h e⟩
  · exact .inl (by unfold oo; rw [if_neg]; exact fun h => e h.2.1)
theorem ar_A {i s : Nat} (hs : 0 < s) : i - (s - 1) = i + 1 - s := by
  cases s with
  | zero => exact absurd hs (Nat.lt_irrefl 0)
  | succ n => exact (Nat.add_sub_add_right i 1 n).symm
theorem ar_B {i s t : Nat} (h : t < s) (h1 : s ≤ i + 1) : i - (s - 1 - t) = i + 1 - s + t := by
  obtain ⟨k, rfl⟩ := Nat.exists_eq_add_of_lt h
  obtain ⟨f, rfl⟩ := Nat.exists_eq_add_of_le (Nat.le_of_succ_le_succ h1)
  rw [show t + k + 1 - 1 - t = k from Nat.add_sub_cancel_left .., Nat.add_sub_add_right, Nat.add_sub_cancel_left, Nat.add_right_comm, Nat.add_sub_cancel, Nat.add_comm]
theorem ar_C {a b c : Nat} (hc : 0 < c) (h : a ≤ b) : a + c ≤ b + c - 1 + 1 := by rw [Nat.sub_add_cancel (Nat.le_trans hc (Nat.le_add_left _ _))]; exact Nat.add_le_add_right h _
theorem ar_D {a c y z : Nat} (hc : 0 < c) (h : a + c ≤ y) : a + c - 1 < y + z := Nat.lt_of_lt_of_le (Nat.sub_lt (Nat.lt_of_lt_of_le hc (Nat.le_add_left _ _)) Nat.one_pos) (Nat.le_trans h (Nat.le_add_right _ _))
theorem ar_E {a c t : Nat} (h : t < c) : a + c - 1 - t = a + (c - 1 - t) := by
  obtain ⟨k, rfl⟩ := Nat.exists_eq_add_of_lt h
  rw [show t + k + 1 - 1 - t = k from Nat.add_sub_cancel_left ..]
  show a + (t + k) - t = a + k
  rw [Nat.add_left_comm, Nat.add_sub_cancel_left]
theorem ar_F {s t : Nat} (hs : 0 < s) : s - 1 - t < s := Nat.lt_of_le_of_lt (Nat.sub_le _ _) (Nat.sub_lt hs Nat.one_pos)
theorem ar_L {a u o c q : Nat} (h : q ≤ o) : a + q ≤ a + u + o + c := by lia
theorem ar_in {i p v : Nat} (h1 : ¬ i < p) (h2 : i < p + v) : i - p < v ∧ p + (i - p) = i := ⟨Nat.sub_lt_left_of_lt_add (Nat.le_of_not_lt h1) h2, Nat.add_sub_cancel' (Nat.le_of_not_lt h1)⟩
/-- what the piece's longest junk-free match is, said of both ends -/
theorem Lay.suf_all (h : Lay T L jk n o c mu wd tp lp off) {x y m : Nat} (hy : y ≤ n) (hm : FMax c x y m) {i j : Nat} (hi : i < tp y + oo n c off y) (hj : j < lp y + mu y + oo n c off y)
    (hs : 0 < suf T L jk (tp x + oo n c off x) (lp x + oo n c off x) i j) :
    suf T L jk (tp x + oo n c off x) (lp x + oo n c off x) i j ≤ c m ∧ (suf T L jk (tp x + oo n c off x) (lp x + oo n c off x) i j = c m → tp m + o m + c m ≤ i + 1 ∧ lp m + mu m + o m + c m ≤ j + 1) := by
  generalize hS : suf T L jk (tp x + oo n c off x) (lp x + oo n c off x) i j = s at hs
  have ha : ∀ t, t < s → _ := fun t ht => Mine.suf_all i j t (by rw [hS]; exact ht)
  clear hS
  obtain ⟨_, _, _, _, h0, h0'⟩ := ha 0 hs
  simp only [Nat.sub_zero] at h0 h0'
  have hity : i < tp y := Decidable.byContradiction fun e => by
    rcases ooY (y := y) h with e2 | ⟨e2, e3⟩
    · rw [e2] at hi; exact e hi
    · obtain ⟨q1, q2⟩ := ar_in e hi
      have := h.ownj y (i - tp y) e2 (Nat.lt_of_lt_of_le q1 e3)
      rw [q2, h0, h0'] at this
      cases this
  have hjl : j < lp y + mu y := Decidable.byContradiction fun e => by
    rcases ooY (y := y) h with e2 | ⟨e2, e3⟩
    · rw [e2] at hj; exact e hj
    · obtain ⟨q1, q2⟩ := ar_in e hj
      have := h.leadj y (mu y + (j - (lp y + mu y))) e2 (Nat.add_lt_add_left (Nat.lt_of_lt_of_le q1 e3) _)
      rw [← Nat.add_assoc, q2, h0'] at this
      cases this
  obtain ⟨p1, p2, p3, p4, _, _⟩ := ha (s - 1) (Nat.sub_lt hs Nat.one_pos)
  clear hi hj h0 h0'
  rw [ar_A hs] at p3 p4
  have p1 := Nat.sub_le_iff_le_add.mp p1
  have p2 := Nat.sub_le_iff_le_add.mp p2
  obtain ⟨r1, r2⟩ := h.long (x := x) (y := y) (m := m) (i := i + 1 - s) (j := j + 1 - s) (s := s) hy hm (Nat.le_trans (Nat.le_add_right _ _) p3) (Nat.le_trans (Nat.le_add_right _ _) p4) (by rw [Nat.sub_add_cancel p1]; exact hity) (by rw [Nat.sub_add_cancel p2]; exact hjl) hs fun t ht => by
    obtain ⟨_, _, _, _, q5, q6⟩ := ha (s - 1 - t) (ar_F hs)
    rw [ar_B ht p1, ar_B ht p2] at q5
    rw [ar_B ht p2] at q6
    exact ⟨q5, q6⟩
  refine ⟨r1, fun e => ?_⟩
  obtain ⟨r3, r4⟩ := r2 e
  rw [← e]
  exact ⟨Nat.add_le_of_le_sub p1 r3, Nat.add_le_of_le_sub p2 r4⟩
theorem ar_to {a p q ox om : Nat} (h : p + ox ≤ a) (e : a ≤ q) : p + ox ≤ q + om := Nat.le_trans h (Nat.le_trans e (Nat.le_add_right _ _))
theorem Lay.suf_m (h : Lay T L jk n o c mu wd tp lp off) {x y m : Nat} (hy : y ≤ n) (hm : FMax c x y m) :
    c m ≤ suf T L jk (tp x + oo n c off x) (lp x + oo n c off x) (tp m + o m + c m - 1) (lp m + mu m + o m + c m - 1) ∧ tp m + o m + c m - 1 < tp y + oo n c off y ∧ lp m + mu m + o m + c m - 1 < lp y + mu y + oo n c off y := by
  obtain ⟨m1, m2, _, _⟩ := hm
  have hmn : m < n := Nat.lt_of_lt_of_le m2 hy
  have hc := h.cpos hmn
  have ht := h.tlt m2 hy
  have hl := h.llt m2 hy
  have hox := oo_le h (r := x) (Nat.lt_of_le_of_lt m1 hmn)
  have htx : tp x + oo n c off x ≤ tp m + o m := by
    rcases Nat.eq_or_lt_of_le m1 with e | e
    · subst e; exact Nat.add_le_add_left hox _
    · have := h.tlt (r := x) (q := m) e (Nat.le_of_lt hmn)
      exact Nat.le_trans (Nat.add_le_add_left hox _) (Nat.le_trans (Nat.le_add_right _ _) (Nat.le_trans this (Nat.le_add_right _ _)))
  have hlx : lp x + oo n c off x ≤ lp m + mu m + o m := by
    rcases Nat.eq_or_lt_of_le m1 with e | e
    · subst e; exact Nat.add_le_add (Nat.le_add_right _ _) hox
    · exact Nat.le_trans (ar_L hox) (Nat.le_trans (h.llt (r := x) (q := m) e (Nat.le_of_lt hmn)) (Nat.le_trans (Nat.le_add_right _ _) (Nat.le_add_right _ _)))
  clear hox
  refine ⟨suf_ge (c m) _ _ (ar_C hc htx) (ar_C hc hlx) fun t ht' => ?_, ar_D hc ht, ar_D hc (Nat.le_trans hl (Nat.le_add_right _ _))⟩
  rw [ar_E ht', ar_E ht']
  exact ⟨h.core m _ hmn (ar_F hc), h.corej m _ hmn (ar_F hc)⟩
theorem oo_ge {n r : Nat} {c off : Nat → Nat} (e : ¬ r < n) : oo n c off r = 0 := by unfold oo; rw [if_neg]; exact fun h => e h.2.1
theorem oo_up {n m : Nat} {c off : Nat → Nat} (e : c (m - 1) < c m) : oo n c off m = 0 := by unfold oo; rw [if_neg]; exact fun h => Nat.not_le.mpr e h.2.2
theorem oo_off {n m : Nat} {c off : Nat → Nat} (hn : m + 1 < n) (e : c (m + 1) ≤ c m) : oo n c off (m + 1) = off (m + 1) := by unfold oo; rw [if_pos ⟨Nat.succ_pos _, hn, e⟩]
theorem oo_loff {n r : Nat} {c off : Nat → Nat} : oo n c off r ≤ off r := by
  unfold oo; split
  · exact Nat.le_refl _
  · exact Nat.zero_le _
/-- nothing is drawn to the left over signs that are no junk -/
theorem Lay.left0 (h : Lay T L jk n o c mu wd tp lp off) {m al bl i1 j1 k1 : Nat} (hmn : m < n) (h1 : LeftX T L jk false al bl (tp m + o m) (lp m + mu m + o m) (c m) i1 j1 k1) : i1 = tp m + o m ∧ j1 = lp m + mu m + o m ∧ k1 = c m := by
  obtain ⟨u, a1, a2, a3, a4, _, _, _⟩ := h1
  have hlead := h.lead m hmn
  have hj := h.leadj m (mu m + o m - 1) hmn
  clear h
  cases u with
  | zero => exact ⟨a1, a2, a3⟩
  | succ u =>
    have := (a4 u (Nat.lt_succ_self u)).2
    clear a4
    rw [show j1 + u = lp m + (mu m + o m - 1) by rw [← Nat.add_sub_assoc hlead, ← Nat.add_assoc, ← a2]; rfl, hj (Nat.sub_lt hlead Nat.one_pos)] at this
    cases this
/-- nor to the right -/
theorem Lay.right0 (h : Lay T L jk n o c mu wd tp lp off) {m y k2 : Nat} (hy : y ≤ n) (hmy : m < y) (h2 : RightX T L jk false (tp y + oo n c off y) (lp y + mu y + oo n c off y) (tp m + o m) (lp m + mu m + o m) (c m) k2) : k2 = c m := by
  obtain ⟨b1, b2, b3, b4, _⟩ := h2
  have hmn : m < n := Nat.lt_of_lt_of_le hmy hy
  have lpm := h.lps m hmn
  have tpm := h.tps m hmn
  rcases Nat.eq_or_lt_of_le b1 with e | e
  · exact e.symm
  · exfalso
    have hv := (b4 (c m) (Nat.le_refl _) e).2
    rw [show lp m + mu m + o m + c m = lp (m + 1) + 0 by rw [lpm]; rfl] at hv
    by_cases e2 : m + 1 < n
    · rw [h.leadj (m + 1) 0 e2 (h.lead _ e2)] at hv; cases hv
    · obtain rfl : y = m + 1 := by clear h b4 hv; lia
      rw [oo_ge e2] at b2
      clear h b4 hv b3
      lia
theorem ar_d {t d u o : Nat} (h : t + d + 1 + u = t + o) : d < o := by lia
theorem ar_e {t d u o l j : Nat} (h : t + d + 1 + u = t + o) (h2 : j + u = l + o) : j = l + d + 1 := by lia
theorem ar_J {t o i u l mu j q : Nat} (h : i + u = t + o) (h2 : j + u = l + mu + o) (e : t + q < i) : l + q < j := by lia
theorem ar_K {t o i u l j q : Nat} (h : i + u = t + o) (h2 : j + u = l + o) (e : i = t + q) : j = l + q := by lia
theorem ar_V {i u t o : Nat} (h : i + u = t + o) (e : i < t) : t - 1 - i < u := by
  obtain ⟨k, rfl⟩ := Nat.exists_eq_add_of_lt e
  rw [show i + k + 1 - 1 - i = k from Nat.add_sub_cancel_left .., Nat.add_left_cancel (h.trans (by rw [Nat.add_assoc, Nat.add_assoc] : i + k + 1 + o = i + (k + (1 + o))))]
  exact Nat.lt_add_of_pos_right (Nat.lt_of_lt_of_le Nat.one_pos (Nat.le_add_right 1 o))
theorem ar_W {a c t i : Nat} (h : t = a + c) (hc : 0 < c) (e : i < t) : a + (c - 1) = i + (t - 1 - i) := by rw [Nat.add_sub_cancel' (Nat.le_sub_one_of_lt e), h, Nat.add_sub_assoc hc]
theorem ar_X {i c u : Nat} : i + (c + u) = i + u + c := by rw [Nat.add_comm c, Nat.add_assoc]
theorem ar_Y {a q o c b i : Nat} (h : q ≤ o) (h2 : a + o + c ≤ b) (e : b < i) : a + q < i := by lia
/-- to the left, over the row's own blanks -/
theorem Lay.leftJ (h : Lay T L jk n o c mu wd tp lp off) {x y m i3 j3 k3 : Nat} (hy : y ≤ n) (hm : FMax c x y m) (h3 : LeftX T L jk true (tp x + oo n c off x) (lp x + oo n c off x) (tp m + o m) (lp m + mu m + o m) (c m) i3 j3 k3) :
    i3 = tp m + oo n c off m ∧ j3 = lp m + mu m + oo n c off m ∧ i3 + k3 = tp (m + 1) ∧ j3 + k3 = lp (m + 1) := by
  obtain ⟨m1, m2, _, m4⟩ := hm
  have hmn : m < n := Nat.lt_of_lt_of_le m2 hy
  have tpm := h.tps m hmn
  have lpm := h.lps m hmn
  have oomle := oo_le h hmn
  obtain ⟨u, c1, c2, c3, c4, c5, c6, c7⟩ := h3
  -- one step more to the left is own
  have more : tp m < i3 → jk (ch L (j3 - 1)) = true ∧ ch T (i3 - 1) = ch L (j3 - 1) := fun e => by
    obtain ⟨d, rfl⟩ := Nat.exists_eq_add_of_lt e
    have q1 := h.leadj m (mu m + d) hmn (Nat.add_lt_add_left (ar_d c1) _)
    rw [← Nat.add_assoc] at q1
    rw [ar_e c1 c2]
    exact ⟨q1, h.own m d hmn (ar_d c1)⟩
  have hi3 : i3 = tp m + oo n c off m := by
    rcases Nat.eq_or_lt_of_le m1 with e | e
    · subst e
      rcases Nat.eq_or_lt_of_le c5 with e2 | e2
      · exact e2.symm
      · exact absurd ⟨e2, ar_J c1 c2 e2, more (Nat.lt_of_le_of_lt (Nat.le_add_right _ _) e2)⟩ c7
    · have hm0 := Nat.lt_of_le_of_lt (Nat.zero_le _) e
      have hz : oo n c off m = 0 := oo_up (m4 (m - 1) (Nat.le_sub_one_of_lt e) (Nat.sub_lt hm0 Nat.one_pos))
      rw [hz]
      have ooxle := oo_le h (r := x) (Nat.lt_trans e hmn)
      rcases Nat.lt_trichotomy i3 (tp m) with e2 | e2 | e2
      · exfalso
        have hv := c4 (tp m - 1 - i3) (ar_V c1 e2)
        have hmp : m - 1 < n := Nat.lt_of_le_of_lt (Nat.sub_le _ _) hmn
        have tpp := h.tps (m - 1) hmp
        have hcp := h.cpos (r := m - 1) hmp
        have e3 := h.core (m - 1) (c (m - 1) - 1) hmp (Nat.sub_lt hcp Nat.one_pos)
        have e4 := h.corej (m - 1) (c (m - 1) - 1) hmp (Nat.sub_lt hcp Nat.one_pos)
        rw [Nat.sub_add_cancel hm0] at tpp
        rw [ar_W tpp hcp e2] at e3
        rw [← e3, hv.1, hv.2] at e4
        cases e4
      · exact e2
      · exact absurd ⟨ar_Y ooxle (h.tlt (r := x) (q := m) e (Nat.le_of_lt hmn)) e2, Nat.lt_of_le_of_lt (Nat.le_trans (ar_L ooxle) (h.llt (r := x) (q := m) e (Nat.le_of_lt hmn))) (ar_J (q := 0) c1 c2 e2), more e2⟩ c7
  exact ⟨hi3, ar_K c1 c2 hi3, by rw [c3, tpm, ← c1, ar_X], by rw [c3, lpm, ← c2, ar_X]⟩
/-- to the right, over what the next row's blanks and the margin begin with -/
theorem Lay.rightJ (h : Lay T L jk n o c mu wd tp lp off) {x y m i3 j3 k3 k : Nat} (hy : y ≤ n) (hm : FMax c x y m) (hend : i3 + k3 = tp (m + 1)) (hendj : j3 + k3 = lp (m + 1)) (h4 : RightX T L jk true (tp y + oo n c off y) (lp y + mu y + oo n c off y) i3 j3 k3 k) :
    i3 + k = tp (m + 1) + oo n c off (m + 1) := by
  obtain ⟨_, m2, m3, _⟩ := hm
  obtain ⟨d1, d2, _, d4, d5⟩ := h4
  have hge : tp (m + 1) + oo n c off (m + 1) ≤ i3 + k := by
    refine Nat.not_lt.mp fun e => ?_
    have hn1 : m + 1 < n := Decidable.byContradiction fun e2 => by rw [oo_ge e2] at e; clear h d4 d5 m3; lia
    have e3 := oo_le h hn1
    have e4 : oo n c off (m + 1) ≤ off (m + 1) := oo_loff
    have q1 := h.leadj (m + 1) (j3 + k - lp (m + 1)) hn1
    have q2 := h.offe (m + 1) (i3 + k - tp (m + 1)) hn1
    have hfit : tp (m + 1) + oo n c off (m + 1) ≤ tp y + oo n c off y ∧ lp (m + 1) + oo n c off (m + 1) ≤ lp y + oo n c off y := by
      rcases Nat.eq_or_lt_of_le (Nat.succ_le_of_lt m2) with e5 | e5
      · subst e5; exact ⟨Nat.le_refl _, Nat.le_refl _⟩
      · have f1 := h.tlt (r := m + 1) (q := y) e5 hy
        have f2 := h.llt (r := m + 1) (q := y) e5 hy
        clear h d4 d5 m3 q1 q2
        exact ⟨by lia, by lia⟩
    have e1 : lp (m + 1) + (j3 + k - lp (m + 1)) = j3 + k := by clear h d4 d5 m3 q1 q2; lia
    have e2 : tp (m + 1) + (i3 + k - tp (m + 1)) = i3 + k := by clear h d4 d5 m3 q1 q2; lia
    have e6 : lp (m + 1) + (i3 + k - tp (m + 1)) = j3 + k := by clear h d4 d5 m3 q1 q2; lia
    rw [e1] at q1
    rw [e2, e6] at q2
    exact d5 ⟨by clear h d4 d5 m3 q1 q2; lia, by clear h d4 d5 m3 q1 q2; lia, q1 (by clear h d4 d5 m3 q1 q2; lia), q2 (by clear h d4 d5 m3 q1 q2; lia)⟩
  rcases Nat.eq_or_lt_of_le (Nat.succ_le_of_lt m2) with e | e
  · subst e; exact Nat.le_antisymm d2 hge
  · have hn1 : m + 1 < n := Nat.lt_of_lt_of_le e hy
    have hoo : oo n c off (m + 1) = off (m + 1) := oo_off hn1 (m3 (m + 1) (by clear h d4 d5 m3; lia) e)
    have hoff := h.offo (m + 1) hn1
    rcases Nat.eq_or_lt_of_le hge with e2 | e2
    · exact e2.symm
    · exfalso
      have hv := d4 (tp (m + 1) + off (m + 1) - i3) (by clear h d4 d5 m3; lia) (by clear h d4 d5 m3; lia)
      rw [show i3 + (tp (m + 1) + off (m + 1) - i3) = tp (m + 1) + off (m + 1) by clear h d4 d5 m3 hv; lia, show j3 + (tp (m + 1) + off (m + 1) - i3) = lp (m + 1) + off (m + 1) by clear h d4 d5 m3 hv; lia] at hv
      rcases Nat.eq_or_lt_of_le hoff with e4 | e3
      · have e5 := h.core (m + 1) 0 hn1 (h.cpos hn1)
        have e6 := h.corej (m + 1) 0 hn1 (h.cpos hn1)
        rw [← e5, Nat.add_zero, ← e4, hv.1, hv.2] at e6
        cases e6
      · exact h.offn (m + 1) hn1 e3 hv.1
/-- the draws out to both sides, from the longest run on -/
theorem Lay.ext (h : Lay T L jk n o c mu wd tp lp off) {x y m : Nat} (hy : y ≤ n) (hm : FMax c x y m) {i1 j1 k1 k2 i3 j3 k3 k : Nat}
    (h1 : LeftX T L jk false (tp x + oo n c off x) (lp x + oo n c off x) (tp m + o m) (lp m + mu m + o m) (c m) i1 j1 k1) (h2 : RightX T L jk false (tp y + oo n c off y) (lp y + mu y + oo n c off y) i1 j1 k1 k2)
    (h3 : LeftX T L jk true (tp x + oo n c off x) (lp x + oo n c off x) i1 j1 k2 i3 j3 k3) (h4 : RightX T L jk true (tp y + oo n c off y) (lp y + mu y + oo n c off y) i3 j3 k3 k) :
    i3 = tp m + oo n c off m ∧ j3 = lp m + mu m + oo n c off m ∧ i3 + k = tp (m + 1) + oo n c off (m + 1) := by
  obtain ⟨rfl, rfl, rfl⟩ := h.left0 (Nat.lt_of_lt_of_le hm.2.1 hy) h1
  obtain rfl := h.right0 hy hm.2.1 h2
  obtain ⟨a1, a2, a3, a4⟩ := h.leftJ hy hm h3
  exact ⟨a1, a2, h.rightJ hy hm a3 a4 h4⟩
theorem ar_p {i a c : Nat} (hc : 0 < c) (h : i + c = a + c - 1 + 1) : i = a := by lia
theorem Lay.flm (h : Lay T L jk n o c mu wd tp lp off) {x y m : Nat} (hy : y ≤ n) (hm : FMax c x y m) {i j k : Nat} (hf : FLM T L jk (tp x + oo n c off x) (tp y + oo n c off y) (lp x + oo n c off x) (lp y + mu y + oo n c off y) i j k) :
    i = tp m + oo n c off m ∧ j = lp m + mu m + oo n c off m ∧ i + k = tp (m + 1) + oo n c off (m + 1) := by
  obtain ⟨i0, j0, k0, i1, j1, k1, k2, i3, j3, k3, hB, h1, h2, h3, h4, rfl, rfl⟩ := hf
  obtain ⟨s1, s2, s3⟩ := h.suf_m hy hm
  have hc := h.cpos (r := m) (by have := hm.2.1; lia)
  obtain ⟨rfl, e1, e2⟩ := best_pin hB hc s2 s3 s1 fun i j hi hj hs => by
    have := h.suf_all hy hm hi hj hs
    exact ⟨this.1, fun e => ⟨Nat.sub_le_of_le_add (this.2 e).1, Nat.sub_le_of_le_add (this.2 e).2⟩⟩
  obtain rfl : i0 = tp m + o m := ar_p hc e1
  obtain rfl : j0 = lp m + mu m + o m := ar_p hc e2
  exact h.ext hy hm h1 h2 h3 h4
theorem Lay.flm' (h : Lay T L jk n o c mu wd tp lp off) {x y m : Nat} (hy : y ≤ n) (hm : FMax c x y m) {i j k : Nat} (hf : FLM L T jk (lp x + oo n c off x) (lp y + mu y + oo n c off y) (tp x + oo n c off x) (tp y + oo n c off y) i j k) :
    j = tp m + oo n c off m ∧ i = lp m + mu m + oo n c off m ∧ j + k = tp (m + 1) + oo n c off (m + 1) := by
  obtain ⟨i0, j0, k0, i1, j1, k1, k2, i3, j3, k3, hB, h1, h2, h3, h4, rfl, rfl⟩ := hf
  obtain ⟨s1, s2, s3⟩ := h.suf_m hy hm
  have hc := h.cpos (r := m) (by have := hm.2.1; lia)
  obtain ⟨rfl, e1, e2⟩ := best_pin hB hc s3 s2 (by rw [suf_comm]; exact s1) fun i j hi hj hs => by
    rw [suf_comm] at hs ⊢
    have := h.suf_all hy hm hj hi hs
    exact ⟨this.1, fun e => ⟨Nat.sub_le_of_le_add (this.2 e).2, Nat.sub_le_of_le_add (this.2 e).1⟩⟩
  obtain rfl : j0 = tp m + o m := ar_p hc e2
  obtain rfl : i0 = lp m + mu m + o m := ar_p hc e1
  exact h.ext hy hm h1.comm h2.comm h3.comm h4.comm
end
end Mine
end
section
open PySem PySem.W PyProof.Rows PySem.Calls PySem.Spec
set_option Elab.async false
set_option maxRecDepth 1000000
set_option maxHeartbeats 8000000
namespace Mine
theorem regKM2 (P : Params) : K P = [] ∨ PySem.Challenge.rw_kl0396_01.name = PySem.Challenge.rw_kl0396_01.name := by
  k_fill
  exact .inr rfl
section
variable {w : World} {A : Around} {E : Value → Shared → Prop} {s : Shared}
noncomputable def IsM (h : Heap) (t : Addr) (items : Array Value) : Prop := ∃ d, h.get? t = some (mObj d items)
theorem IsM.keeps {h h' : Heap} {t items} (x : IsM h t items) (hk : ∀ b o, h.get? b = some o → h'.get? b = some o) : IsM h' t items := let ⟨d, e⟩ := x; ⟨d, hk _ _ e⟩
theorem IsM.push {h : Heap} {t items} (x : IsM h t items) (o : Obj) : IsM (h.push o) t items := let ⟨d, e⟩ := x; ⟨d, Heap.get?_push_of_some o e⟩
theorem IsM.extBut {h h' : Heap} {a b items} (x : IsM h a items) (hs : Heap.ExtBut b h h') (hab : a ≠ b) : IsM h' a items := let ⟨d, ho⟩ := x; ⟨d, hs a _ hab ho⟩
theorem IsM.type {h : Heap} {t items} (x : IsM h t items) : Looks (model pw w) h (typeOf (.ref t)) (.ref 135) := by
  obtain ⟨d, e⟩ := x
  exact (Looks.ld e).andThen .now
theorem IsM.inst {h : Heap} {t items} (x : IsM h t items) (X : (K w.params).In h) : Looks (model pw w) h (isInstance (.ref t) (.type "tuple")) true := x.type.andThen (sub135 X)
theorem IsM.special {h : Heap} {t items} (x : IsM h t items) (X : (K w.params).In h) {name : Str} {v : Option Value} (e : findIn (K w.params) (.ref 135) name = some v) : Looks (model pw w) h (specialOf (.ref t) name) v := x.type.andThen (looks_findIn X e)
theorem iter_fin {t : Addr} {items} {Q : Value → Shared → Prop} (X : (K w.params).In s.heap) (ht : IsM s.heap t items)
    (hQ : Q (.ref s.heap.objs.size) { s with heap := s.heap.push { cls := .type "tuple_iterator", data := .fields #[.ref t, .int 0 0] } }) :
    wpAny (model pw w) A (call (.builtin "tuple.__iter__") [.ref t]) Q E s := by
  refine wpAny_call (codeAny_call_builtin (by decide +kernel) entry_tuple_iter (@check_slot (model pw w) _ _ _ "tuple.__iter__" "tuple" "__iter__" (.ref t) [] [] _ (by decide +kernel) (by decide +kernel) (ht.inst X) (args_tuple_iter _) ?_))
  show wpAny _ _ (do ret (← newFields "tuple_iterator" [.ref t, rawInt 0])) _ _ s
  exact wpAny_bind (wpAny_newObj_type (wpAny_pure hQ))
theorem iter_match {t : Addr} {items} {Q : Value → Shared → Prop} (X : (K w.params).In s.heap) (ht : IsM s.heap t items)
    (hQ : Q (.ref s.heap.objs.size) { s with heap := s.heap.push { cls := .type "tuple_iterator", data := .fields #[.ref t, .int 0 0] } }) :
    wpAny (model pw w) A (pyIter (.ref t)) Q E s := by
  have sp : Looks (model pw w) s.heap (specialOf (.ref t) "__iter__") (some (.builtin "tuple.__iter__")) := ht.special X (by k_is)
  unfold pyIter
  refine wpAny_bind (sp.here ?_)
  show wpAny _ _ (callSpecialIfBoundUnlessNone? (.ref t) "__iter__" _ >>= _) Q E s
  refine wpAny_bind ?_
  unfold callSpecialIfBoundUnlessNone? bindSpecialIfBound?
  refine wpAny_holding (wpAny_bind (wpAny_bind (sp.here ?_)))
  dsimp only
  rw [slot_tuple_iter.bind]
  have fin : Q (.ref s.heap.objs.size) { s with heap := s.heap.push { cls := .type "tuple_iterator", data := .fields #[.ref t, .int 0 0] } } → ∀ {rf : Sem Value} {rg : Value → Sem Value} {no : Sem Value}, (∀ s' : Shared, s'.TypeIs (.ref s.heap.objs.size) "tuple_iterator" → Q (.ref s.heap.objs.size) s' → wpAny (model pw w) A (rg (.ref s.heap.objs.size)) Q E s') →
      wpAny (model pw w) A (if (Value.builtin "tuple.__iter__" == Value.none) = true then (rf >>= fun v => pure (some v)) else (call (.builtin "tuple.__iter__") [.ref t] >>= fun v => pure (some v)))
        (fun a s' => wpAny (model pw w) A (match a with | some it => rg it | none => no) Q E s') E s := fun hq rf rg no hg => by
    rw [if_neg (by decide +kernel)]
    exact wpAny_bind (iter_fin X ht (wpAny_pure (hg _ ⟨_, Heap.get?_push_size _ rfl, rfl⟩ hq)))
  have hg : ∀ s' : Shared, s'.TypeIs (.ref s.heap.objs.size) "tuple_iterator" → Q (.ref s.heap.objs.size) s' → wpAny (model pw w) A (specialOf (.ref s.heap.objs.size) "__next__" >>= fun v => match v with | none => (do rule "iter.non-iterator"; raiseError "TypeError" s!"iter() returned non-iterator of type '{← typeNameOf (.ref s.heap.objs.size)}'") | some _ => pure (.ref s.heap.objs.size)) Q E s' := fun s' hT hq =>
    wpAny_bind (wpAny_specialOf hT slot_tupleiter_next.lookup (wpAny_pure hq))
  refine wpAny_bind (wpAny_askSetting (wpAny_ite_split (fun _ => ?_) fun _ => ?_))
  · refine wpAny_bind (wpAny_pure (wpAny_pure ?_))
    exact fin hQ hg
  · refine wpAny_tryCatch (wpAny_bind (wpAny_pure (wpAny_pure ?_)))
    exact fin hQ hg
theorem next_match_item {it t : Addr} {i : Nat} {items} {x : Value} {Q : Option Value → Shared → Prop} (hit : IsTupIter s.heap it t i)
    (ht : IsM s.heap t items) (hx : items[i]? = some x)
    (hQ : ∀ h', IsTupIter h' it t (i + 1) → Heap.SameBut it s.heap h' → Q (some x) { s with heap := h' }) :
    wpAny (model pw w) A (pyNext (.ref it)) Q E s := by
  obtain ⟨o, ho, hc, hd⟩ := id hit
  obtain ⟨dt, hol⟩ := ht
  unfold pyNext
  refine wpAny_bind (wpAny_attempt (wpAny_callSpecial?_slot (name := Str.ofString "__next__") hit.typeIs slot_tupleiter_next (wpAny_call_entry slot_tupleiter_next hit.typeIs entry_tupleiter_next ?_ (args_tupleiter_next _))))
  show wpAny _ _ (field (.ref it) 0 >>= _) _ _ s
  refine wpAny_bind (wpAny_field ho hd (x := .ref t) rfl ?_)
  rw [if_neg (show ¬ ((Value.ref t == Value.none) = true) from Bool.false_ne_true)]
  refine wpAny_bind (wpAny_field ho hd (x := .int i 0) rfl ?_)
  refine wpAny_bind (wpAny_seqItems hol rfl ?_)
  dsimp only
  rw [show items[((i : Nat) : Int).toNat]? = some x from hx]
  refine wpAny_bind (wpAny_setField ho hd (by simp) (wpAny_pure ⟨x, rfl, wpAny_pure (hQ _ ?_ (Heap.SameBut.update ..))⟩))
  exact ⟨_, Heap.get?_update_self _ ho (Obj.isFreed_of_fields (Obj.data_mapFields hd _)), (Obj.cls_mapFields ..).trans hc, by rw [Obj.data_mapFields hd]; simp [rawInt]⟩
theorem next_match_end {it t : Addr} {i : Nat} {items} {Q : Option Value → Shared → Prop} (hh : A.handled = none)
    (hit : IsTupIter s.heap it t i) (ht : IsM s.heap t items) (hx : items[i]? = none)
    (hQ : ∀ h', Heap.ExtBut it s.heap h' → Q none { s with heap := h' }) : wpAny (model pw w) A (pyNext (.ref it)) Q E s := by
  obtain ⟨o, ho, hc, hd⟩ := id hit
  obtain ⟨dt, hol⟩ := ht
  unfold pyNext
  refine wpAny_bind (wpAny_attempt (wpAny_callSpecial?_slot (name := Str.ofString "__next__") hit.typeIs slot_tupleiter_next (wpAny_call_entry slot_tupleiter_next hit.typeIs entry_tupleiter_next ?_ (args_tupleiter_next _))))
  show wpAny _ _ (field (.ref it) 0 >>= _) _ _ s
  refine wpAny_bind (wpAny_field ho hd (x := .ref t) rfl ?_)
  rw [if_neg (show ¬ ((Value.ref t == Value.none) = true) from Bool.false_ne_true)]
  refine wpAny_bind (wpAny_field ho hd (x := .int i 0) rfl ?_)
  refine wpAny_bind (wpAny_seqItems hol rfl ?_)
  dsimp only
  rw [show items[((i : Nat) : Int).toNat]? = none from hx]
  refine wpAny_bind (wpAny_rule (wpAny_bind (wpAny_setField ho hd (by simp) ?_)))
  show wpAny _ _ (newExc (.type "StopIteration") [] >>= _) _ _ _
  refine wpAny_bind ?_
  unfold newExc newTuple
  refine wpAny_bind (wpAny_newObj_type ?_ (by size_fits))
  refine wpAny_bind (m := firstArgMember _ _) (wpAny_of_eq (a := Value.none) (by first | rfl | (unfold firstArgMember; rfl)) ?_)
  refine wpAny_newObj_type ?_ (by size_fits)
  unfold raiseNew
  refine wpAny_bind (wpAny_handled ?_)
  first | rw [show A.in1.handled = none from hh] | rw [hh]
  refine wpAny_bind (wpAny_pure (wpAny_throw ?_))
  refine wpAny_bind (wpAny_isInstance (T := "StopIteration") (b := true) ⟨_, Heap.get?_push_size _ rfl, rfl⟩ isSubtype_stop ?_)
  exact wpAny_pure (hQ _ (((Heap.SameBut.update ..).extBut.push _).push _))
theorem draw_match {it t : Addr} {items : Array Value} (hne : t ≠ it) : ∀ (n i : Nat) (s : Shared) (Q : List Value → Shared → Prop), IsTupIter s.heap it t i → IsM s.heap t items → i + n ≤ items.size →
    (∀ h', IsTupIter h' it t (i + n) → Heap.SameBut it s.heap h' → Q ((items.toList.drop i).take n) { s with heap := h' }) → wpAny (model pw w) A (draw (.ref it) n) Q E s
  | 0, i, s, Q, hit, _, _, hQ => by
    show wpAny _ _ (pure []) Q E s
    exact wpAny_pure (by simpa using hQ s.heap hit (Heap.SameBut.refl ..))
  | n + 1, i, s, Q, hit, ht, hle, hQ => by
    have hlt : i < items.size := by lia
    show wpAny _ _ (pyNext (.ref it) >>= _) Q E s
    refine wpAny_bind (next_match_item hit ht (x := items[i]) (by simp [hlt]) fun h₁ hit₁ hs₁ => ?_)
    refine wpAny_bind (wpAny_holding (draw_match hne n (i + 1) _ _ hit₁ (ht.extBut hs₁.extBut hne) (by lia) fun h₂ hit₂ hs₂ => wpAny_pure ?_))
    have hd : items.toList.drop i = items[i] :: items.toList.drop (i + 1) := by simp [List.drop_eq_getElem_cons, hlt]
    have := hQ h₂ (by rw [show i + (n + 1) = i + 1 + n by lia]; exact hit₂) (hs₁.trans hs₂)
    rw [hd, List.take_succ_cons] at this
    exact this
theorem unpack_match {t : Addr} {items : Array Value} {Q : List Value → Shared → Prop} {n : Nat} (X : (K w.params).In s.heap) (hh : A.handled = none) (ht : IsM s.heap t items) (hn : n = items.size)
    (hQ : ∀ h', Heap.ExtBut s.heap.objs.size s.heap h' → Q items.toList { s with heap := h' }) : wpAny (model pw w) A (unpackItems (.ref t) n none) Q E s := by
  subst hn
  have hlt : t ≠ s.heap.objs.size := by obtain ⟨o, ho⟩ := ht; exact Nat.ne_of_lt (Heap.lt_size ho)
  have sp : Looks (model pw w) s.heap (specialOf (.ref t) "__iter__") (some (.builtin "tuple.__iter__")) := ht.special X (by k_is)
  unfold unpackItems
  refine wpAny_bind ?_
  unfold notIterableAtAll
  refine wpAny_bind (sp.here ?_)
  refine wpAny_pure ?_
  refine wpAny_ite_false rfl ?_
  refine wpAny_bind (wpAny_holding (iter_match X ht ?_))
  refine wpAny_bind (wpAny_holding (draw_match hlt items.size 0 _ _ ⟨_, Heap.get?_push_size _ rfl, rfl, rfl⟩ (ht.push _) (by lia) fun h₁ hit₁ hs₁ => ?_))
  have hall : List.take items.size (List.drop 0 items.toList) = items.toList := by
    rw [List.drop_zero]; exact List.take_of_length_le (by simp)
  rw [hall]
  rw [if_neg (by simp)]
  have ht₁ : IsM h₁ t items := (ht.push _).extBut hs₁.extBut hlt
  refine wpAny_bind (wpAny_holding (next_match_end hh hit₁ ht₁ (by simp) fun h₂ he₂ => ?_))
  refine wpAny_ite_false rfl ?_
  exact wpAny_pure (hQ h₂ fun b o hb e => he₂ b o hb (hs₁.extBut b o hb (Heap.get?_push_of_some _ e)))
theorem unpackN_match {h₀ : Heap} {L : Addr} {m : Str → Option Value} {news : List (Addr × Obj)} {t : Addr} {items : Array Value} {n : Nat} {Q : List Value → Shared → Prop} (F : Fr h₀ L s.heap m) (N : News h₀ L s.heap news) (X : (K w.params).In s.heap) (ht : IsM s.heap t items)
    (hh : A.handled = none) (hn : n = items.size) (h : ∀ h', Fr h₀ L h' m → News h₀ L h' news → Q items.toList { s with heap := h' }) : wpAny (model pw w) A (unpackItems (.ref t) n none) Q E s :=
  unpack_match X hh ht hn fun h' he => h h' (F.extBut he (Nat.le_refl _)) (N.extBut he (Nat.le_refl _))
theorem assignN_match {env : Env} {h₀ : Heap} {L : Addr} {m : Str → Option Value} {news : List (Addr × Obj)} {elts : List Expr} {k} {pos : Pos} {t : Addr} {items : Array Value} {Q : Unit → Shared → Prop} (F : Fr h₀ L s.heap m) (N : News h₀ L s.heap news) (X : (K w.params).In s.heap) (ht : IsM s.heap t items)
    (hh : A.handled = none) (hn : (assignEach elts env).length = items.size) (hstar : (assignEach elts env).findIdx? (·.1) = none)
    (h : ∀ h', Fr h₀ L h' m → News h₀ L h' news → wpAny (model pw w) A (assignInOrder ((assignEach elts env).map (·.2)) items.toList) Q E { s with heap := h' }) :
    wpAny (model pw w) A (assign (.Tuple elts k pos) env (.ref t)) Q E s := by
  rw [assign_Tuple]
  refine wpAny_bind (wpAny_standAt ?_)
  unfold unpack
  rw [hstar]
  exact wpAny_bind (wpAny_holding (unpackN_match F N X ht hh hn h))
end
end Mine
end
section
open PySem PySem.W PyProof.Rows
set_option maxRecDepth 100000
namespace Mine
/-! ## the sort's tree of questions, answered by an order of keys that are all different -/
namespace KSt
noncomputable def run {α : Type} (ans : Nat → Nat → Bool) : KasT α → α
  | .ret a => a
  | .ask i j k => run ans (k (ans i j))
theorem run_bind {α β : Type} (ans : Nat → Nat → Bool) (f : α → KasT β) : ∀ t : KasT α, run ans (t.bind f) = run ans (f (run ans t))
  | .ret a => rfl
  | .ask i j k => run_bind ans f (k (ans i j))
section
variable {n : Nat} {key : Nat → Int}
noncomputable abbrev lt (key : Nat → Int) (i j : Nat) : Bool := decide (key i < key j)
noncomputable def G (p : Array Nat) (i : Nat) : Nat := p.getD i 0
theorem G_eq (p : Array Nat) (i : Nat) : G p i = p[i]?.getD 0 := by unfold G; simp
structure IsP (n : Nat) (p : Array Nat) : Prop where
  perm : p.Perm (List.range n).toArray
theorem IsP.size {p : Array Nat} (h : IsP n p) : p.size = n := by have := h.perm.size_eq; simpa using this
theorem IsP.toList {p : Array Nat} (h : IsP n p) : p.toList.Perm (List.range n) := by have := Array.perm_iff_toList_perm.mp h.perm; simpa using this
theorem IsP.lt {p : Array Nat} (h : IsP n p) {i : Nat} (hi : i < n) : G p i < n := by
  have hs := h.size
  have : G p i ∈ p.toList := by
    rw [G_eq, Array.getElem?_eq_getElem (by lia)]; simp
  have := h.toList.mem_iff.mp this
  simpa using this
theorem IsP.ne {p : Array Nat} (h : IsP n p) {i j : Nat} (hi : i < n) (hj : j < n) (hij : i ≠ j) : G p i ≠ G p j := by
  have hs := h.size
  have hn : p.toList.Nodup := h.toList.nodup_iff.mpr List.nodup_range
  rw [G_eq, G_eq, Array.getElem?_eq_getElem (by lia), Array.getElem?_eq_getElem (by lia)]
  intro e
  have := (List.getElem_inj (h₀ := by simpa using (by lia : i < p.size)) (h₁ := by simpa using (by lia : j < p.size)) hn).mp (by simpa using e)
  exact hij this
noncomputable def Asc (key : Nat → Int) (p : Array Nat) (k : Nat) : Prop := ∀ i, i + 1 < k → key (G p i) < key (G p (i + 1))
noncomputable def Dsc (key : Nat → Int) (p : Array Nat) (k : Nat) : Prop := ∀ i, i + 1 < k → key (G p (i + 1)) < key (G p i)
theorem Asc.all {p : Array Nat} {k : Nat} (h : Asc key p k) : ∀ d i, i + d + 1 < k → key (G p i) < key (G p (i + d + 1))
  | 0, i, hi => h i hi
  | d + 1, i, hi => Int.lt_trans (h.all d i (by lia)) (h (i + d + 1) (by lia))
theorem Asc.lt {p : Array Nat} {k i j : Nat} (h : Asc key p k) (hij : i < j) (hj : j < k) : key (G p i) < key (G p j) := by
  have := h.all (j - i - 1) i (by lia)
  rwa [show i + (j - i - 1) + 1 = j by lia] at this
variable (inj : ∀ i j, i < n → j < n → key i = key j → i = j)
include inj
theorem other {p : Array Nat} (h : IsP n p) {i j : Nat} (hi : i < n) (hj : j < n) (hij : i ≠ j) (hn : ¬ key (G p i) < key (G p j)) : key (G p j) < key (G p i) := by
  rcases Int.lt_trichotomy (key (G p i)) (key (G p j)) with e | e | e
  · exact absurd e hn
  · exact absurd (inj _ _ (h.lt hi) (h.lt hj) e) (h.ne hi hj hij)
  · exact e
theorem asc_run {p : Array Nat} (h : IsP n p) : ∀ f m, 1 ≤ m → m + f = n → Asc key p m → m ≤ run (lt key) (kas_asc p f m) ∧ run (lt key) (kas_asc p f m) ≤ n ∧ Asc key p (run (lt key) (kas_asc p f m)) ∧
    (run (lt key) (kas_asc p f m) < n → key (G p (run (lt key) (kas_asc p f m))) < key (G p (run (lt key) (kas_asc p f m) - 1)))
  | 0, m, h1, hm, ha => ⟨Nat.le_refl _, by show m ≤ n; lia, ha, fun hlt => by exfalso; have : m < n := hlt; lia⟩
  | f + 1, m, h1, hm, ha => by
    have e : run (lt key) (kas_asc p (f + 1) m) = run (lt key) (if lt key (G p m) (G p (m - 1)) = true then .ret m else kas_asc p f (m + 1)) := rfl
    rw [e]
    by_cases c : key (G p m) < key (G p (m - 1))
    · rw [if_pos (by simpa using c)]
      exact ⟨Nat.le_refl _, by show m ≤ n; lia, ha, fun _ => c⟩
    · rw [if_neg (by simpa using c)]
      have o := other inj h (i := m) (j := m - 1) (by lia) (by lia) (by lia) c
      have := asc_run h f (m + 1) (by lia) (by lia) (fun i hi => by
        by_cases hx : i + 1 = m
        · rw [hx, show i = m - 1 by lia]; exact o
        · exact ha i (by lia))
      exact ⟨by lia, this.2⟩
theorem desc_run {p : Array Nat} (h : IsP n p) : ∀ f m, 2 ≤ m → m + f = n → Dsc key p m → ∃ r, run (lt key) (kas_desc f p m 0) = (p, r, 0) ∧ m ≤ r ∧ r ≤ n ∧ Dsc key p r
  | 0, m, _, hm, hd => ⟨m, rfl, Nat.le_refl _, by lia, hd⟩
  | f + 1, m, h2, hm, hd => by
    have e : run (lt key) (kas_desc (f + 1) p m 0) = run (lt key) (if lt key (G p m) (G p (m - 1)) = true then (if 0 > 0 then kas_desc f (kas_rev p (m - (0 + 1)) m) (m + 1) 0 else kas_desc f p (m + 1) 0)
        else .ask (p.getD (m - 1) 0) (p.getD m 0) fun d => if d = true then .ret (p, m, 0) else kas_desc f p (m + 1) (0 + 1)) := rfl
    rw [e]
    by_cases c : key (G p m) < key (G p (m - 1))
    · rw [if_pos (by simpa using c), if_neg (by lia)]
      obtain ⟨r, e1, e2, e3, e4⟩ := desc_run h f (m + 1) (by lia) (by lia) (fun i hi => by
        by_cases hx : i + 1 = m
        · rw [hx, show i = m - 1 by lia]; exact c
        · exact hd i (by lia))
      exact ⟨r, e1, by lia, e3, e4⟩
    · rw [if_neg (by simpa using c)]
      have o := other inj h (i := m) (j := m - 1) (by lia) (by lia) (by lia) c
      have e2 : run (lt key) (.ask (p.getD (m - 1) 0) (p.getD m 0) fun d => if d = true then .ret (p, m, 0) else kas_desc f p (m + 1) (0 + 1)) = run (lt key) (if lt key (G p (m - 1)) (G p m) = true then .ret (p, m, 0) else kas_desc f p (m + 1) (0 + 1)) := rfl
      rw [e2, if_pos (by simpa using o)]
      exact ⟨m, rfl, Nat.le_refl _, by lia, hd⟩
omit inj in
theorem rev_isP {p : Array Nat} (h : IsP n p) (i j : Nat) : IsP n (kas_rev p i j) := ⟨(mirror_perm _ _ _ _).trans h.perm⟩
omit inj in
theorem rev_G {p : Array Nat} (h : IsP n p) {j : Nat} (hj : j ≤ n) (k : Nat) : G (kas_rev p 0 j) k = if k < j then G p (j - 1 - k) else G p k := by
  have hs := h.size
  unfold kas_rev
  rw [G_eq, getElem?_mirror_all (by lia)]
  by_cases hk : k < j
  · rw [if_pos ⟨Nat.zero_le _, hk⟩, if_pos hk, G_eq, Nat.zero_add]
  · rw [if_neg (by lia), if_neg hk, G_eq]
omit inj in
theorem Dsc.rev {p : Array Nat} (h : IsP n p) {j : Nat} (hj : j ≤ n) (hd : Dsc key p j) : Asc key (kas_rev p 0 j) j := fun i hi => by
  rw [rev_G h hj, rev_G h hj, if_pos (by lia), if_pos hi]
  have := hd (j - 1 - (i + 1)) (by lia)
  rwa [show j - 1 - (i + 1) + 1 = j - 1 - i by lia] at this
theorem count_run {p : Array Nat} (h : IsP n p) (h2 : 2 ≤ n) : ∃ m p', run (lt key) (kas_count n p) = (m, p') ∧ IsP n p' ∧ 1 ≤ m ∧ m ≤ n ∧ Asc key p' m := by
  unfold kas_count
  rw [run_bind]
  obtain ⟨a1, a2, a3, a4⟩ := asc_run inj h (n - 1) 1 (Nat.le_refl _) (by lia) (fun i hi => by lia)
  generalize run (lt key) (kas_asc p (n - 1) 1) = m at *
  by_cases e : m = n
  · rw [if_pos (by simpa using e)]
    exact ⟨m, p, rfl, h, a1, a2, a3⟩
  · rw [if_neg (by simpa using e)]
    by_cases e1 : m > 1
    · rw [if_pos e1]
      have c : key (G p 0) < key (G p (m - 1)) := a3.lt (by lia) (by lia)
      refine ⟨m, p, ?_, h, a1, a2, a3⟩
      show run (lt key) (if lt key (G p 0) (G p (m - 1)) = true then .ret (m, p) else _) = _
      rw [if_pos (by simpa using c)]; rfl
    · rw [if_neg e1]
      obtain rfl : m = 1 := by lia
      unfold kas_descPart
      rw [run_bind]
      obtain ⟨r, e1, e2, e3, e4⟩ := desc_run inj h (n - (1 + 1)) (1 + 1) (by lia) (by lia) (fun i hi => by
        obtain rfl : i = 0 := by lia
        exact a4 (by lia))
      rw [e1]
      dsimp only
      rw [if_neg (by lia)]
      unfold kas_tail3
      rw [run_bind]
      obtain ⟨b1, b2, b3, _⟩ := asc_run inj (rev_isP h 0 r) (n - r) r (by lia) (by lia) (Dsc.rev h e3 e4)
      exact ⟨_, _, rfl, rev_isP h 0 r, by lia, b2, b3⟩
theorem place_run {p : Array Nat} (h : IsP n p) {k : Nat} (hk : k < n) (ha : Asc key p k) : ∀ f l r, r - l ≤ f → l ≤ r → r ≤ k → (∀ i, i < l → key (G p i) < key (G p k)) → (∀ i, r ≤ i → i < k → key (G p k) < key (G p i)) →
    run (lt key) (kas_place p k f l r) ≤ k ∧ (∀ i, i < run (lt key) (kas_place p k f l r) → key (G p i) < key (G p k)) ∧ (∀ i, run (lt key) (kas_place p k f l r) ≤ i → i < k → key (G p k) < key (G p i))
  | 0, l, r, hf, hlr, hr, h1, h2 => ⟨by show l ≤ k; lia, h1, fun i hi => h2 i (by have : l ≤ i := hi; lia)⟩
  | f + 1, l, r, hf, hlr, hr, h1, h2 => by
    by_cases hge : l ≥ r
    · have e : run (lt key) (kas_place p k (f + 1) l r) = l := by
        show run (lt key) (if l ≥ r then .ret l else _) = _
        rw [if_pos hge]; rfl
      rw [e]
      exact ⟨by lia, h1, fun i hi => h2 i (by lia)⟩
    · have e : run (lt key) (kas_place p k (f + 1) l r) = run (lt key) (if lt key (G p k) (G p ((l + r) / 2)) = true then kas_place p k f l ((l + r) / 2) else kas_place p k f ((l + r) / 2 + 1) r) := by
        show run (lt key) (if l ≥ r then .ret l else _) = _
        rw [if_neg hge]; rfl
      rw [e]
      by_cases c : key (G p k) < key (G p ((l + r) / 2))
      · rw [if_pos (by simpa using c)]
        refine place_run h hk ha f l _ (by lia) (by lia) (by lia) h1 fun i hi hik => ?_
        by_cases hx : i = (l + r) / 2
        · rw [hx]; exact c
        · exact Int.lt_trans c (ha.lt (by lia) hik)
      · rw [if_neg (by simpa using c)]
        have o := other inj h (i := k) (j := (l + r) / 2) hk (by lia) (by lia) c
        refine place_run h hk ha f _ r (by lia) (by lia) hr (fun i hi => ?_) h2
        by_cases hx : i = (l + r) / 2
        · rw [hx]; exact o
        · exact Int.lt_trans (ha.lt (show i < (l + r) / 2 by lia) (by lia)) o
omit inj in
theorem bubble_G {p : Array Nat} (h : IsP n p) {k l : Nat} (hk : k < n) (hl : l ≤ k) (i : Nat) : G (bubble p k (k - l)) i = if i = l then G p k else if l < i ∧ i ≤ k then G p (i - 1) else G p i := by
  have hs := h.size
  rw [G_eq, getElem?_bubble (by lia) _ (by lia), show k - (k - l) = l by lia]
  repeat' split
  all_goals rw [G_eq]
theorem bin_run : ∀ f (p : Array Nat) (k : Nat), IsP n p → k + f = n → Asc key p k → IsP n (run (lt key) (kas_bin f p k)) ∧ Asc key (run (lt key) (kas_bin f p k)) n
  | 0, p, k, h, hk, ha => by
    obtain rfl : k = n := by lia
    exact ⟨h, ha⟩
  | f + 1, p, k, h, hk, ha => by
    have e : run (lt key) (kas_bin (f + 1) p k) = run (lt key) (kas_bin f (bubble p k (k - run (lt key) (kas_place p k k 0 k))) (k + 1)) := run_bind _ _ _
    rw [e]
    obtain ⟨c1, c2, c3⟩ := place_run inj h (by lia) ha k 0 k (by lia) (by lia) (Nat.le_refl _) (fun i hi => by lia) (fun i hi hi' => by lia)
    generalize run (lt key) (kas_place p k k 0 k) = l at *
    refine bin_run f _ (k + 1) ⟨(bubble_perm _ _ _).trans h.perm⟩ (by lia) fun i hi => ?_
    rw [bubble_G h (by lia) c1, bubble_G h (by lia) c1]
    by_cases h1 : i + 1 < l
    · rw [if_neg (by lia), if_neg (by lia), if_neg (by lia), if_neg (by lia)]; exact ha i (by lia)
    · by_cases h2 : i + 1 = l
      · rw [if_neg (by lia), if_neg (by lia), if_pos h2]; exact c2 i (by lia)
      · by_cases h3 : i = l
        · rw [if_pos h3, if_neg (by lia), if_pos (by lia)]; exact c3 _ (by lia) (by lia)
        · rw [if_neg h3, if_pos (by lia), if_neg (by lia), if_pos (by lia)]
          have := ha (i - 1) (by lia)
          rwa [show i - 1 + 1 = i + 1 - 1 by lia] at this
theorem sort_run (h2 : 2 ≤ n) : IsP n (run (lt key) (kas_sort n)) ∧ Asc key (run (lt key) (kas_sort n)) n := by
  unfold kas_sort
  rw [run_bind]
  obtain ⟨m, p', e, h', m1, mn, ha⟩ := count_run inj (p := List.toArray (List.range n)) ⟨Array.Perm.refl _⟩ h2
  rw [e]
  dsimp only
  by_cases c : m < n
  · rw [if_pos c, show max m 1 = m by lia]
    exact bin_run inj _ _ _ h' (by lia) ha
  · rw [if_neg c]
    obtain rfl : m = n := by lia
    exact ⟨h', ha⟩
/-- the questions that are asked are about the n items -/
noncomputable def ok (ans : Nat → Nat → Bool) (n : Nat) {α : Type} : KasT α → Prop
  | .ret _ => True
  | .ask i j k => i < n ∧ j < n ∧ i ≠ j ∧ ok ans n (k (ans i j))
omit inj in
theorem ok_bind {α β : Type} {ans : Nat → Nat → Bool} {f : α → KasT β} : ∀ t : KasT α, ok ans n t → ok ans n (f (run ans t)) → ok ans n (t.bind f)
  | .ret _, _, h => h
  | .ask _ _ k, h, h' => ⟨h.1, h.2.1, h.2.2.1, ok_bind (k _) h.2.2.2 h'⟩
omit inj in
theorem asc_ok {p : Array Nat} (h : IsP n p) : ∀ f m, 1 ≤ m → m + f = n → ok (lt key) n (kas_asc p f m)
  | 0, _, _, _ => trivial
  | f + 1, m, h1, hm => by
    refine ⟨h.lt (by lia), h.lt (by lia), h.ne (by lia) (by lia) (by lia), ?_⟩
    dsimp only
    by_cases c : lt key (p.getD m 0) (p.getD (m - 1) 0) = true
    · rw [if_pos c]; trivial
    · rw [if_neg c]; exact asc_ok h f (m + 1) (by lia) (by lia)
omit inj in
theorem desc_ok : ∀ f (p : Array Nat) m q, IsP n p → 1 ≤ m → m + f = n → ok (lt key) n (kas_desc f p m q)
  | 0, _, _, _, _, _, _ => trivial
  | f + 1, p, m, q, h, h1, hm => by
    refine ⟨h.lt (by lia), h.lt (by lia), h.ne (by lia) (by lia) (by lia), ?_⟩
    dsimp only
    by_cases c : lt key (p.getD m 0) (p.getD (m - 1) 0) = true
    · rw [if_pos c]
      split
      · exact desc_ok f _ (m + 1) 0 (rev_isP h _ _) (by lia) (by lia)
      · exact desc_ok f _ (m + 1) 0 h (by lia) (by lia)
    · rw [if_neg c]
      refine ⟨h.lt (by lia), h.lt (by lia), h.ne (by lia) (by lia) (by lia), ?_⟩
      dsimp only
      split
      · trivial
      · exact desc_ok f _ (m + 1) (q + 1) h (by lia) (by lia)
theorem count_ok {p : Array Nat} (h : IsP n p) (h2 : 2 ≤ n) : ok (lt key) n (kas_count n p) := by
  unfold kas_count
  refine ok_bind _ (asc_ok h _ _ (Nat.le_refl _) (by lia)) ?_
  obtain ⟨a1, a2, a3, a4⟩ := asc_run inj h (n - 1) 1 (Nat.le_refl _) (by lia) (fun i hi => by lia)
  generalize run (lt key) (kas_asc p (n - 1) 1) = m at *
  by_cases e : m = n
  · rw [if_pos (by simpa using e)]; trivial
  · rw [if_neg (by simpa using e)]
    by_cases e1 : m > 1
    · rw [if_pos e1]
      have c : key (G p 0) < key (G p (m - 1)) := a3.lt (by lia) (by lia)
      refine ⟨h.lt (by lia), h.lt (by lia), h.ne (by lia) (by lia) (by lia), ?_⟩
      dsimp only
      rw [if_pos (by simpa [G] using c)]; trivial
    · rw [if_neg e1]
      obtain rfl : m = 1 := by lia
      unfold kas_descPart
      refine ok_bind _ (desc_ok _ _ _ _ h (by lia) (by lia)) ?_
      obtain ⟨r, e1, e2, e3, e4⟩ := desc_run inj h (n - (1 + 1)) (1 + 1) (by lia) (by lia) (fun i hi => by
        obtain rfl : i = 0 := by lia
        exact a4 (by lia))
      rw [e1]
      dsimp only
      rw [if_neg (by lia)]
      unfold kas_tail3
      exact ok_bind _ (asc_ok (rev_isP h 0 r) _ _ (by lia) (by lia)) trivial
omit inj in
theorem place_ok {p : Array Nat} (h : IsP n p) {k : Nat} (hk : k < n) : ∀ f l r, r ≤ k → ok (lt key) n (kas_place p k f l r)
  | 0, _, _, _ => trivial
  | f + 1, l, r, hr => by
    unfold kas_place
    split
    · trivial
    · refine ⟨h.lt hk, h.lt (by lia), h.ne (by lia) (by lia) (by lia), ?_⟩
      dsimp only
      split
      · exact place_ok h hk f _ _ (by lia)
      · exact place_ok h hk f _ _ hr
omit inj in
theorem bin_ok : ∀ f (p : Array Nat) (k : Nat), IsP n p → k + f = n → ok (lt key) n (kas_bin f p k)
  | 0, _, _, _, _ => trivial
  | f + 1, p, k, h, hk => ok_bind _ (place_ok h (by lia) _ _ _ (Nat.le_refl _)) (bin_ok f _ (k + 1) ⟨(bubble_perm _ _ _).trans h.perm⟩ (by lia))
theorem sort_ok (h2 : 2 ≤ n) : ok (lt key) n (kas_sort n) := by
  unfold kas_sort
  have hp : IsP n (List.toArray (List.range n)) := ⟨Array.Perm.refl _⟩
  refine ok_bind _ (count_ok inj hp h2) ?_
  obtain ⟨m, p', e, h', m1, mn, ha⟩ := count_run inj hp h2
  rw [e]
  dsimp only
  split
  · exact bin_ok _ _ _ h' (by lia)
  · trivial
omit inj in
theorem wp_run {α : Type} {ans : Nat → Nat → Bool} {cmp : Nat → Nat → (Bool → Shared → Prop) → Shared → Prop} {Inv : Shared → Prop} (hc : ∀ i j C s, i < n → j < n → i ≠ j → Inv s → (∀ s', Inv s' → C (ans i j) s') → cmp i j C s) {Q : α → Shared → Prop} :
    ∀ (t : KasT α) (s : Shared), ok ans n t → Inv s → (∀ s', Inv s' → Q (run ans t) s') → t.kasWp cmp Q s
  | .ret _, s, _, hi, h => h s hi
  | .ask i j k, s, ho, hi, h => hc i j _ s ho.1 ho.2.1 ho.2.2.1 hi fun s' hi' => wp_run hc (k (ans i j)) s' ho.2.2.2 hi' h
end
end KSt
end Mine
end
section
open PySem PySem.W PyProof.Rows PySem.Calls PySem.Spec
set_option Elab.async false
set_option maxRecDepth 1000000
set_option maxHeartbeats 8000000
namespace Mine
theorem regKM3 (P : Params) : K P = [] ∨ PySem.Challenge.rw_kl0396_01.name = PySem.Challenge.rw_kl0396_01.name := by
  k_fill
  exact .inr rfl
section
variable {w : World} {A : Around} {E : Value → Shared → Prop} {s : Shared}
theorem lt_call {a b : Addr} {i i' : Int} {t t' : Tok} {x1 x2 y1 y2 : Value} {Q : Value → Shared → Prop} (X : (K w.params).In s.heap) (ha : IsM s.heap a #[.int i t, x1, x2]) (hb : IsM s.heap b #[.int i' t', y1, y2]) (hne : i ≠ i')
    (h : Q (.bool (decide (i < i'))) s) : wpAny (model pw w) A (call (.builtin "tuple.__lt__") [.ref a, .ref b]) Q E s := by
  refine wpAny_call (codeAny_call_builtin (by decide +kernel) F.entry_tuple_lt (@check_slot (model pw w) _ _ _ "tuple.__lt__" "tuple" "__lt__" (.ref a) [.ref b] [] _ (by decide +kernel) (by decide +kernel) (ha.inst X) (F.args_tuple_lt_2 _ _) ?_))
  have ib := hb.inst X
  obtain ⟨da, la⟩ := ha
  obtain ⟨db, lb⟩ := hb
  obtain ⟨hh, g, d, tk, os⟩ := s
  unfold Builtin.«tuple.__lt__»
  repeat (first | with_reducible refine wpAny_eqBool_int ?_ | (with_reducible show wpAny _ _ (richCompare .Lt (Value.int _ _) (Value.int _ _)) _ _ _); refine wpAny_lt_int ?_ | lk)
  rw [if_pos (by simpa using hne)]
  repeat (first | (with_reducible show wpAny _ _ (richCompare .Lt _ _) _ _ _); refine wpAny_lt_int (a := i) (b := i') (t := t) (u := t') ?_ | lk)
  exact h
theorem lt_match {a b : Addr} {i i' : Int} {t t' : Tok} {x1 x2 y1 y2 : Value} {Q : Bool → Shared → Prop} (X : (K w.params).In s.heap) (hu : A.units < cLine) (ha : IsM s.heap a #[.int i t, x1, x2]) (hb : IsM s.heap b #[.int i' t', y1, y2]) (hne : i ≠ i')
    (h : Q (decide (i < i')) s) : wpAny (model pw w) A (keyLt' oneType' (.ref a) (.ref b)) Q E s := by
  have sp : Looks (model pw w) s.heap (specialOf (.ref a) "__lt__") (some (.builtin "tuple.__lt__")) := ha.special X (by k_is)
  rw [keyLt'_oneType, oneLt'_eq]
  rw [if_pos rfl]
  refine wpAny_bind (wpAny_cRoomFor hu (wpAny_bind ?_))
  unfold callSpecialIfBound? bindSpecialIfBound?
  refine wpAny_holding (wpAny_bind (wpAny_bind (sp.here ?_)))
  dsimp only
  rw [show bindSpecial (.builtin "tuple.__lt__") (.ref a) = pure (.builtin "tuple.__lt__", [.ref a]) from F.slot_tuple_lt.bind _]
  refine wpAny_bind (wpAny_askSetting (wpAny_ite_split (fun _ => ?_) fun _ => ?_))
  · refine wpAny_bind (wpAny_pure (wpAny_pure (wpAny_bind ?_)))
    exact lt_call X ha hb hne (wpAny_pure (wpAny_truthy_bool h))
  · refine wpAny_tryCatch (wpAny_bind (wpAny_pure (wpAny_pure (wpAny_bind ?_))))
    exact lt_call X ha hb hne (wpAny_pure (wpAny_truthy_bool h))
theorem sort_match {g : Heap} {L D : Addr} {m : Str → Option Value} {rest : List (Addr × Obj)} {its : Array Value} {n : Nat} {Q : Value → Shared → Prop} (hu : A.units + 1 < cLine) (X : (K w.params).In g) (F : Fr g L s.heap m) (N : News g L s.heap ((D, listOf its n) :: rest)) (hD : ∀ p ∈ rest, p.1 ≠ D)
    (key : Nat → Int) (inj : ∀ i j, i < its.toList.length → j < its.toList.length → key i = key j → i = j) (h2 : 2 ≤ its.toList.length) (h64 : its.toList.length < 64)
    (hM : ∀ h, Fr g L h m → News g L h rest → ∀ i, i < its.toList.length → ∃ a t x1 x2, its.toList.getD i .none = .ref a ∧ IsM h a #[.int (key i) t, x1, x2])
    (h : ∀ h' tk p c, Fr g L h' m → News g L h' ((D, listOf (List.toArray (p.toList.map fun i => its.toList.getD i .none)) c) :: rest) → KSt.IsP its.toList.length p → KSt.Asc key p its.toList.length → Q .none { s with heap := h', toks := tk }) :
    wpAny (model pw w) A (call (.builtin "list.sort") [.ref D]) Q E s := by
  refine kas_lsort (T := .ref 135) F N (UpdF.head hD) rfl h2 h64 (fun e1 h' F' N' v hv => ?_) rfl fun e1 h' F' N' => ?_
  · obtain ⟨i, hi, rfl⟩ := List.mem_iff_getElem.mp hv
    obtain ⟨a, t, x1, x2, e, hm⟩ := hM h' F' (fun p hp => N' p (.tail _ hp)) i hi
    have e2 : its.toList.getD i Value.none = its.toList[i] := by rw [List.getD_eq_getElem?_getD, List.getElem?_eq_getElem hi]; rfl
    rw [← e2, e]
    exact hm.type
  · refine KSt.wp_run (n := its.toList.length) (ans := KSt.lt key) (Inv := fun s' => s' = { s with heap := h' }) (fun i j C s' hi hj hij e hC => ?_) _ _ (KSt.sort_ok inj h2) rfl fun s' e => ?_
    · subst e
      obtain ⟨a, t, x1, x2, e1, hm1⟩ := hM h' F' (fun p hp => N' p (.tail _ hp)) i hi
      obtain ⟨b, t', y1, y2, e2, hm2⟩ := hM h' F' (fun p hp => N' p (.tail _ hp)) j hj
      unfold kas_ask
      rw [e1, e2]
      exact lt_match (X.keeps F'.keep) hu hm1 hm2 (fun e => hij (inj i j hi hj e)) (hC _ rfl)
    · subst e
      obtain ⟨hp, ha⟩ := KSt.sort_run inj h2
      exact KasFin.intro F' N' (UpdF.head hD) fun h'' c F'' N'' => h h'' s.toks _ c F'' N'' hp ha
end
end Mine
end
section
open PySem PySem.W PyProof.Rows PySem.Calls PySem.Spec
set_option Elab.async false
set_option maxRecDepth 1000000
set_option maxHeartbeats 8000000
namespace Mine
theorem regKM4 (P : Params) : K P = [] ∨ PySem.Challenge.rw_kl0396_01.name = PySem.Challenge.rw_kl0396_01.name := by
  k_fill
  exact .inr rfl
theorem len_match {w : World} {A : Around} {E : Value → Shared → Prop} {s : Shared} {a : Addr} {items : Array Value} {Q : Value → Shared → Prop} (X : (K w.params).In s.heap) (ha : IsM s.heap a items) (hz : items.size < 1000) {z : Int} (hm : z = items.size)
    (h : ∀ t k, Q (.int z t) { s with toks := k }) : wpAny (model pw w) A (call (.builtin "len") [.ref a]) Q E s := by
  subst hm
  have sp : Looks (model pw w) s.heap (specialOf (.ref a) "__len__") (some (.builtin "tuple.__len__")) := ha.special X (by k_is)
  have ii := ha.inst X
  obtain ⟨da, la⟩ := ha
  refine Calls.call_function_entry kind_len plain_len entry_len (args_len1 _) ?_
  unfold Builtin.«len»
  refine wpAny_bind (m := oneArg "len" _) (wpAny_pure ?_)
  refine wpAny_bind (m := callSpecial? (.ref a) (Str.ofString "__len__")) ?_
  unfold callSpecial?
  refine wpAny_bind (sp.here ?_)
  dsimp only
  rw [slot_tuple_len.bind]
  refine wpAny_holding (wpAny_bind (wpAny_pure (wpAny_bind (wpAny_call (codeAny_call_builtin (by decide +kernel) entry_tuple_len (@check_slot (model pw w) _ _ _ "tuple.__len__" "tuple" "__len__" (.ref a) [] [] _ (by decide +kernel) (by decide +kernel) ii (args_tuple_len _) ?_))))))
  show wpAny _ _ (do retInt (← Builtin.Tuple.tupleItemsOf (.ref a)).size) _ _ s
  unfold Builtin.Tuple.tupleItemsOf
  refine wpAny_bind (wpAny_bind (wpAny_seqItems la rfl (wpAny_pure ?_)))
  refine wpAny_bind (wpAny_mkInt (wpAny_pure ?_))
  refine wpAny_pure ?_
  refine wpAny_bind (wpAny_holding (wpAny_pure ?_))
  refine wpAny_bind (wpAny_letGo ?_)
  show wpAny _ _ (if ((items.size : Nat) : Int) < 0 then _ else _) _ _ _
  rw [if_neg (by lia)]
  show wpAny _ _ (if ((items.size : Nat) : Int) ≥ 2 ^ 63 then _ else _) _ _ _
  rw [if_neg (by lia)]
  exact wpAny_bind (wpAny_mkInt (wpAny_pure ⟨_, rfl, h _ _⟩))
local macro_rules | `(tactic| walk_at $s:str) => stopAt "call builtin:tuple.__new__|call builtin:len|getMethod type" s
/-- Match._make -/
theorem make89 {w : World} {dp un : Nat} {fr : Option (List Env)} {gd : Option (List Code)} {s : Shared} {R : Result → Shared → Prop} {g : Heap} {mg mb : Str → Option Value} {va vb vk : Value} {t : Addr} {n : Nat}
    (hkp : ∀ b o, g.get? b = some o → s.heap.get? b = some o) (X : (K w.params).In g) (T : TopRead q (looseW q loose) mg mb g) (hd : dp < 1000)
    (ht : s.heap.get? t = some { cls := .type "tuple", data := .seq #[va, vb, vk] n })
    (h : ∀ h' tk x d, (∀ b o, s.heap.get? b = some o → h'.get? b = some o) → h'.get? x = some (mObj d #[va, vb, vk]) → s.heap.get? x = none → R (.ok (.ret (.ref x))) { s with heap := h', toks := tk }) :
    codeAny (model pw w) (AR dp un fr gd) (.call (.ref 89) ⟨[.ref 135, .ref t], []⟩) R s := by
  refine enterL [("cls", .ref 135), ("iterable", .ref t)] hkp X T (news := []) (fun _ hp => nomatch hp) (by k_is) (by k_is) hd (by first | exact BindsTo.of_eq rfl | exact binds_K (X.keeps hkp) rfl (by k_is) rfl rfl rfl) (locs rfl) ?_ (by decide) rfl rfl rfl
  clear X T
  intro g' L h₁ hin hof hno X T F N hlt
  conv in execs _ _ => arg 1; whnf
  conv in (occs := *) envX _ _ _ _ _ _ => all_goals (arg 2; whnf)
  k_steps
  refine Stop.intro ?_
  refine tuple_dot_new (X.keeps (Fr.keep (by k_asm))) ?_
  k_steps
  refine Stop.intro ?_
  rename Fr _ _ _ _ => F'
  refine wpAny_call (tuple_new135 (X.keeps F'.keep) (.inr rfl) (F'.keep _ _ (hin _ _ ht (by simp))) rfl rfl (by show (3 : Nat) ≤ 16777216; decide) fun h' hk => ?_)
  have F2 := F'.kept fun b o e => Heap.get?_push_of_some (mObj h'.objs.size #[va, vb, vk]) (Heap.get?_push_of_some emptyDict (hk b o e))
  have hL : L < h'.objs.size := by
    obtain ⟨oL, _, _, hL, _⟩ := F'.ns
    exact Heap.lt_size (hk _ _ hL)
  have hx : ((h'.push emptyDict).push (mObj h'.objs.size #[va, vb, vk])).get? (h'.objs.size + 1) = some (mObj h'.objs.size #[va, vb, vk]) := by heap_get
  have N2 : News g' L ((h'.push emptyDict).push (mObj h'.objs.size #[va, vb, vk])) [(h'.objs.size + 1, mObj h'.objs.size #[va, vb, vk])] := fun p hp => by
    rw [List.mem_singleton.mp hp]
    exact ⟨hx, Nat.ne_of_gt (Nat.lt_succ_of_lt hL), Heap.get?_none_of_le (Nat.le_trans F'.above (Nat.le_of_lt (Nat.lt_succ_of_lt hL)))⟩
  have hnx : s.heap.get? (h'.objs.size + 1) = none := by
    cases e : s.heap.get? (h'.objs.size + 1) with
    | none => rfl
    | some o => exact absurd (Heap.lt_size (hk _ _ (F'.keep _ _ (hin _ o e (by simp))))) (Nat.not_lt.mpr (Nat.le_succ _))
  clear F' hk
  generalize h'.objs.size + 1 = x at *
  generalize (h'.push emptyDict).push (mObj h'.objs.size #[va, vb, vk]) = h2 at *
  generalize h'.objs.size = dd at *
  dsimp only
  k_steps
  refine Stop.intro ?_
  rename Fr _ _ _ _ => F3
  rename News _ _ _ _ => N3
  refine len_match (X.keeps F3.keep) ⟨_, (N3 _ (.head _)).1⟩ (by show 3 < 1000; decide) (z := 3) rfl fun t k => ?_
  k_steps
  rename Fr _ _ _ _ => F4
  rename News _ _ _ _ => N4
  dsimp only
  exact h _ _ x dd (fun b o e => F4.keep _ _ (hin b o e (by simp))) (N4 _ (.head _)).1 hnx
end Mine
end
section
open PySem PySem.W PyProof.Rows PySem.Calls PySem.Spec
open AutoSeq1 (wpAny_loadPart')
set_option Elab.async false
set_option maxRecDepth 1000000
set_option maxHeartbeats 8000000
namespace Mine
namespace MapF
theorem mro : mroOf (.type "map") = pure [.type "map", .type "object"] := by rw [mroOf_type]; kernel_rfl
theorem lookup_new : typeLookup (.type "map") "__new__" = pure (some (.builtin "map.__new__")) := by rw [typeLookup_type, builtinLookup_eq_fast]; kernel_rfl
theorem slot_init : Slot "map" "__init__" "object.__init__" :=
  .of (T := "map") (name := "__init__") (owner := "object") (n := "__init__") (by rw [typeLookup_type, builtinLookup_eq_fast]; kernel_rfl) (by decide +kernel) (by decide +kernel) (by decide +kernel)
    (.inl (by decide +kernel)) (by rw [isSubtype_type]; kernel_rfl)
theorem called : TypeCalled "map" "map.__new__" "object.__init__" :=
  ⟨by decide +kernel, by decide +kernel, ⟨_, _, mro⟩, madeBy_type mro lookup_new (by decide +kernel), by decide +kernel, by rw [isSubtype_type]; kernel_rfl, slot_init⟩
theorem typeCall_2 (a b : Value) : checkTypeCall "map" ⟨[a, b], []⟩ = pure () := by kernel_rfl
theorem newCall_2 (a b : Value) : checkBuiltinCall "map.__new__" ⟨[.type "map", a, b], []⟩ = pure () := by kernel_rfl
theorem entry_new : entryFor table "map.__new__" = some Builtin.«map.__new__» := entryFor_of_tree (by kernel_rfl)
theorem oi_args (a b c : Value) : argsOk "object.__init__" ⟨[a, b, c], []⟩ := by unfold argsOk; kernel_rfl
theorem sub_map : isSubtype (.type "map") (.type "map") = pure true := by rw [isSubtype_type]; kernel_rfl
theorem slot_next : Slot "map" "__next__" "map.__next__" :=
  .of (T := "map") (name := "__next__") (owner := "map") (n := "__next__") (by rw [typeLookup_type, builtinLookup_eq_fast]; kernel_rfl) (by decide +kernel) (by decide +kernel) (by decide +kernel)
    (by first | exact .inl (by decide +kernel) | exact .inr (by decide +kernel)) (by rw [isSubtype_type]; kernel_rfl)
theorem slot_iter : Slot "map" "__iter__" "map.__iter__" :=
  .of (T := "map") (name := "__iter__") (owner := "map") (n := "__iter__") (by rw [typeLookup_type, builtinLookup_eq_fast]; kernel_rfl) (by decide +kernel) (by decide +kernel) (by decide +kernel)
    (by first | exact .inl (by decide +kernel) | exact .inr (by decide +kernel)) (by rw [isSubtype_type]; kernel_rfl)
theorem entry_iter : entryFor table "map.__iter__" = some Builtin.«dict_keyiterator.__iter__» :=
  entryFor_alias (id' := "dict_keyiterator.__iter__") (by kernel_rfl) (by first | rfl | decide +kernel | (unfold String.splitOn; simp +decide [String.splitOnAux])) (by decide +kernel) (by kernel_rfl)
theorem args_iter (a : Value) : argsOk "map.__iter__" ⟨[a], []⟩ := by unfold argsOk; kernel_rfl
theorem entry_next : entryFor table "map.__next__" = some Builtin.«map.__next__» := entryFor_of_tree (by kernel_rfl)
theorem args_next (a : Value) : argsOk "map.__next__" ⟨[a], []⟩ := by unfold argsOk; kernel_rfl
theorem no_len : typeLookup (.type "map") "__len__" = pure none := by rw [typeLookup_type, builtinLookup_eq_fast]; kernel_rfl
theorem no_hint : typeLookup (.type "map") "__length_hint__" = pure none := by rw [typeLookup_type, builtinLookup_eq_fast]; kernel_rfl
end MapF
noncomputable abbrev litObj (l : Addr) (i : Nat) : Obj := { cls := .type "list_iterator", data := .fields #[.ref l, .int i 0] }
noncomputable abbrev mapObj (t : Addr) (f : Value) : Obj := { cls := .type "map", data := .fields #[.ref t, f] }
theorem meets_map_new (f : Value) (l : Addr) (items : Array Value) (n : Nat) (dct : Option Addr) (sl : Array (Option Value)) :
    Meets (Builtin.«map.__new__» ⟨[.type "map", f, .ref l], []⟩) (fun _ R s => s.heap.get? l = some { cls := .type "list", dict := dct, data := .seq items n, slots := sl } ∧
      R (.ok (.ret (.ref ((s.heap.push (litObj l 0)).push { cls := .type "tuple", data := .seq #[.ref s.heap.objs.size] }).objs.size)))
        { s with heap := ((s.heap.push (litObj l 0)).push { cls := .type "tuple", data := .seq #[.ref s.heap.objs.size] }).push (mapObj (s.heap.push (litObj l 0)).objs.size f) }) :=
  .of_wp fun prog w A R s h => by
    obtain ⟨hp, g, d, tk, os⟩ := s; obtain ⟨hl, h⟩ := h
    have hsub := MapF.sub_map
    have hL : Heap.IsList (Shared.heap ⟨hp, g, d, tk, os⟩) l items := ⟨_, hl, rfl, n, rfl⟩
    unfold Builtin.«map.__new__»
    wp_walk using wpAny_loadPart' hl, wpAny_pyIter_list hL
    exact ⟨_, rfl, h⟩
section
variable {w : World} {A : Around} {E : Value → Shared → Prop} {s : Shared}
theorem call_map {f : Value} {l : Addr} {items : Array Value} {Q : Value → Shared → Prop} (hL : s.heap.IsList l items)
    (h : ∀ h' I t it, (∀ b o, s.heap.get? b = some o → h'.get? b = some o) → h'.get? I = some (mapObj t f) → h'.get? t = some { cls := .type "tuple", data := .seq #[.ref it] } → h'.get? it = some (litObj l 0) → s.heap.objs.size ≤ it → it < t → t < I → Q (.ref I) { s with heap := h' }) :
    wpAny (model pw w) A (call (.type "map") [f, .ref l]) Q E s := by
  obtain ⟨⟨c, dct, dt, sl⟩, hl, hc, n, hd⟩ := hL
  replace hc : c = .type "list" := hc
  replace hd : dt = .seq items n := hd
  subst hc hd
  refine callType_new MapF.called (by decide) (MapF.typeCall_2 _ _) (MapF.newCall_2 _ _) (fun obj => MapF.oi_args obj _ _) MapF.entry_new (meets_map_new f l items n dct sl) ⟨hl, ?_⟩
  show _ ∧ _
  refine ⟨⟨_, Heap.get?_push_size _ rfl, rfl⟩, ?_⟩
  refine h _ _ (s.heap.push (litObj l 0)).objs.size s.heap.objs.size (fun b o e => Heap.get?_push_of_some _ (Heap.get?_push_of_some _ (Heap.get?_push_of_some _ e))) (Heap.get?_push_size _ rfl) (Heap.get?_push_of_some _ (Heap.get?_push_size _ rfl)) (Heap.get?_push_of_some _ (Heap.get?_push_of_some _ (Heap.get?_push_size _ rfl))) (Nat.le_refl _) ?_ ?_
  · rw [Heap.size_push]; exact Nat.lt_succ_self _
  · rw [Heap.size_push (s.heap.push (litObj l 0))]; exact Nat.lt_succ_self _
theorem map_next {I t it l : Addr} {f : Value} {items : Array Value} {i : Nat} {v : Value} {Q : Option Value → Shared → Prop} (hI : s.heap.get? I = some (mapObj t f)) (ht : s.heap.get? t = some { cls := .type "tuple", data := .seq #[.ref it] }) (hit : s.heap.IsListIter it l i) (hl : s.heap.IsList l items)
    (hne : it ≠ I ∧ it ≠ t) (hx : items[i]? = some v) (h : ∀ h', Heap.SameBut it s.heap h' → h'.IsListIter it l (i + 1) → wpAny (model pw w) A.in1 (call f [v]) (fun r s' => Q (some r) s') (fun _ _ => False) { s with heap := h' }) :
    wpAny (model pw w) A (pyNext (.ref I)) Q E s := by
  unfold pyNext
  refine wpAny_bind (wpAny_attempt (wpAny_callSpecial?_slot (name := Str.ofString "__next__") (T := "map") ⟨_, hI, rfl⟩ MapF.slot_next (wpAny_call_entry MapF.slot_next ⟨_, hI, rfl⟩ MapF.entry_next ?_ (MapF.args_next _))))
  unfold Builtin.«map.__next__»
  have key : ∀ h', Heap.SameBut it s.heap h' → h'.get? I = some (mapObj t f) := fun h' hs => by rw [hs.2 _ (Ne.symm hne.1)]; exact hI
  refine wpAny_bind (m := slotArgs _ _ _) (wpAny_pure ?_)
  refine wpAny_bind (wpAny_field hI rfl (x := .ref t) rfl ?_)
  refine wpAny_bind (wpAny_seqItems ht rfl ?_)
  dsimp only
  refine wpAny_bind ?_
  rw [← Array.forIn_toList, List.forIn_cons]
  refine wpAny_bind (wpAny_bind (wpAny_holding (wpAny_nextOf_list_item hit hl hx fun h' hit' hs' => wpAny_pure ?_)))
  dsimp only
  rw [List.forIn_nil]
  refine wpAny_pure ?_
  refine wpAny_bind (wpAny_field (key h' hs') rfl (x := f) rfl ?_)
  refine wpAny_bind (wpAny_holding (wpAny_mono (h h' hs' hit') (fun r s' hq => ?_) fun _ _ x => x.elim))
  refine wpAny_bind (wpAny_letGo (wpAny_pure ?_))
  exact ⟨_, rfl, wpAny_pure hq⟩
theorem map_end {I t it l : Addr} {f : Value} {items : Array Value} {i : Nat} {Q : Option Value → Shared → Prop} (hh : A.handled = none) (hI : s.heap.get? I = some (mapObj t f)) (ht : s.heap.get? t = some { cls := .type "tuple", data := .seq #[.ref it] }) (hit : s.heap.IsListIter it l i) (hl : s.heap.IsList l items)
    (hx : items[i]? = none) (h : ∀ h', Heap.ExtBut it s.heap h' → Q none { s with heap := h' }) :
    wpAny (model pw w) A (pyNext (.ref I)) Q E s := by
  unfold pyNext
  refine wpAny_bind (wpAny_attempt (wpAny_callSpecial?_slot (name := Str.ofString "__next__") (T := "map") ⟨_, hI, rfl⟩ MapF.slot_next (wpAny_call_entry MapF.slot_next ⟨_, hI, rfl⟩ MapF.entry_next ?_ (MapF.args_next _))))
  unfold Builtin.«map.__next__»
  refine wpAny_bind (m := slotArgs _ _ _) (wpAny_pure ?_)
  refine wpAny_bind (wpAny_field hI rfl (x := .ref t) rfl ?_)
  refine wpAny_bind (wpAny_seqItems ht rfl ?_)
  dsimp only
  refine wpAny_bind ?_
  rw [← Array.forIn_toList, List.forIn_cons]
  refine wpAny_bind (wpAny_bind (wpAny_holding (wpAny_nextOf_list_end hh hit hl hx fun h' x he' hx' => ?_)))
  obtain ⟨o, ho, hc⟩ := hx'
  refine wpAny_bind (wpAny_isInstance (T := "StopIteration") (b := true) ⟨o, ho, hc⟩ isSubtype_stop ?_)
  exact wpAny_pure (h _ he')
theorem iter_map {I t : Addr} {f : Value} {Q : Value → Shared → Prop} (hI : s.heap.get? I = some (mapObj t f)) (h : Q (.ref I) s) : wpAny (model pw w) A (pyIter (.ref I)) Q E s := by
  have hT : s.TypeIs (.ref I) "map" := ⟨_, hI, rfl⟩
  refine wpAny_pyIter_slot hT MapF.slot_iter (wpAny_call_entry MapF.slot_iter hT MapF.entry_iter ?_ (MapF.args_iter _))
  exact wpAny_pure ⟨_, rfl, "map", _, hT, MapF.slot_next.lookup, h⟩
end
end Mine
end
section
open PySem PySem.W PyProof.Rows PySem.Calls PySem.Spec
set_option Elab.async false
set_option maxRecDepth 1000000
set_option maxHeartbeats 8000000
namespace Mine
section
variable {w : World} {A : Around} {E : Value → Shared → Prop} {s : Shared} {R : Result → Shared → Prop}
/-- an iterator that is drawn into the list S; J speaks of the heap and of what has been drawn -/
structure Fills (w : World) (A : Around) (S I : Addr) (n : Nat) (J : Nat → Array Value → Shared → Prop) (D : Array Value → Shared → Prop) : Prop where
  frame : ∀ i acc (s : Shared) h', J i acc s → (∀ b o, b ≠ S → s.heap.get? b = some o → h'.get? b = some o) → J i acc { s with heap := h' }
  item : ∀ i acc (s : Shared) o (Q : Option Value → Shared → Prop) (E : Value → Shared → Prop), i < n → J i acc s → s.heap.get? S = some o → (∀ v s', J (i + 1) (acc.push v) s' → s'.heap.get? S = some o → Q (some v) s') → wpAny (model pw w) A (pyNext (.ref I)) Q E s
  done : ∀ acc (s : Shared) o (Q : Option Value → Shared → Prop) (E : Value → Shared → Prop), J n acc s → s.heap.get? S = some o → (∀ s', D acc s' → s'.heap.get? S = some o → Q none s') → wpAny (model pw w) A (pyNext (.ref I)) Q E s
  self : ∀ i acc (s : Shared) (Q : Value → Shared → Prop) (E : Value → Shared → Prop), J i acc s → Q (.ref I) s → wpAny (model pw w) A (pyIter (.ref I)) Q E s
noncomputable abbrev lstO (acc : Array Value) (c : Nat) : Obj := { cls := .type "list", dict := none, data := .seq acc c, slots := #[] }
theorem ext_loop {S I : Addr} {n : Nat} {J : Nat → Array Value → Shared → Prop} {D : Array Value → Shared → Prop} (W : Fills w A.in1 S I n J D) (hn : n ≤ sizeLine) (res : Value) :
    ∀ (k i : Nat) (s : Shared) (acc : Array Value) (c : Nat), n - i = k → i ≤ n → acc.size = i → J i acc s → s.heap.get? S = some (lstO acc c) →
    (∀ s' acc' c', D acc' s' → s'.heap.get? S = some (lstO acc' c') → acc'.size = n → R (.ok (.ret res)) s') →
    codeAny (model pw w) A (.builtin "list.extend.loop" ⟨[.ref S, .ref I, res], []⟩) R s := by
  intro k
  induction k with
  | zero =>
    intro i s acc c hk hi hsz hst hS hR
    have hin : i = n := by lia
    subst hin
    refine codeAny_builtin F.entry_extend_loop ?_
    rw [Around.under_plainId F.plain_extend_loop _]
    show wpAny _ A.in1 (pyNext (.ref I) >>= _) _ _ s
    refine wpAny_bind (W.done acc s _ _ _ hst hS fun s' hj hS' => ?_)
    exact wpAny_pure (hR s' acc c hj hS' hsz)
  | succ k ih =>
    intro i s acc c hk hi hsz hst hS hR
    have hlt : i < n := by lia
    refine codeAny_builtin F.entry_extend_loop ?_
    rw [Around.under_plainId F.plain_extend_loop _]
    show wpAny _ A.in1 (pyNext (.ref I) >>= _) _ _ s
    refine wpAny_bind (W.item i acc s _ _ _ hlt hst hS fun v s' hst' hS' => ?_)
    show wpAny _ A.in1 (updateSeq S (·.push v) >>= _) _ _ _
    refine wpAny_bind ?_
    refine wpAny_updateSeq hS' rfl (wpAny_pure ⟨plainId_quiet F.plain_extend_loop _, ih (i + 1) _ (acc.push v) _ (by lia) hlt (by rw [Array.size_push, hsz]) (W.frame _ _ s' _ hst' fun b o hb e => ?_) (Heap.get?_update_self _ hS' rfl) hR⟩)
      (by rw [hsz]; lia) (by show (acc.push v).size ≤ sizeLine + 1; rw [Array.size_push, hsz]; lia)
    exact (Heap.get?_update_other _ _ (Ne.symm hb)).trans e
theorem ext_map {S I t : Addr} {f : Value} {n : Nat} {J : Nat → Array Value → Shared → Prop} {D : Array Value → Shared → Prop} (W : Fills w A.in1 S I n J D) (hn : n ≤ sizeLine) (hSI : S ≠ I) (hI : s.heap.get? I = some (mapObj t f)) (res : Value) (c₀ : Nat) (hst : J 0 #[] s)
    (hS : s.heap.get? S = some (lstO #[] c₀)) (hR : ∀ s' acc' c', D acc' s' → s'.heap.get? S = some (lstO acc' c') → acc'.size = n → R (.ok (.ret res)) s') :
    wpAny (model pw w) A.in1 (Builtin.List.listExtendWith (.ref S) (.ref I) res)
      (fun fin s' => match fin with | .done f => R (.ok f) s' | .again c' => c'.quiet = true ∧ codeAny (model pw w) A c' R s') (fun e s' => R (.error e) s') s := by
  have hT : s.TypeIs (.ref I) "map" := ⟨_, hI, rfl⟩
  unfold Builtin.List.listExtendWith
  refine wpAny_bind (wpAny_typeOf hT ?_)
  have h1 : Builtin.List.listSameRef (.ref S) (.ref I) = false := by simp [Builtin.List.listSameRef, hSI]
  have h2 : (Value.type "map" == Value.type "list") = false := by decide
  have h3 : (Value.type "map" == Value.type "tuple") = false := by decide
  simp only [h1, h2, h3, Bool.or_false, Bool.false_eq_true, if_false]
  refine wpAny_bind (W.self 0 _ _ _ _ hst ?_)
  refine wpAny_bind (wpAny_holding ?_)
  unfold Builtin.List.listLengthHint
  refine wpAny_bind (wpAny_specialOf hT MapF.no_len ?_)
  show wpAny _ A.in1 (specialOf (Value.ref I) (Str.ofString "__length_hint__") >>= _) _ _ _
  refine wpAny_bind (wpAny_specialOf hT MapF.no_hint ?_)
  refine wpAny_pure ?_
  show wpAny _ A.in1 (rule "list.extend.makes-room" >>= fun _ => Builtin.List.listTouch (.ref S) >>= fun _ =>
    again (.builtin "list.extend.loop" ⟨[.ref S, .ref I, res], []⟩)) _ _ _
  refine wpAny_bind (wpAny_rule ?_)
  refine wpAny_bind ?_
  show wpAny _ A.in1 (updateSeq S (·.push .none) >>= fun _ => updateSeq S (·.pop)) _ _ _
  refine wpAny_bind (wpAny_updateSeq hS rfl ?_)
  have hS₂ := Heap.get?_update_self (Obj.mapSeq (·.push Value.none)) hS rfl
  refine wpAny_updateSeq (hz := by seq_fits) hS₂ rfl ?_
  have hS₃ := Heap.get?_update_self (Obj.mapSeq (·.pop)) hS₂ rfl
  have oth : ∀ b o, b ≠ S → s.heap.get? b = some o → ((s.heap.update S (Obj.mapSeq (·.push Value.none))).update S (Obj.mapSeq (·.pop))).get? b = some o :=
    fun b o hb e => (Heap.get?_update_other _ _ (Ne.symm hb)).trans ((Heap.get?_update_other _ _ (Ne.symm hb)).trans e)
  exact wpAny_pure ⟨plainId_quiet F.plain_extend_loop _, ext_loop W hn _ n 0 _ _ _ rfl (Nat.zero_le _) rfl (W.frame 0 _ s _ hst oth) hS₃ hR⟩
theorem init_map {S I t : Addr} {f : Value} {n : Nat} {J : Nat → Array Value → Shared → Prop} {D : Array Value → Shared → Prop} (W : Fills w A.in1 S I n J D) (hn : n ≤ sizeLine) (hSI : S ≠ I) (hI : s.heap.get? I = some (mapObj t f)) (hst : J 0 #[] s)
    (hS : s.heap.get? S = some { cls := .type "list", data := .seq #[] }) (hR : ∀ s' acc' c', D acc' s' → s'.heap.get? S = some (lstO acc' c') → acc'.size = n → R (.ok (.ret .none)) s') :
    wpAny (model pw w) A.in1 (Builtin.«list.__init__» ⟨[.ref S, .ref I], []⟩)
      (fun fin s' => match fin with | .done f => R (.ok f) s' | .again c' => c'.quiet = true ∧ codeAny (model pw w) A c' R s') (fun e s' => R (.error e) s') s := by
  show wpAny _ A.in1 (do let old ← Builtin.List.listItems (.ref S); Builtin.List.listUpdate (.ref S) (fun _ => #[]); letGo old.toList.reverse; Builtin.List.listExtendWith (.ref S) (.ref I) .none) _ _ s
  refine wpAny_bind ?_
  unfold Builtin.List.listItems
  refine wpAny_bind (wpAny_seqItems hS rfl (wpAny_pure ?_))
  show wpAny _ A.in1 (updateSeq S (fun _ => #[]) >>= fun _ => letGo (#[] : Array Value).toList.reverse >>= fun _ => Builtin.List.listExtendWith (.ref S) (.ref I) .none) _ _ s
  refine wpAny_bind (wpAny_updateSeq hS rfl ?_)
  have hS₂ := Heap.get?_update_self (Obj.mapSeq (fun _ => (#[] : Array Value))) hS rfl
  have oth : ∀ b o, b ≠ S → s.heap.get? b = some o → (s.heap.update S (Obj.mapSeq (fun _ => (#[] : Array Value)))).get? b = some o :=
    fun b o hb e => (Heap.get?_update_other _ _ (Ne.symm hb)).trans e
  refine wpAny_bind (wpAny_letGo ?_)
  exact ext_map W hn hSI (oth I _ (Ne.symm hSI) hI) .none _ (W.frame 0 _ s _ hst oth) hS₂ hR
theorem list_map {I t : Addr} {f : Value} {n : Nat} {J : Nat → Array Value → Shared → Prop} {D : Array Value → Shared → Prop} {Q : Value → Shared → Prop} (W : Fills w A.in1.in1 s.heap.objs.size I n J D) (hn : n ≤ sizeLine) (hI : s.heap.get? I = some (mapObj t f))
    (hst : J 0 #[] { s with heap := s.heap.push { cls := .type "list", data := .seq #[] } })
    (hQ : ∀ s' acc' c', D acc' s' → s'.heap.get? s.heap.objs.size = some (lstO acc' c') → acc'.size = n → Q (.ref s.heap.objs.size) s') :
    wpAny (model pw w) A (call (.type "list") [.ref I]) Q E s := by
  refine callType_codes (Q₁ := fun obj s₁ => obj = .ref s.heap.objs.size ∧ s₁ = { s with heap := s.heap.push { cls := .type "list", data := .seq #[] } }) F.called_list (F.typeCall_list_1 _) F.entry_list_init
    (code_list_new _ ⟨rfl, rfl⟩) fun obj s₁ h₁ => ?_
  obtain ⟨rfl, rfl⟩ := h₁
  have hS : (s.heap.push { cls := .type "list", data := .seq #[] }).get? s.heap.objs.size = some { cls := .type "list", data := .seq #[] } := Heap.get?_push_size _ rfl
  refine ⟨⟨_, hS, rfl⟩, F.args_list_init_2 _ _, init_map W hn (Nat.ne_of_gt (Heap.lt_size hI)) (Heap.get?_push_of_some _ hI) hst hS fun s' acc' c' hj hS' hz => ⟨rfl, hQ s' acc' c' hj hS' hz⟩⟩
end
end Mine
end
section
open PySem PySem.W PyProof.Rows PySem.Calls PySem.Spec
set_option Elab.async false
set_option maxRecDepth 1000000
set_option maxHeartbeats 8000000
namespace Mine
theorem regKP3 (P : Params) : K P = [] ∨ PySem.Challenge.rw_kl0396_01.name = PySem.Challenge.rw_kl0396_01.name := by
  k_fill
  exact .inr rfl
theorem get_make135 {w : World} {A : Around} {E : Value → Shared → Prop} {s : Shared} {Q : Value → Shared → Prop} {ex : Bool} (X : (K w.params).In s.heap)
    (h : Q (.ref s.heap.objs.size) { s with heap := s.heap.push (methodObj (.ref 89) (.ref 135)), toks := s.toks + 1 }) : wpAny (model pw w) A (getAttr (.ref 135) "_make" ex) Q E s := by
  refine cls_bind X (mc := .type "type") (g := .builtin "classmethod.__get__") (a := .ref 91) (obj := .none) (tp := .ref 135) (by k_is) (by k_is) (wpAny_call ?_)
  refine cm_get X (f := .ref 89) (by k_is) ?_
  exact handed_on (by rfl) h
/-- the Matches so far -/
noncomputable def Mades (h : Heap) (S : Addr) (trip : Nat → Array Value) (acc : Array Value) : Prop := ∀ j, j < acc.size → ∃ a, acc[j]? = some (.ref a) ∧ a ≠ S ∧ IsM h a (trip j)
/-- list(map(Match._make, l)) -/
theorem list_make {w : World} {dp un : Nat} {fr : Option (List Env)} {gd : Option (List Code)} {E : Value → Shared → Prop} {s : Shared} {g : Heap} {mg mb : Str → Option Value} {I t it l meth : Addr} {items : Array Value} {trip : Nat → Array Value} {Q : Value → Shared → Prop}
    (hkp : ∀ b o, g.get? b = some o → s.heap.get? b = some o) (hgt : g.get? it = none) (X : (K w.params).In g) (T : TopRead q (looseW q loose) mg mb g) (hd : dp < 900)
    (hI : s.heap.get? I = some (mapObj t (.ref meth))) (ht : s.heap.get? t = some { cls := .type "tuple", data := .seq #[.ref it] }) (hit : s.heap.IsListIter it l 0) (hm : s.heap.get? meth = some (methodObj (.ref 89) (.ref 135)))
    (hl : s.heap.IsList l items) (hne : it ≠ I ∧ it ≠ t ∧ it ≠ l ∧ it ≠ meth) (hz : items.size < 1000)
    (hitems : ∀ i v, items[i]? = some v → ∃ a n va vb vk, v = .ref a ∧ a ≠ it ∧ s.heap.get? a = some { cls := .type "tuple", data := .seq #[va, vb, vk] n } ∧ trip i = #[va, vb, vk])
    (hQ : ∀ h' tk S acc c, (∀ b o, b ≠ it → s.heap.get? b = some o → h'.get? b = some o) → s.heap.get? S = none → h'.get? S = some (lstO acc c) → acc.size = items.size → Mades h' S trip acc → Q (.ref S) { s with heap := h', toks := tk }) :
    wpAny (model pw w) (AR dp un fr gd) (call (.type "list") [.ref I]) Q E s := by
  have hS0 : ∀ b o, s.heap.get? b = some o → b ≠ s.heap.objs.size := fun b o e => Nat.ne_of_lt (Heap.lt_size e)
  refine list_map (n := items.size)
    (J := fun i acc s' => acc.size = i ∧ ∃ h' tk, s' = { s with heap := h', toks := tk } ∧ (∀ b o, b ≠ it → s.heap.get? b = some o → h'.get? b = some o) ∧ h'.IsListIter it l i ∧ Mades h' s.heap.objs.size trip acc)
    (D := fun acc s' => ∃ h' tk, s' = { s with heap := h', toks := tk } ∧ (∀ b o, b ≠ it → s.heap.get? b = some o → h'.get? b = some o) ∧ Mades h' s.heap.objs.size trip acc)
    ⟨?frame, ?item, ?done, ?self⟩ (by have : sizeLine = 16777216 := rfl; lia) hI ⟨rfl, _, s.toks, rfl, fun b o _ e => Heap.get?_push_of_some _ e, ?st, fun j hj => absurd hj (Nat.not_lt_zero j)⟩ fun s' acc' c' hD hS hsz => ?fin
  case st => obtain ⟨o, ho, r⟩ := hit; exact ⟨o, Heap.get?_push_of_some _ ho, r⟩
  case fin =>
    obtain ⟨h', tk, rfl, hk, hmd⟩ := hD
    exact hQ h' tk _ acc' c' hk (Heap.get?_none_of_le (Nat.le_refl _)) hS hsz hmd
  case frame =>
    rintro i acc s' h' ⟨hsz, h1, tk, rfl, hk, hi, hmd⟩ hh
    refine ⟨hsz, h', tk, rfl, fun b o hb e => hh b o (hS0 b o e) (hk b o hb e), ?_, fun j hj => ?_⟩
    · obtain ⟨o, ho, r⟩ := hi
      obtain ⟨o0, ho0, _⟩ := hit
      exact ⟨o, hh _ _ (hS0 _ _ ho0) ho, r⟩
    · obtain ⟨a, e1, e2, d, e3⟩ := hmd j hj
      exact ⟨a, e1, e2, d, hh _ _ e2 e3⟩
  case self =>
    rintro i acc s' Q' E' ⟨hsz, h1, tk, rfl, hk, hi, hmd⟩ hq
    exact iter_map (hk _ _ (Ne.symm hne.1) hI) hq
  case done =>
    rintro acc s' o Q' E' ⟨hsz, h1, tk, rfl, hk, hi, hmd⟩ hS hq
    have hl' : h1.IsList l items := by obtain ⟨ol, ho, r⟩ := hl; exact ⟨ol, hk _ _ (Ne.symm hne.2.2.1) ho, r⟩
    refine map_end rfl (hk _ _ (Ne.symm hne.1) hI) (hk _ _ (Ne.symm hne.2.1) ht) hi hl' (by simp) fun h' he => ?_
    obtain ⟨o0, ho0, _⟩ := hit
    refine hq _ ⟨h', tk, rfl, fun b o hb e => he b o hb (hk b o hb e), fun j hj => ?_⟩ (he _ _ (Ne.symm (hS0 _ _ ho0)) hS)
    obtain ⟨a, e1, e2, d, e3⟩ := hmd j hj
    refine ⟨a, e1, e2, d, he _ _ ?_ e3⟩
    rintro rfl
    obtain ⟨o1, ho1, hc1, _⟩ := hi
    rw [e3] at ho1; cases ho1; cases hc1
  case item =>
    rintro i acc s' o Q' E' hlt ⟨hsz, h1, tk, rfl, hk, hi, hmd⟩ hS hq
    have hl' : h1.IsList l items := by obtain ⟨ol, ho, r⟩ := hl; exact ⟨ol, hk _ _ (Ne.symm hne.2.2.1) ho, r⟩
    obtain ⟨a, n, va, vb, vk, hv, hai, hat, htr⟩ := hitems i items[i] (by simp [hlt])
    have hit0 := hit
    obtain ⟨o0, ho0, _⟩ := hit0
    refine map_next (hk _ _ (Ne.symm hne.1) hI) (hk _ _ (Ne.symm hne.2.1) ht) hi hl' ⟨hne.1, hne.2.1⟩ (v := items[i]) (by simp [hlt]) fun h' hs hi' => ?_
    rw [hv]
    have kk : ∀ b o, b ≠ it → s.heap.get? b = some o → h'.get? b = some o := fun b o hb e => (hs.2 b hb).trans (hk b o hb e)
    refine wpAny_call (method_call (kk _ _ (Ne.symm hne.2.2.2) hm) ?_)
    show codeAny _ (AR _ _ _ _) _ _ _
    refine make89 (fun b o e => kk b o (fun hb => by rw [hb, hgt] at e; cases e) (hkp b o e)) X T (by show dp < 1000; lia) (kk _ _ hai hat) fun h2 tk2 x d hk2 hx hn2 => ?_
    have hxS : x ≠ s.heap.objs.size := by
      rintro rfl
      have := (hs.2 _ (Ne.symm (hS0 _ _ ho0))).trans hS
      rw [this] at hn2; cases hn2
    refine hq _ _ ⟨by rw [Array.size_push, hsz], h2, tk2, rfl, fun b o hb e => hk2 _ _ (kk b o hb e), ?_, fun j hj => ?_⟩ (hk2 _ _ ((hs.2 _ (Ne.symm (hS0 _ _ ho0))).trans hS))
    · obtain ⟨o2, e2, r2⟩ := hi'; exact ⟨o2, hk2 _ _ e2, r2⟩
    · rw [Array.size_push] at hj
      by_cases hji : j < acc.size
      · obtain ⟨a', e1, e2, d', e3⟩ := hmd j hji
        refine ⟨a', by rw [Array.getElem?_push_lt hji]; rw [Array.getElem?_eq_getElem hji] at e1; exact e1, e2, d', hk2 _ _ ((hs.2 _ ?_).trans e3)⟩
        rintro rfl
        obtain ⟨o1, ho1, hc1, _⟩ := hi
        rw [e3] at ho1; cases ho1; cases hc1
      · have : j = acc.size := by lia
        subst this
        refine ⟨x, by simp, hxS, d, ?_⟩
        rw [hsz, htr]; exact hx
end Mine
end
section
open PySem PySem.W PyProof.Rows PySem.Calls PySem.Spec
set_option Elab.async false
set_option maxRecDepth 1000000
set_option maxHeartbeats 8000000
namespace Mine
theorem regGT (P : Params) : K P = [] ∨ PySem.Challenge.rw_kl0396_01.name = PySem.Challenge.rw_kl0396_01.name := by
  k_fill
  exact .inr rfl
local macro_rules | `(tactic| walk_at $s:str) => stopAt "call ref" s
local macro_rules | `(tactic| walk_at $s:str) => stopAt "call builtin:list.pop|assign Tuple ref|unpackItems ref" s
noncomputable abbrev tupO (vs : Array Value) : Obj := { cls := .type "tuple", data := .seq vs }
inductive IsQ (rest : List (Addr × Obj)) (v : Value) (p : Piece) : Prop
  | mk (a : Addr) (t1 t2 t3 t4 : Tok) (e : v = .ref a) (hm : (a, tupO #[.int p.1 t1, .int p.2.1 t2, .int p.2.2.1 t3, .int p.2.2.2 t4]) ∈ rest)
noncomputable def QV (rest : List (Addr × Obj)) : List Value → List Piece → Prop := All2 (IsQ rest)
inductive IsB (rest : List (Addr × Obj)) (v : Value) (p : Blk) : Prop
  | mk (a d : Addr) (t1 t2 t3 : Tok) (e : v = .ref a) (hm : (a, mObj d #[.int p.1 t1, .int p.2.1 t2, .int p.2.2 t3]) ∈ rest)
noncomputable def BV (rest : List (Addr × Obj)) : List Value → List Blk → Prop := All2 (IsB rest)
/-- what a turn of the while loop makes of the queue and the blocks -/
inductive GtCase (nw : List (Addr × Obj)) (p : Piece) (i j k : Nat) (bv bv' qv qv' : List Value) : Prop
  | no (h : k = 0) (eb : bv' = bv) (eq : qv' = qv)
  | yes (h : 0 < k) (vb : Value) (vs : List Value) (eb : bv' = bv ++ [vb]) (hb : BV nw [vb] [(i, j, k)]) (eq : qv' = qv ++ vs) (hq : QV nw vs ((if p.1 < i ∧ p.2.2.1 < j then [(p.1, i, p.2.2.1, j)] else []) ++ (if i + k < p.2.1 ∧ j + k < p.2.2.2 then [(i + k, p.2.1, j + k, p.2.2.2)] else [])))
noncomputable abbrev gmbSt (i : Nat) : Stmt := sub (sub (top 5) 7) i
noncomputable abbrev gmbEnv (L : Addr) : Env := envX "SequenceMatcher.get_matching_blocks" (scopeAt (sub (top 5) 7)) L 203 (.ref 202) []
theorem shift1 {g : Heap} {L : Addr} {h : Heap} {a B Q x y : Addr × Obj} {l : List (Addr × Obj)} (N : News g L h (a :: B :: Q :: x :: y :: l)) : News g L h (B :: Q :: x :: y :: ([a] ++ l)) := fun r hr => N r (by simp only [List.cons_append, List.nil_append, List.mem_cons] at hr ⊢; rcases hr with h | h | h | h | h | h <;> (repeat first | exact h | exact .inl h | exact .inl (.inl h) | exact .inl (.inr h) | refine .inr ?_))
theorem shift2 {g : Heap} {L : Addr} {h : Heap} {a b B Q x y : Addr × Obj} {l : List (Addr × Obj)} (N : News g L h (a :: b :: B :: Q :: x :: y :: l)) : News g L h (B :: Q :: x :: y :: ([a, b] ++ l)) := fun r hr => N r (by simp only [List.cons_append, List.nil_append, List.mem_cons] at hr ⊢; rcases hr with h | h | h | h | h | h | h <;> (repeat first | exact h | exact .inl h | exact .inl (.inl h) | exact .inl (.inr h) | refine .inr ?_))
theorem shift3 {g : Heap} {L : Addr} {h : Heap} {a b c B Q x y : Addr × Obj} {l : List (Addr × Obj)} (N : News g L h (a :: b :: c :: B :: Q :: x :: y :: l)) : News g L h (B :: Q :: x :: y :: ([a, b, c] ++ l)) := fun r hr => N r (by simp only [List.cons_append, List.nil_append, List.mem_cons] at hr ⊢; rcases hr with h | h | h | h | h | h | h | h <;> (repeat first | exact h | exact .inl h | exact .inl (.inl h) | exact .inl (.inr h) | refine .inr ?_))
theorem gmb_off {y : Str} {v1 v2 v3 v4 v5 v6 v7 v8 r : Option Value} (hy : y ∉ ["alo", "ahi", "blo", "bhi", "i", "j", "k", "x"].map Str.ofString) :
    (if y = Str.ofString "x" then v1 else if y = Str.ofString "k" then v2 else if y = Str.ofString "j" then v3 else if y = Str.ofString "i" then v4 else if y = Str.ofString "bhi" then v5 else if y = Str.ofString "blo" then v6 else if y = Str.ofString "ahi" then v7 else if y = Str.ofString "alo" then v8 else r) = r := by
  simp only [List.map_cons, List.map_nil, List.mem_cons, List.not_mem_nil, or_false, not_or] at hy
  simp only [hy, if_false]
theorem two_off {a b : Addr × Obj} {P : Addr → Prop} (h1 : P a.1) (h2 : P b.1) : ∀ r ∈ [a, b], P r.1 := fun r hr => by
  rcases List.mem_cons.mp hr with rfl | hr
  · exact h1
  · rw [List.mem_singleton.mp hr]; exact h2
theorem one_off {a : Addr × Obj} {P : Addr → Prop} (h1 : P a.1) : ∀ r ∈ [a], P r.1 := fun r hr => by rw [List.mem_singleton.mp hr]; exact h1
theorem gmb_turn {w : World} {dp un : Nat} {fr : Option (List Env)} {gd : Option (List Code)} {s : Shared} {g : Heap} {mg mb : Str → Option Value} {L x Q0 B0 : Addr} {m : Str → Option Value} {rest : List (Addr × Obj)} {qv bv : List Value} {c1 c2 : Nat} {v : Value} {Q : Flow → Shared → Prop}
    {p : Piece} (X : (K w.params).In g) (T : TopRead q (looseW q loose) mg mb g) {dx : Addr} {kk : List Tok} {isj aj op bp : Value} {a b : Str} {ta tb : Tok} {db sj : Addr} {n : Nat} (hBQ : B0 ≠ Q0) (hxQ : x ≠ Q0 ∧ dx ≠ Q0 ∧ x ≠ B0 ∧ dx ≠ B0) (hqv : qv.length < 1000) (hbv : bv.length < 1000) (hrest : ∀ r ∈ rest, r.1 ≠ Q0 ∧ r.1 ≠ B0) {ad : Addr} {u1 u2 u3 u4 : Tok} (hv : v = .ref ad) (hvr : (ad, tupO #[.int p.1 u1, .int p.2.1 u2, .int p.2.2.1 u3, .int p.2.2.2 u4]) ∈ rest)
    {jk : Nat → Bool} {ses : Array (Int × Value)} {sn sm : Nat} {stb : SetTable} {S : Str → Bool} (hB : B2J w g db b jk) (hsj : g.get? sj = some (setObj ses sn stb)) (hS : g.SetOf (strKind pw w) sj S sm) (hjk : ∀ v, v < b.cps.size → S ⟨#[ch b v]⟩ = jk (ch b v))
    (ha : a.cps.size < 1000) (hb : b.cps.size < 1000) (hd : dp < 400) (hu : un < 400) (hp : p.1 ≤ p.2.1 ∧ p.2.1 ≤ a.cps.size ∧ p.2.2.1 ≤ p.2.2.2 ∧ p.2.2.2 ≤ b.cps.size)
    (hQ : ∀ h' tk m' i j k nw bv' qv' c1' c2', FLM a b jk p.1 p.2.1 p.2.2.1 p.2.2.2 i j k → Fr g L h' m' → (∀ y, y ∉ ["alo", "ahi", "blo", "bhi", "i", "j", "k", "x"].map Str.ofString → m' y = ov [("queue", .ref Q0), ("matching_blocks", .ref B0), ("self", .ref x)] m y) →
      News g L h' ((B0, listOf bv'.toArray c1') :: (Q0, listOf qv'.toArray c2') :: (x, instObj 242 dx) :: (dx, dictOf (smEs w.params kk isj a b ta tb aj .none op (.ref db) (.ref sj) bp) n) :: (nw ++ rest)) → (∀ r ∈ nw, r.1 ≠ Q0 ∧ r.1 ≠ B0) →
      GtCase nw p i j k bv bv' qv qv' →
      Q .next { s with heap := h', toks := tk })
    (F : Fr g L s.heap (ov [("queue", .ref Q0), ("matching_blocks", .ref B0), ("self", .ref x)] m)) (N : News g L s.heap ((B0, listOf bv.toArray c1) :: (Q0, listOf (qv ++ [v]).toArray c2) :: (x, instObj 242 dx) :: (dx, dictOf (smEs w.params kk isj a b ta tb aj .none op (.ref db) (.ref sj) bp) n) :: rest)) :
    wpAny (model pw w) ((AR dp un fr gd).deeper (gmbEnv L)) (execs (bodyAt (gmbSt 5)) (gmbEnv L)) Q (fun _ _ => False) s := by
  conv in execs _ _ => arg 1; whnf
  delta gmbEnv
  conv in (occs := *) envX _ _ _ _ _ _ => all_goals (arg 2; whnf)
  k_steps
  refine Stop.intro ?_
  refine kl_pop F N (by rw [List.toList_toArray]; exact kpa_last v qv) (Upd.tail hBQ (Upd.head fun r hr => by
    rcases List.mem_cons.mp hr with rfl | hr
    · exact hxQ.1
    · rcases List.mem_cons.mp hr with rfl | hr
      · exact hxQ.2.1
      · exact (hrest r hr).1)) (by have : sizeLine = 16777216 := rfl; simp; lia) fun h1 F1 N1 => ?_
  subst hv
  k_steps
  first | refine Stop.intro ?_ | skip
  refine unpackN_ F1 N1 (News.isTup N1 (.tail _ (.tail _ (.tail _ (.tail _ hvr))))) rfl (by rfl) (by rfl) fun h2 F2 N2 => ?_
  clear F1 N1 F N
  k_steps
  refine Stop.intro ?_
  rename Fr _ _ _ _ => F3
  rename News _ _ _ _ => N3
  have hled : Led g _ [(x, instObj 242 dx), (dx, dictOf (smEs w.params kk isj a b ta tb aj .none op (.ref db) (.ref sj) bp) n)] := fun r hr => by
    have hr' : r ∈ (B0, listOf bv.toArray c1) :: (Q0, listOf qv.toArray (c2 + 1)) :: (x, instObj 242 dx) :: (dx, dictOf (smEs w.params kk isj a b ta tb aj .none op (.ref db) (.ref sj) bp) n) :: rest := by
      simp only [List.mem_cons, List.not_mem_nil, or_false] at hr ⊢
      rcases hr with h | h
      · exact .inr (.inr (.inl h))
      · exact .inr (.inr (.inr (.inl h)))
    exact ⟨(N3 r hr').1, (N3 r hr').2.2⟩
  refine wpAny_call ?_
  show codeAny _ (AR _ _ _ _) _ _ _
  refine flm F3.keep X T hled hB hsj hS hjk ha hb hp.2.1 hp.2.2.2 hp.1 hp.2.2.1 (by show dp + 1 < 500; lia) (by show un + _ < 500; lia) fun h4 tk4 x' d' i j k ti tj tk' hk4 hx4 hn4 hF => ?_
  have F4 := F3.kept hk4
  have hxL : x' ≠ L := by
    obtain ⟨oL, _, _, hL, _⟩ := F3.ns
    rintro rfl
    have := hL.symm.trans hn4; cases this
  have N4 : News g L h4 ((x', mObj d' #[.int i ti, .int j tj, .int k tk']) :: (B0, listOf bv.toArray c1) :: (Q0, listOf qv.toArray (c2 + 1)) :: (x, instObj 242 dx) :: (dx, dictOf (smEs w.params kk isj a b ta tb aj .none op (.ref db) (.ref sj) bp) n) :: rest) := fun r hr => by
    rcases List.mem_cons.mp hr with rfl | hr
    · refine ⟨hx4, hxL, ?_⟩
      cases e : g.get? x' with
      | none => rfl
      | some o => have := (F3.keep _ _ e).symm.trans hn4; cases this
    · exact ⟨hk4 _ _ (N3 r hr).1, (N3 r hr).2⟩
  have hxo : ∀ r ∈ (B0, listOf bv.toArray c1) :: (Q0, listOf qv.toArray (c2 + 1)) :: (x, instObj 242 dx) :: (dx, dictOf (smEs w.params kk isj a b ta tb aj .none op (.ref db) (.ref sj) bp) n) :: rest, r.1 ≠ x' := fun r hr e => by
    have := (N3 r hr).1
    rw [e] at this
    have := this.symm.trans hn4; cases this
  clear F3 N3 hled
  dsimp only
  k_steps
  refine assignN_match F4 N4 (X.keeps F4.keep) ⟨d', (N4 _ (.head _)).1⟩ rfl (by rfl) (by rfl) fun h5 F5 N5 => ?_
  clear F4 N4
  k_steps
  · rename Fr _ _ _ _ => F6
    rename News _ _ _ _ => N6
    have hBo : ∀ r ∈ (Q0, listOf qv.toArray (c2 + 1)) :: (x, instObj 242 dx) :: (dx, dictOf (smEs w.params kk isj a b ta tb aj .none op (.ref db) (.ref sj) bp) n) :: rest, r.1 ≠ B0 := fun r hr => by
      simp only [List.mem_cons] at hr
      rcases hr with rfl | rfl | rfl | hr
      · exact hBQ.symm
      · exact hxQ.2.2.1
      · exact hxQ.2.2.2
      · exact (hrest r hr).2
    refine append_K F6 N6 (Upd.tail (hxo _ (.head _)).symm (Upd.head hBo)) (fun h7 F7 N7 => ?_) (by have : sizeLine = 16777216 := rfl; simp; lia)
    rw [List.push_toArray] at N7
    clear F6 N6
    have hx'Q : x' ≠ Q0 := (hxo _ (.tail _ (.head _))).symm
    have hx'B : x' ≠ B0 := (hxo _ (.head _)).symm
    have hQo : ∀ r ∈ (x, instObj 242 dx) :: (dx, dictOf (smEs w.params kk isj a b ta tb aj .none op (.ref db) (.ref sj) bp) n) :: rest, r.1 ≠ Q0 := fun r hr => by
      simp only [List.mem_cons] at hr
      rcases hr with rfl | rfl | hr
      · exact hxQ.1
      · exact hxQ.2.1
      · exact (hrest r hr).1
    have hqs : ∀ l : List Value, l.length ≤ qv.length + 3 → l.toArray.size ≤ sizeLine := fun l hl => by have : sizeLine = 16777216 := rfl; simp; lia
    k_steps
    · rename_i lt1
      rename Fr _ _ _ _ => F8
      rename News _ _ _ _ => N8
      refine append_K F8 N8 (Upd.tail (Nat.ne_of_gt lt1.2.2.1) (Upd.tail hx'Q (Upd.tail hBQ (Upd.head hQo)))) (fun h9 F9 N9 => ?_) (hqs _ (by lia))
      rw [List.push_toArray] at N9
      clear F8 N8
      k_steps
      · rename_i lt2
        rename Fr _ _ _ _ => F8
        rename News _ _ _ _ => N8
        refine append_K F8 N8 (Upd.tail (Nat.ne_of_gt lt2.2.2.2.1) (Upd.tail (Nat.ne_of_gt lt1.2.2.1) (Upd.tail hx'Q (Upd.tail hBQ (Upd.head hQo))))) (fun h9 F9 N9 => ?_) (hqs _ (by simp))
        rw [List.push_toArray] at N9
        clear F8 N8
        k_steps
        refine hQ _ _ _ i j k _ _ _ _ _ hF F9 (fun y hy => gmb_off hy) (shift3 N9) (fun r hr => ?_) (.yes (by lia) _ [_, _] rfl (.cons ⟨_, _, _, _, _, rfl, .tail _ (.tail _ (.head _))⟩ .nil) (List.append_assoc _ [_] [_]) ?_)
        · simp only [List.mem_cons, List.not_mem_nil, or_false] at hr
          rcases hr with rfl | rfl | rfl
          · exact ⟨Nat.ne_of_gt lt2.2.2.2.1, Nat.ne_of_gt lt2.2.2.1⟩
          · exact ⟨Nat.ne_of_gt lt1.2.2.1, Nat.ne_of_gt lt1.2.1⟩
          · exact ⟨hx'Q, hx'B⟩
        · rw [if_pos (by lia), if_pos (by lia)]
          exact .cons ⟨_, _, _, _, _, rfl, .tail _ (.head _)⟩ (.cons ⟨_, _, _, _, _, rfl, .head _⟩ .nil)
      · refine hQ _ _ _ i j k _ _ _ _ _ hF F9 (fun y hy => gmb_off hy) (shift2 N9) (fun r hr => ?_) (.yes (by lia) _ [_] rfl (.cons ⟨_, _, _, _, _, rfl, .tail _ (.head _)⟩ .nil) (rfl) ?_)
        · simp only [List.mem_cons, List.not_mem_nil, or_false] at hr
          rcases hr with rfl | rfl
          · exact ⟨Nat.ne_of_gt lt1.2.2.1, Nat.ne_of_gt lt1.2.1⟩
          · exact ⟨hx'Q, hx'B⟩
        · rw [if_pos (by lia), if_neg (by lia)]
          exact .cons ⟨_, _, _, _, _, rfl, .head _⟩ .nil
      · refine hQ _ _ _ i j k _ _ _ _ _ hF F9 (fun y hy => gmb_off hy) (shift2 N9) (fun r hr => ?_) (.yes (by lia) _ [_] rfl (.cons ⟨_, _, _, _, _, rfl, .tail _ (.head _)⟩ .nil) (rfl) ?_)
        · simp only [List.mem_cons, List.not_mem_nil, or_false] at hr
          rcases hr with rfl | rfl
          · exact ⟨Nat.ne_of_gt lt1.2.2.1, Nat.ne_of_gt lt1.2.1⟩
          · exact ⟨hx'Q, hx'B⟩
        · rw [if_pos (by lia), if_neg (by lia)]
          exact .cons ⟨_, _, _, _, _, rfl, .head _⟩ .nil
    · rename_i lt2
      rename Fr _ _ _ _ => F8
      rename News _ _ _ _ => N8
      refine append_K F8 N8 (Upd.tail (Nat.ne_of_gt lt2.2.2.1) (Upd.tail hx'Q (Upd.tail hBQ (Upd.head hQo)))) (fun h9 F9 N9 => ?_) (hqs _ (by lia))
      rw [List.push_toArray] at N9
      clear F8 N8
      k_steps
      refine hQ _ _ _ i j k _ _ _ _ _ hF F9 (fun y hy => gmb_off hy) (shift2 N9) (fun r hr => ?_) (.yes (by lia) _ [_] rfl (.cons ⟨_, _, _, _, _, rfl, .tail _ (.head _)⟩ .nil) (rfl) ?_)
      · simp only [List.mem_cons, List.not_mem_nil, or_false] at hr
        rcases hr with rfl | rfl
        · exact ⟨Nat.ne_of_gt lt2.2.2.1, Nat.ne_of_gt lt2.2.1⟩
        · exact ⟨hx'Q, hx'B⟩
      · rw [if_neg (by lia), if_pos (by lia)]
        exact .cons ⟨_, _, _, _, _, rfl, .head _⟩ .nil
    · refine hQ _ _ _ i j k _ _ _ _ _ hF F7 (fun y hy => gmb_off hy) (shift1 N7) (fun r hr => ?_) (.yes (by lia) _ [] rfl (.cons ⟨_, _, _, _, _, rfl, .head _⟩ .nil) (by simp) ?_)
      · simp only [List.mem_cons, List.not_mem_nil, or_false] at hr
        subst hr
        · exact ⟨hx'Q, hx'B⟩
      · rw [if_neg (by lia), if_neg (by lia)]
        exact .nil
    · refine hQ _ _ _ i j k _ _ _ _ _ hF F7 (fun y hy => gmb_off hy) (shift1 N7) (fun r hr => ?_) (.yes (by lia) _ [] rfl (.cons ⟨_, _, _, _, _, rfl, .head _⟩ .nil) (by simp) ?_)
      · simp only [List.mem_cons, List.not_mem_nil, or_false] at hr
        subst hr
        · exact ⟨hx'Q, hx'B⟩
      · rw [if_neg (by lia), if_neg (by lia)]
        exact .nil
    · rename_i lt2
      rename Fr _ _ _ _ => F8
      rename News _ _ _ _ => N8
      refine append_K F8 N8 (Upd.tail (Nat.ne_of_gt lt2.2.2.1) (Upd.tail hx'Q (Upd.tail hBQ (Upd.head hQo)))) (fun h9 F9 N9 => ?_) (hqs _ (by lia))
      rw [List.push_toArray] at N9
      clear F8 N8
      k_steps
      refine hQ _ _ _ i j k _ _ _ _ _ hF F9 (fun y hy => gmb_off hy) (shift2 N9) (fun r hr => ?_) (.yes (by lia) _ [_] rfl (.cons ⟨_, _, _, _, _, rfl, .tail _ (.head _)⟩ .nil) (rfl) ?_)
      · simp only [List.mem_cons, List.not_mem_nil, or_false] at hr
        rcases hr with rfl | rfl
        · exact ⟨Nat.ne_of_gt lt2.2.2.1, Nat.ne_of_gt lt2.2.1⟩
        · exact ⟨hx'Q, hx'B⟩
      · rw [if_neg (by lia), if_pos (by lia)]
        exact .cons ⟨_, _, _, _, _, rfl, .head _⟩ .nil
    · refine hQ _ _ _ i j k _ _ _ _ _ hF F7 (fun y hy => gmb_off hy) (shift1 N7) (fun r hr => ?_) (.yes (by lia) _ [] rfl (.cons ⟨_, _, _, _, _, rfl, .head _⟩ .nil) (by simp) ?_)
      · simp only [List.mem_cons, List.not_mem_nil, or_false] at hr
        subst hr
        · exact ⟨hx'Q, hx'B⟩
      · rw [if_neg (by lia), if_neg (by lia)]
        exact .nil
    · refine hQ _ _ _ i j k _ _ _ _ _ hF F7 (fun y hy => gmb_off hy) (shift1 N7) (fun r hr => ?_) (.yes (by lia) _ [] rfl (.cons ⟨_, _, _, _, _, rfl, .head _⟩ .nil) (by simp) ?_)
      · simp only [List.mem_cons, List.not_mem_nil, or_false] at hr
        subst hr
        · exact ⟨hx'Q, hx'B⟩
      · rw [if_neg (by lia), if_neg (by lia)]
        exact .nil
  · rename Fr _ _ _ _ => F6
    rename News _ _ _ _ => N6
    refine hQ _ _ _ i j k _ _ _ _ _ hF F6 (fun y hy => gmb_off hy) (shift1 N6) (fun r hr => ?_) (.no (by lia) rfl rfl)
    simp only [List.mem_cons, List.not_mem_nil, or_false] at hr
    subst hr
    exact ⟨(hxo _ (.tail _ (.head _))).symm, (hxo _ (.head _)).symm⟩
end Mine
end
section
open PySem PySem.W PyProof.Rows PySem.Calls PySem.Spec
set_option Elab.async false
set_option maxRecDepth 1000000
set_option maxHeartbeats 8000000
namespace Mine
theorem regGW (P : Params) : K P = [] ∨ PySem.Challenge.rw_kl0396_01.name = PySem.Challenge.rw_kl0396_01.name := by
  k_fill
  exact .inr rfl
local macro_rules | `(tactic| walk_at $s:str) => stopAt "execs cons" s
theorem All2.len {α β : Type} {R : α → β → Prop} {l : List α} {m : List β} (h : All2 R l m) : l.length = m.length := by
  induction h with
  | nil => rfl
  | cons _ _ ih => simp [ih]
theorem All2.imp {α β : Type} {R S : α → β → Prop} {l : List α} {m : List β} (h : All2 R l m) (f : ∀ x y, R x y → S x y) : All2 S l m := by
  induction h with
  | nil => exact .nil
  | cons hx _ ih => exact .cons (f _ _ hx) ih
theorem QV.more {r r' : List (Addr × Obj)} {l m} (h : QV r l m) (hs : ∀ p ∈ r, p ∈ r') : QV r' l m := h.imp fun _ _ h => by obtain ⟨a, t1, t2, t3, t4, e, hm⟩ := h; exact ⟨a, t1, t2, t3, t4, e, hs _ hm⟩
theorem BV.more {r r' : List (Addr × Obj)} {l m} (h : BV r l m) (hs : ∀ p ∈ r, p ∈ r') : BV r' l m := h.imp fun _ _ h => by obtain ⟨a, d, t1, t2, t3, e, hm⟩ := h; exact ⟨a, d, t1, t2, t3, e, hs _ hm⟩
noncomputable def pw2 (p : Piece) : Nat := 2 * (p.2.1 - p.1) + 1
noncomputable def wsum : List Piece → Nat
  | [] => 0
  | p :: l => pw2 p + wsum l
theorem wsum_cons {p : Piece} {l : List Piece} : wsum (p :: l) = pw2 p + wsum l := rfl
theorem wsum_app : ∀ l m, wsum (l ++ m) = wsum l + wsum m
  | [], m => (Nat.zero_add _).symm
  | p :: l, m => by rw [List.cons_append, wsum_cons, wsum_cons, wsum_app l m]; lia
theorem len_wsum : ∀ l, l.length ≤ wsum l
  | [] => Nat.le_refl _
  | p :: l => by have := len_wsum l; rw [List.length_cons, wsum_cons]; unfold pw2; lia
theorem All2.snoc {α β : Type} {R : α → β → Prop} {l : List α} {m : List β} (h : All2 R l m) (hl : l ≠ []) : ∃ l' x m' y, l = l' ++ [x] ∧ m = m' ++ [y] ∧ All2 R l' m' ∧ R x y := by
  induction h with
  | nil => exact absurd rfl hl
  | @cons x y l m hx h ih =>
    cases l with
    | nil => cases h; exact ⟨[], x, [], y, rfl, rfl, .nil, hx⟩
    | cons z l =>
      obtain ⟨l', x', m', y', e1, e2, h1, h2⟩ := ih (by simp)
      exact ⟨x :: l', x', y :: m', y', by rw [e1]; rfl, by rw [e2]; rfl, .cons hx h1, h2⟩
noncomputable abbrev PB (a b : Str) (p : Piece) : Prop := p.1 ≤ p.2.1 ∧ p.2.1 ≤ a.cps.size ∧ p.2.2.1 ≤ p.2.2.2 ∧ p.2.2.2 ≤ b.cps.size
noncomputable abbrev gwLL (x Q0 B0 : Addr) (a b : Str) (t1 t2 : Tok) : List (Str × Value) := [("queue", .ref Q0), ("matching_blocks", .ref B0), ("self", .ref x), ("la", .int a.cps.size t1), ("lb", .int b.cps.size t2)]
theorem pw_parts {p1 p2 i k : Nat} (hk : 0 < k) (h1 : p1 ≤ i) (h2 : i + k ≤ p2) : 2 * (i - p1) + 1 + (2 * (p2 - (i + k)) + 1) + 1 ≤ 2 * (p2 - p1) + 1 := by lia
theorem wsum_ite {c : Prop} [Decidable c] {p : Piece} {b : Nat} (h : pw2 p ≤ b) : wsum (if c then [p] else []) ≤ b := by
  split
  · exact h
  · exact Nat.zero_le _
theorem wsum_parts {p : Piece} {i j k : Nat} (hk : 0 < k) (h1 : p.1 ≤ i) (h2 : i + k ≤ p.2.1) :
    wsum ((if p.1 < i ∧ p.2.2.1 < j then [(p.1, i, p.2.2.1, j)] else []) ++ (if i + k < p.2.1 ∧ j + k < p.2.2.2 then [(i + k, p.2.1, j + k, p.2.2.2)] else [])) + 1 ≤ pw2 p := by
  rw [wsum_app]
  exact Nat.le_trans (Nat.succ_le_succ (Nat.add_le_add (wsum_ite (Nat.le_refl _)) (wsum_ite (Nat.le_refl _)))) (pw_parts hk h1 h2)
theorem pb_left {a b : Str} {p : Piece} {i j k : Nat} (hp : PB a b p) (h1 : p.1 ≤ i) (h2 : p.2.2.1 ≤ j) (h3 : i + k ≤ p.2.1) (h4 : j + k ≤ p.2.2.2) : PB a b (p.1, i, p.2.2.1, j) := by
  unfold PB at hp ⊢; dsimp only; lia
theorem pb_right {a b : Str} {p : Piece} {i j k : Nat} (hp : PB a b p) (h3 : i + k ≤ p.2.1) (h4 : j + k ≤ p.2.2.2) : PB a b (i + k, p.2.1, j + k, p.2.2.2) := by
  unfold PB at hp ⊢; dsimp only; lia
/-- what holds between the turns -/
inductive GwJ (x Q0 B0 : Addr) (a b : Str) (jk : Nat → Bool) (t1 t2 : Tok) (ex ed : Addr × Obj) (n' : Nat) (m' : Str → Option Value) (news' : List (Addr × Obj)) : Prop
  | mk (qs : List Piece) (bs : List Blk) (qv bv : List Value) (c1 c2 : Nat) (rest' : List (Addr × Obj)) (en : n' = wsum qs) (hw : wsum qs + bs.length ≤ 2 * a.cps.size + 1) (hm : HasL m' (gwLL x Q0 B0 a b t1 t2))
      (e : news' = (B0, listOf bv.toArray c1) :: (Q0, listOf qv.toArray c2) :: ex :: ed :: rest') (h1 : ∀ r ∈ rest', r.1 ≠ Q0 ∧ r.1 ≠ B0) (h2 : QV rest' qv qs) (h3 : BV rest' bv bs) (h4 : ∀ p ∈ qs, PB a b p) (h5 : Owes a b jk (0, a.cps.size, 0, b.cps.size) qs bs)
theorem gmb_while {w : World} {dp un : Nat} {fr : Option (List Env)} {gd : Option (List Code)} {s : Shared} {g : Heap} {mg mb : Str → Option Value} {L x Q0 B0 : Addr} {m : Str → Option Value} {rest : List (Addr × Obj)} {qv : List Value} {c1 c2 : Nat} {Q : Flow → Shared → Prop}
    (X : (K w.params).In g) (T : TopRead q (looseW q loose) mg mb g) {dx : Addr} {kk : List Tok} {isj aj op bp : Value} {a b : Str} {ta tb t1 t2 : Tok} {db sj : Addr} {n : Nat} (hBQ : B0 ≠ Q0) (hxQ : x ≠ Q0 ∧ dx ≠ Q0 ∧ x ≠ B0 ∧ dx ≠ B0) (hrest : ∀ r ∈ rest, r.1 ≠ Q0 ∧ r.1 ≠ B0)
    {jk : Nat → Bool} {ses : Array (Int × Value)} {sn sm : Nat} {stb : SetTable} {S : Str → Bool} (hB : B2J w g db b jk) (hsj : g.get? sj = some (setObj ses sn stb)) (hS : g.SetOf (strKind pw w) sj S sm) (hjk : ∀ v, v < b.cps.size → S ⟨#[ch b v]⟩ = jk (ch b v))
    (ha : a.cps.size < 400) (hb : b.cps.size < 400) (hd : dp < 400) (hu : un < 400) (hqv : QV rest qv [(0, a.cps.size, 0, b.cps.size)])
    (hQ : ∀ h' tk m' bs bv c1 c2 rest', Fr g L h' m' → HasL m' (gwLL x Q0 B0 a b t1 t2) → News g L h' ((B0, listOf bv.toArray c1) :: (Q0, listOf #[] c2) :: (x, instObj 242 dx) :: (dx, dictOf (smEs w.params kk isj a b ta tb aj .none op (.ref db) (.ref sj) bp) n) :: rest') →
      (∀ r ∈ rest', r.1 ≠ Q0 ∧ r.1 ≠ B0) → BV rest' bv bs → (∃ bl, RecP a b jk (0, a.cps.size, 0, b.cps.size) bl ∧ bl.Perm bs) → Q .next { s with heap := h', toks := tk })
    (F : Fr g L s.heap m) (hm : HasL m (gwLL x Q0 B0 a b t1 t2)) (N : News g L s.heap ((B0, listOf #[] c1) :: (Q0, listOf qv.toArray c2) :: (x, instObj 242 dx) :: (dx, dictOf (smEs w.params kk isj a b ta tb aj .none op (.ref db) (.ref sj) bp) n) :: rest)) :
    wpAny (model pw w) ((AR dp un fr gd).deeper (gmbEnv L)) (exec (gmbSt 5) (gmbEnv L)) Q (fun _ _ => False) s := by
  conv in exec _ _ => arg 1; whnf
  delta gmbEnv
  conv in (occs := *) envX _ _ _ _ _ _ => all_goals (arg 2; whnf)
  refine While_inv (n₀ := wsum [(0, a.cps.size, 0, b.cps.size)]) (GwJ x Q0 B0 a b jk t1 t2 (x, instObj 242 dx) (dx, dictOf (smEs w.params kk isj a b ta tb aj .none op (.ref db) (.ref sj) bp) n)) F N ⟨_, [], qv, [], c1, c2, rest, rfl, by simp [wsum, pw2], hm, rfl, hrest, hqv, .nil, by intro p hp; rw [List.mem_singleton.mp hp]; exact ⟨Nat.zero_le _, Nat.le_refl _, Nat.zero_le _, Nat.le_refl _⟩, Owes.start⟩ ?_
  clear hm F N hqv hrest
  rintro n' m₁ n₁ h₁ tk₁ F N ⟨qs, bs, qv, bv, c1', c2', rest', rfl, hw, hm, rfl, hrest, hqv, hbv, hpb, how⟩
  have em := ov_of hm
  have em3 : m₁ = ov [("queue", .ref Q0), ("matching_blocks", .ref B0), ("self", .ref x)] m₁ := ov_of ⟨hm.1, hm.2.1, hm.2.2.1, trivial⟩
  rw [em] at F
  have hlen : qv.toArray.size < 1000 := by have := hqv.len; have := len_wsum qs; simp; lia
  k_steps
  rw [← em, em3] at F
  have hlq := News.isList N (.tail _ (.head _))
  refine wpAny_truthy_list hlq (by lia) ?_
  by_cases hne : qv = []
  · subst hne
    cases hqv
    refine hQ _ _ _ bs bv c1' c2' rest' F ?_ N hrest hbv how.fin
    rw [← em3]; exact hm
  · obtain ⟨qv', v, qs', p, rfl, rfl, hqv', ⟨ad, u1, u2, u3, u4, rfl, hvr⟩⟩ := hqv.snoc hne
    have hl1 := hqv'.len
    have hl2 := len_wsum qs'
    have hl3 := hbv.len
    have hw1 : wsum (qs' ++ [p]) = wsum qs' + pw2 p := by rw [wsum_app]; rfl
    have hpp := hpb p (by simp)
    rw [show (!((qv' ++ [Value.ref ad]).toArray).isEmpty) = true by simp]
    rw [if_pos rfl]
    refine gmb_turn X T hBQ hxQ (by lia) (by lia) hrest rfl hvr hB hsj hS hjk (by lia) (by lia) hd hu hpp (fun h' tk m' i j k nw bv' qv'' c1'' c2'' hF F' hk' N' hnw hcase => ?_) F N
    have hm' : HasL m' (gwLL x Q0 B0 a b t1 t2) := ⟨hk' _ (by dsimp only; decide +kernel), hk' _ (by dsimp only; decide +kernel), hk' _ (by dsimp only; decide +kernel), (hk' _ (by dsimp only; decide +kernel)).trans hm.2.2.2.1, (hk' _ (by dsimp only; decide +kernel)).trans hm.2.2.2.2.1, trivial⟩
    have hrest' : ∀ r ∈ nw ++ rest', r.1 ≠ Q0 ∧ r.1 ≠ B0 := fun r hr => (List.mem_append.mp hr).elim (hnw r) (hrest r)
    have hmore : ∀ r ∈ rest', r ∈ nw ++ rest' := fun r hr => List.mem_append_right _ hr
    have hmore' : ∀ r ∈ nw, r ∈ nw ++ rest' := fun r hr => List.mem_append_left _ hr
    have hbd := hF.bounds
    rcases hcase with ⟨rfl, rfl, rfl⟩ | ⟨hk, vb, vs, rfl, hvb, rfl, hvs⟩
    · refine WhileStep.intro (n' := wsum qs') F' N' (by unfold pw2 at hw1; lia) ⟨qs', bs, _, _, _, _, _, rfl, by lia, hm', rfl, hrest', QV.more hqv' hmore, BV.more hbv hmore, fun r hr => hpb r (List.mem_append_left _ hr), how.none hF⟩
    · have hlt : wsum ((if p.1 < i ∧ p.2.2.1 < j then [(p.1, i, p.2.2.1, j)] else []) ++ (if i + k < p.2.1 ∧ j + k < p.2.2.2 then [(i + k, p.2.1, j + k, p.2.2.2)] else [])) + 1 ≤ pw2 p := by
        exact wsum_parts hk hbd.1 hbd.2.2.1
      refine WhileStep.intro (n' := wsum (qs' ++ (if p.1 < i ∧ p.2.2.1 < j then [(p.1, i, p.2.2.1, j)] else []) ++ (if i + k < p.2.1 ∧ j + k < p.2.2.2 then [(i + k, p.2.1, j + k, p.2.2.2)] else []))) F' N' (by rw [List.append_assoc, wsum_app]; lia)
        ⟨_, bs ++ [(i, j, k)], _, _, _, _, _, rfl, by rw [List.append_assoc, wsum_app, List.length_append]; simp only [List.length_cons, List.length_nil]; lia, hm', rfl, hrest', ?_, forall2_join (BV.more hbv hmore) (BV.more hvb hmore'), fun r hr => ?_, how.some hF hk⟩
      · rw [List.append_assoc]
        exact forall2_join (QV.more hqv' hmore) (QV.more hvs hmore')
      · rcases List.mem_append.mp hr with hr | hr
        · rcases List.mem_append.mp hr with hr | hr
          · exact hpb r (List.mem_append_left _ hr)
          · split at hr
            · rw [List.mem_singleton.mp hr]; exact pb_left hpp hbd.1 hbd.2.1 hbd.2.2.1 hbd.2.2.2
            · cases hr
        · split at hr
          · rw [List.mem_singleton.mp hr]; exact pb_right hpp hbd.2.2.1 hbd.2.2.2
          · cases hr
end Mine
end
section
open PySem PySem.W PyProof.Rows PySem.Calls PySem.Spec
set_option Elab.async false
set_option maxRecDepth 1000000
set_option maxHeartbeats 8000000
namespace Mine
/-! ## loops whose target is a tuple; no break, no continue -/
noncomputable def TurnT (g : Heap) (L : Addr) (s : Shared) (own : List (Addr × Obj)) (Jn : (Str → Option Value) → List (Addr × Obj) → Prop) (f : Flow) (s' : Shared) : Prop :=
  f = .next ∧ Turned g L s own Jn s'
section
variable {w : World} {A : Around} {E : Value → Shared → Prop} {s : Shared} {env : Env} {g : Heap} {target : Expr} {body : List Stmt} {Q : Flow → Shared → Prop} {m : Str → Option Value} {news : List (Addr × Obj)} {I : Addr} {n : Nat} {P : Nat → Value → Prop} {St : Nat → Heap → Prop}
theorem TurnT.intro {L : Addr} {own : List (Addr × Obj)} {Jn : (Str → Option Value) → List (Addr × Obj) → Prop} {h' : Heap} {tk : Nat} {m' : Str → Option Value} {news' : List (Addr × Obj)}
    (F : Fr g L h' m') (N : News g L h' (own ++ news')) (hd : ∀ p ∈ news', ∀ o ∈ own, p.1 ≠ o.1) (hJ : Jn m' news') : TurnT g L s own Jn .next { s with heap := h', toks := tk } := ⟨rfl, h', tk, m', news', rfl, F, N, hd, hJ⟩
theorem loop1T {fp : List Addr} {kl : List (Addr × Obj)} (W : Walks pw w A I fp [I] n P St) (hfp : ∀ b ∈ fp, b = I ∨ (∃ o, g.get? b = some o) ∨ ∃ o, (b, o) ∈ kl) (hIf : I ∈ fp) (hSt : ∀ i h, St i h → ∃ o, h.get? I = some o) (hI : g.get? I = none) (hIL : I ≠ env.locals)
    (hIn : ∀ p ∈ kl ++ news, p.1 ≠ I) (hst : St 0 s.heap)
    (hgo : ∀ i (s' : Shared) v (Q' : Unit → Shared → Prop), St i s'.heap → Q' () s' → wpAny (model pw w) A (letOwnedTupleGo target (.ref I) v) Q' E s')
    (F : Fr g env.locals s.heap m) (N : News g env.locals s.heap (kl ++ news)) (hkn : ∀ p ∈ news, ∀ o ∈ kl, p.1 ≠ o.1) (J : Nat → (Str → Option Value) → List (Addr × Obj) → Prop) (h0 : J 0 m news)
    (step : ∀ i v m₁ news₁ s₁ oI, i < n → P i v → J i m₁ news₁ → (∀ p ∈ news₁, ∀ o ∈ (I, oI) :: kl, p.1 ≠ o.1) → Fr g env.locals s₁.heap m₁ → News g env.locals s₁.heap ((I, oI) :: (kl ++ news₁)) →
      wpAny (model pw w) A (assign target env v) (fun _ s₂ => wpAny (model pw w) A (execs body env) (TurnT g env.locals s₁ ((I, oI) :: kl) (J (i + 1))) E s₂) E s₁)
    (done : ∀ h' tk m' news', Fr g env.locals h' m' → News g env.locals h' (kl ++ news') → (∀ p ∈ news', ∀ o ∈ kl, p.1 ≠ o.1) → J n m' news' → Q .next { s with heap := h', toks := tk }) :
    LoopAtT pw w A g env target body Q E (.ref I) s := by
  refine ⟨I, fp, [I], n, P, St, m, kl ++ news, fun i => KlJ kl (J i), rfl, W, ?_, ?_, ?_, hst, F, N, hgo, ⟨news, rfl, hkn, h0⟩, ?_, ?_⟩
  · intro hm
    rcases hfp _ hm with e | ⟨o, e⟩ | ⟨o, e⟩
    · exact hIL e.symm
    · exact absurd (Heap.lt_size e) (Nat.not_lt.mpr F.above)
    · exact (N _ (List.mem_append_left _ e)).2.1 rfl
  · intro b hb; rw [List.mem_singleton.mp hb]; exact hI
  · intro p hp hm; exact hIn p hp (List.mem_singleton.mp hm)
  · rintro i v m₁ news₁ s₁ own hi hP ⟨n₂, rfl, hk₂, hJ⟩ hoff hown hget hmem hst₁ F₁ N₁
    obtain ⟨oI, hoI⟩ := hSt _ _ hst₁
    have hin := hmem I hIf hI oI hoI
    have hall : ∀ p ∈ own, p = (I, oI) ∨ p ∈ kl := by
      intro p hp
      have h2 := hget p hp
      rcases hfp _ (hown p hp) with e | ⟨o, e⟩ | ⟨o, e⟩
      · refine .inl ?_
        rw [e] at h2
        have h3 : s₁.heap.get? I = some p.2 := h2
        rw [show s₁.heap.get? I = some oI from hoI] at h3
        cases p; simp only at e h3; cases h3; subst e; rfl
      · have := (N₁ p (List.mem_append_left _ hp)).2.2
        rw [e] at this; cases this
      · refine .inr ?_
        have h3 : s₁.heap.get? p.1 = some o := (N₁ (p.1, o) (List.mem_append_right _ (List.mem_append_left _ e))).1
        have h4 : s₁.heap.get? p.1 = some p.2 := h2
        rw [h3] at h4
        cases p; simp only at e h4; cases h4; exact e
    have N₂ : News g env.locals s₁.heap ((I, oI) :: (kl ++ n₂)) := fun p hp => by
      rcases List.mem_cons.mp hp with rfl | hp
      · exact N₁ _ (List.mem_append_left _ hin)
      · exact N₁ p (List.mem_append_right _ hp)
    refine wpAny_mono (step i v m₁ n₂ s₁ oI hi hP hJ (fun p hp o ho => ?_) F₁ N₂) (fun _ s₂ h => wpAny_mono h (fun f s₃ h => ?_) fun _ _ e => e) fun _ _ e => e
    · rcases List.mem_cons.mp ho with rfl | ho
      · exact fun e => hoff p (List.mem_append_right _ hp) (List.mem_singleton.mpr e)
      · exact hk₂ p hp o ho
    obtain ⟨rfl, h', tk, m', news', rfl, F', N', hd, hj⟩ := h
    refine ⟨rfl, h', tk, m', kl ++ news', rfl, F', ?_, fun p hp hm => ?_, news', rfl, fun p hp o ho => hd p hp o (List.mem_cons_of_mem _ ho), hj⟩
    · intro p hp
      rcases List.mem_append.mp hp with hp | hp
      · rcases hall p hp with rfl | hp
        · exact N' _ (List.mem_append_left _ (.head _))
        · exact N' _ (List.mem_append_left _ (.tail _ hp))
      · rcases List.mem_append.mp hp with hp | hp
        · exact N' _ (List.mem_append_left _ (.tail _ hp))
        · exact N' _ (List.mem_append_right _ hp)
    · rcases List.mem_append.mp hp with hp | hp
      · exact hIn p (List.mem_append_left _ hp) (List.mem_singleton.mp hm)
      · exact hd p hp _ (.head _) (List.mem_singleton.mp hm)
  · rintro h' tk m' news' F' N' _ ⟨n₂, rfl, hk₂, hJ⟩
    exact done h' tk m' n₂ F' N' hk₂ hJ
/-- for a, b, c in a list that stands in the base or in the ledger's part kl -/
theorem loopListT {kl : List (Addr × Obj)} {l : Addr} {items : Array Value} (hh : A.handled = none) (hl : (∃ o, g.get? l = some o) ∨ ∃ o, (l, o) ∈ kl) (hL : s.heap.IsList l items)
    (F : Fr g env.locals s.heap m) (N : News g env.locals s.heap (kl ++ news)) (hkn : ∀ p ∈ news, ∀ o ∈ kl, p.1 ≠ o.1) (J : Nat → (Str → Option Value) → List (Addr × Obj) → Prop) (h0 : J 0 m news)
    (step : ∀ (i : Nat) v m₁ news₁ s₁ I oI, items[i]? = some v → J i m₁ news₁ → (∀ p ∈ news₁, ∀ o ∈ (I, oI) :: kl, p.1 ≠ o.1) → (∀ p ∈ kl, p.1 < I) → Fr g env.locals s₁.heap m₁ → News g env.locals s₁.heap ((I, oI) :: (kl ++ news₁)) →
      wpAny (model pw w) A (assign target env v) (fun _ s₂ => wpAny (model pw w) A (execs body env) (TurnT g env.locals s₁ ((I, oI) :: kl) (J (i + 1))) E s₂) E s₁)
    (done : ∀ h' tk m' news', Fr g env.locals h' m' → News g env.locals h' (kl ++ news') → (∀ p ∈ news', ∀ o ∈ kl, p.1 ≠ o.1) → J items.size m' news' → Q .next { s with heap := h', toks := tk }) :
    wpAny (model pw w) A (pyIter (.ref l)) (fun it s₂ => LoopAtT pw w A g env target body Q E it s₂) E s := by
  refine wpAny_pyIter_list hL ?_
  obtain ⟨e1, e2⟩ := above_new F
  obtain ⟨ol, hol, _⟩ := id hL
  have hne : l ≠ s.heap.objs.size := Nat.ne_of_lt (Heap.lt_size hol)
  refine loop1T (kl := kl) (Walks.list hh s.heap.objs.size l hne items) (fun b hb => ?_) (.head _) (fun i h hi => by obtain ⟨⟨o, ho, _⟩, _⟩ := hi; exact ⟨o, ho⟩) e1 e2 (fun p hp => Nat.ne_of_lt (Heap.lt_size (N p hp).1))
    ⟨⟨_, Heap.get?_push_size _ rfl, rfl, rfl⟩, hL.at fun o e => Heap.get?_push_of_some _ e⟩ (fun i s' v Q' st hQ' => letGo_listiter st.1 hQ') (F.push _) (fun p hp => ⟨Heap.get?_push_of_some _ (N p hp).1, (N p hp).2⟩) hkn J h0 ?_ ?_
  · rcases List.mem_cons.mp hb with rfl | hb
    · exact .inl rfl
    · rw [List.mem_singleton.mp hb]; exact .inr hl
  · rintro i v m₁ news₁ s₁ oI hi hP hJ hoff F₁ N₁
    exact step i v m₁ news₁ s₁ _ oI hP hJ hoff (fun p hp => Heap.lt_size (N p (List.mem_append_left _ hp)).1) F₁ N₁
  · exact done
end
end Mine
end
section
open PySem PySem.W PyProof.Rows PySem.Calls PySem.Spec
set_option Elab.async false
set_option maxRecDepth 1000000
set_option maxHeartbeats 8000000
namespace Mine
theorem regGMM (P : Params) : K P = [] ∨ PySem.Challenge.rw_kl0396_01.name = PySem.Challenge.rw_kl0396_01.name := by
  k_fill
  exact .inr rfl
/-- the merging of neighbours -/
noncomputable def mrg (i1 j1 k1 : Nat) : List Blk → List Blk
  | [] => if k1 = 0 then [] else [(i1, j1, k1)]
  | b :: l => if i1 + k1 = b.1 ∧ j1 + k1 = b.2.1 then mrg i1 j1 (k1 + b.2.2) l else (if k1 = 0 then [] else [(i1, j1, k1)]) ++ mrg b.1 b.2.1 b.2.2 l
theorem mrg_nil {i1 j1 k1 : Nat} : mrg i1 j1 k1 [] = if k1 = 0 then [] else [(i1, j1, k1)] := rfl
theorem mrg_cons {i1 j1 k1 : Nat} {b : Blk} {l : List Blk} : mrg i1 j1 k1 (b :: l) = if i1 + k1 = b.1 ∧ j1 + k1 = b.2.1 then mrg i1 j1 (k1 + b.2.2) l else (if k1 = 0 then [] else [(i1, j1, k1)]) ++ mrg b.1 b.2.1 b.2.2 l := rfl
inductive IsTr (rest : List (Addr × Obj)) (v : Value) (p : Blk) : Prop
  | mk (a : Addr) (t1 t2 t3 : Tok) (e : v = .ref a) (hm : (a, tupO #[.int p.1 t1, .int p.2.1 t2, .int p.2.2 t3]) ∈ rest)
noncomputable def TV (rest : List (Addr × Obj)) : List Value → List Blk → Prop := All2 (IsTr rest)
theorem TV.more {r r' : List (Addr × Obj)} {l m} (h : TV r l m) (hs : ∀ p ∈ r, p ∈ r') : TV r' l m := h.imp fun _ _ h => by obtain ⟨a, t1, t2, t3, e, hm⟩ := h; exact ⟨a, t1, t2, t3, e, hs _ hm⟩
noncomputable abbrev gmLL (x NA : Addr) (a b : Str) (t1 t2 : Tok) (i1 j1 k1 : Nat) (t3 t4 t5 : Tok) : List (Str × Value) := [("i1", .int i1 t3), ("j1", .int j1 t4), ("k1", .int k1 t5), ("non_adjacent", .ref NA), ("self", .ref x), ("la", .int a.cps.size t1), ("lb", .int b.cps.size t2)]
inductive AtI {α β : Type} (R : α → β → Prop) (m : List β) (i : Nat) (x : α) : Prop
  | mk (y : β) (h : m[i]? = some y) (hr : R x y)
theorem All2.at {α β : Type} {R : α → β → Prop} {l : List α} {m : List β} (h : All2 R l m) : ∀ {i : Nat} {x : α}, l[i]? = some x → AtI R m i x := by
  induction h with
  | nil => intro i x e; simp at e
  | cons hx _ ih =>
    intro i x e
    cases i with
    | zero => simp only [List.getElem?_cons_zero, Option.some.injEq] at e; subst e; exact ⟨_, by simp, hx⟩
    | succ i => obtain ⟨y, h1, h2⟩ := ih (show _ = some x by simpa using e); exact ⟨y, by simpa using h1, h2⟩
theorem gmM_in {a b c d e r : Addr × Obj} {l1 l2 : List (Addr × Obj)} (h : r ∈ [a, b] ++ c :: ((d :: l1) ++ l2)) : r ∈ e :: d :: a :: b :: c :: (l1 ++ l2) := by
  rcases List.mem_cons.mp h with rfl | h
  · exact .tail _ (.tail _ (.head _))
  rcases List.mem_cons.mp h with rfl | h
  · exact .tail _ (.tail _ (.tail _ (.head _)))
  rcases List.mem_cons.mp h with rfl | h
  · exact .tail _ (.tail _ (.tail _ (.tail _ (.head _))))
  · rcases List.mem_cons.mp h with rfl | h
    · exact .tail _ (.head _)
    · exact .tail _ (.tail _ (.tail _ (.tail _ (.tail _ h))))
/-- what holds between the turns -/
inductive GmJ (x NA B0 : Addr) (a b : Str) (t1 t2 : Tok) (R : List (Addr × Obj)) (bl : List Blk) (t : Nat) (m' : Str → Option Value) (n' : List (Addr × Obj)) : Prop
  | mk (na : List Value) (nt : List (Addr × Obj)) (acc : List Blk) (i1 j1 k1 : Nat) (t3 t4 t5 : Tok) (c : Nat) (hm : HasL m' (gmLL x NA a b t1 t2 i1 j1 k1 t3 t4 t5)) (e : n' = (NA, listOf na.toArray c) :: (nt ++ R)) (h1 : ∀ r ∈ nt, r.1 ≠ B0 ∧ r.1 ≠ NA) (h2 : TV nt na acc) (h3 : na.length ≤ t) (h4 : t ≤ bl.length)
      (h5 : mrg 0 0 0 bl = acc ++ mrg i1 j1 k1 (bl.drop t))
theorem gmb_merge {w : World} {dp un : Nat} {fr : Option (List Env)} {gd : Option (List Code)} {s : Shared} {g : Heap} {mg mb : Str → Option Value} {L x NA B0 : Addr} {m : Str → Option Value} {R : List (Addr × Obj)} {bv : List Value} {bl : List Blk} {c1 c0 : Nat} {Q : Flow → Shared → Prop}
    (X : (K w.params).In g) (T : TopRead q (looseW q loose) mg mb g) {a b : Str} {t1 t2 t3 t4 t5 : Tok} (hBN : B0 ≠ NA) (hR : ∀ r ∈ R, r.1 ≠ B0 ∧ r.1 ≠ NA) (hbv : BV R bv bl) (hlen : bl.length < 1000)
    (hQ : ∀ h' tk m' na nt acc i1 j1 k1 t3 t4 t5 c, Fr g L h' m' → HasL m' (gmLL x NA a b t1 t2 i1 j1 k1 t3 t4 t5) → News g L h' ((B0, listOf bv.toArray c1) :: (NA, listOf na.toArray c) :: (nt ++ R)) → (∀ r ∈ nt, r.1 ≠ B0 ∧ r.1 ≠ NA) → TV nt na acc → na.length ≤ bl.length →
      mrg 0 0 0 bl = acc ++ (if k1 = 0 then [] else [(i1, j1, k1)]) → Q .next { s with heap := h', toks := tk })
    (F : Fr g L s.heap m) (hm : HasL m (("matching_blocks", .ref B0) :: gmLL x NA a b t1 t2 0 0 0 t3 t4 t5)) (N : News g L s.heap ((B0, listOf bv.toArray c1) :: (NA, listOf #[] c0) :: R)) :
    wpAny (model pw w) ((AR dp un fr gd).deeper (gmbEnv L)) (exec (gmbSt 9) (gmbEnv L)) Q (fun _ _ => False) s := by
  conv in exec _ _ => arg 1; whnf
  delta gmbEnv
  conv in (occs := *) envX _ _ _ _ _ _ => all_goals (arg 2; whnf)
  have em := ov_of hm
  rw [em] at F
  refine For_invT g ?_ (by intro x; rfl)
  k_steps
  rw [← em] at F
  refine loopListT (kl := [(B0, listOf bv.toArray c1)]) rfl (.inr ⟨_, .head _⟩) (News.isList N (.head _)) F (news := (NA, listOf #[] c0) :: R) N (fun p hp o ho => ?_) (GmJ x NA B0 a b t1 t2 R bl) ⟨[], [], [], 0, 0, 0, t3, t4, t5, c0, hm.2, rfl, by simp, .nil, Nat.le_refl _, Nat.zero_le _, by simp⟩ ?_ ?_
  · rw [List.mem_singleton.mp ho]
    rcases List.mem_cons.mp hp with rfl | hp
    · exact hBN.symm
    · exact (hR p hp).1
  · rintro t v m₁ news₁ s₁ I oI hv ⟨na, nt, acc, i1, j1, k1, t3', t4', t5', c, hm', rfl, hnt, htv, hna, htl, hmr⟩ hdis hlt F₁ N₁
    obtain ⟨⟨i2, j2, k2⟩, hbl, ⟨am, d, u1, u2, u3, rfl, hmem⟩⟩ := All2.at hbv (i := t) (x := v) (by simpa using hv)
    clear hv F N hm em
    have em := ov_of hm'
    rw [em] at F₁
    have hmm : News g L s₁.heap ((I, oI) :: (B0, listOf bv.toArray c1) :: (NA, listOf na.toArray c) :: (nt ++ R)) := N₁
    clear N₁
    refine assignN_match F₁ hmm (X.keeps F₁.keep) ⟨d, (hmm _ (.tail _ (.tail _ (.tail _ (List.mem_append_right _ hmem))))).1⟩ rfl (by rfl) (by rfl) fun h5 F5 N5 => ?_
    clear F₁ hmm
    have htl' : t < bl.length := (List.getElem?_eq_some_iff.mp hbl).1
    have hdr : bl.drop t = (i2, j2, k2) :: bl.drop (t + 1) := by
      rw [List.drop_eq_getElem_cons htl', (List.getElem?_eq_some_iff.mp hbl).2]
    rw [hdr] at hmr
    have hd0 : ∀ c', ∀ p ∈ (NA, c') :: (nt ++ R), ∀ o ∈ [(I, oI), (B0, listOf bv.toArray c1)], p.1 ≠ o.1 := fun c' p hp o ho => by
      rcases List.mem_cons.mp hp with rfl | hp
      · exact hdis (NA, listOf na.toArray c) (.head _) o ho
      · exact hdis p (.tail _ hp) o ho
    k_steps
    · rename Fr _ _ _ _ => F6
      rename News _ _ _ _ => N6
      refine TurnT.intro F6 N6 (hd0 _) ⟨na, nt, acc, i1, j1, k1 + k2, _, _, _, c, ⟨rfl, rfl, rfl, rfl, rfl, rfl, rfl, trivial⟩, rfl, hnt, htv, by lia, by lia, ?_⟩
      rw [hmr]; simp only [mrg_cons]; rw [if_pos (by dsimp only at *; lia)]
    · rename_i D1 _ F6 N6 lt1
      refine append_K F6 N6 (Upd.tail (Nat.ne_of_gt lt1.2.2.1) (Upd.tail (hd0 (listOf #[] 0) _ (.head _) _ (.head _)).symm (Upd.tail hBN (Upd.head (fun r hr => (List.mem_append.mp hr).elim (fun h => (hnt r h).2) fun h => (hR r h).2))))) (fun h7 F7 N7 => ?_) (by have : sizeLine = 16777216 := rfl; simp; lia)
      rw [List.push_toArray] at N7
      clear F6 N6
      k_steps
      rename Fr _ _ _ _ => F8
      rename News _ _ _ _ => N8
      refine TurnT.intro (news' := (NA, listOf (na ++ [Value.ref D1]).toArray (c + 1)) :: (((D1, tupO #[.int i1 t3', .int j1 t4', .int k1 t5']) :: nt) ++ R)) F8 (News.sub N8 fun r hr => ?_) (fun p hp o ho => ?_) ⟨na ++ [.ref D1], _, acc ++ [(i1, j1, k1)], i2, j2, k2, _, _, _, _, ⟨rfl, rfl, rfl, rfl, rfl, rfl, rfl, trivial⟩, rfl, fun r hr => ?_, forall2_join (TV.more htv fun r hr => .tail _ hr) (.cons ⟨D1, _, _, _, rfl, .head _⟩ .nil), by simp; lia, by lia, ?_⟩
      · exact gmM_in hr
      · rcases List.mem_cons.mp hp with h | hp
        · exact hd0 p.2 p (by rw [h]; exact .head _) o ho
        · rcases List.mem_cons.mp hp with rfl | hp
          · rcases List.mem_cons.mp ho with rfl | ho
            · exact Nat.ne_of_gt lt1.1
            · rw [List.mem_singleton.mp ho]; exact Nat.ne_of_gt lt1.2.1
          · exact hd0 (listOf #[] 0) p (.tail _ hp) o ho
      · rcases List.mem_cons.mp hr with rfl | hr
        · exact ⟨Nat.ne_of_gt lt1.2.1, Nat.ne_of_gt lt1.2.2.1⟩
        · exact hnt r hr
      · rw [hmr]; simp only [mrg_cons]; rw [if_neg (by dsimp only at *; lia), if_neg (by lia)]; simp
    · rename Fr _ _ _ _ => F6
      rename News _ _ _ _ => N6
      refine TurnT.intro F6 (News.sub N6 fun r hr => .tail _ hr) (hd0 _) ⟨na, nt, acc, i2, j2, k2, _, _, _, c, ⟨rfl, rfl, rfl, rfl, rfl, rfl, rfl, trivial⟩, rfl, hnt, htv, by lia, by lia, ?_⟩
      rw [hmr]; simp only [mrg_cons]; rw [if_neg (by dsimp only at *; lia), if_pos (by lia)]; simp
    · rename_i D1 _ F6 N6 lt1
      refine append_K F6 N6 (Upd.tail (Nat.ne_of_gt lt1.2.2.1) (Upd.tail (hd0 (listOf #[] 0) _ (.head _) _ (.head _)).symm (Upd.tail hBN (Upd.head (fun r hr => (List.mem_append.mp hr).elim (fun h => (hnt r h).2) fun h => (hR r h).2))))) (fun h7 F7 N7 => ?_) (by have : sizeLine = 16777216 := rfl; simp; lia)
      rw [List.push_toArray] at N7
      clear F6 N6
      k_steps
      rename Fr _ _ _ _ => F8
      rename News _ _ _ _ => N8
      refine TurnT.intro (news' := (NA, listOf (na ++ [Value.ref D1]).toArray (c + 1)) :: (((D1, tupO #[.int i1 t3', .int j1 t4', .int k1 t5']) :: nt) ++ R)) F8 (News.sub N8 fun r hr => ?_) (fun p hp o ho => ?_) ⟨na ++ [.ref D1], _, acc ++ [(i1, j1, k1)], i2, j2, k2, _, _, _, _, ⟨rfl, rfl, rfl, rfl, rfl, rfl, rfl, trivial⟩, rfl, fun r hr => ?_, forall2_join (TV.more htv fun r hr => .tail _ hr) (.cons ⟨D1, _, _, _, rfl, .head _⟩ .nil), by simp; lia, by lia, ?_⟩
      · exact gmM_in hr
      · rcases List.mem_cons.mp hp with h | hp
        · exact hd0 p.2 p (by rw [h]; exact .head _) o ho
        · rcases List.mem_cons.mp hp with rfl | hp
          · rcases List.mem_cons.mp ho with rfl | ho
            · exact Nat.ne_of_gt lt1.1
            · rw [List.mem_singleton.mp ho]; exact Nat.ne_of_gt lt1.2.1
          · exact hd0 (listOf #[] 0) p (.tail _ hp) o ho
      · rcases List.mem_cons.mp hr with rfl | hr
        · exact ⟨Nat.ne_of_gt lt1.2.1, Nat.ne_of_gt lt1.2.2.1⟩
        · exact hnt r hr
      · rw [hmr]; simp only [mrg_cons]; rw [if_neg (by dsimp only at *; lia), if_neg (by lia)]; simp
    · rename Fr _ _ _ _ => F6
      rename News _ _ _ _ => N6
      refine TurnT.intro F6 (News.sub N6 fun r hr => .tail _ hr) (hd0 _) ⟨na, nt, acc, i2, j2, k2, _, _, _, c, ⟨rfl, rfl, rfl, rfl, rfl, rfl, rfl, trivial⟩, rfl, hnt, htv, by lia, by lia, ?_⟩
      rw [hmr]; simp only [mrg_cons]; rw [if_neg (by dsimp only at *; lia), if_pos (by lia)]; simp
  · rintro h' tk m' news' F' N' hd ⟨na, nt, acc, i1, j1, k1, t3', t4', t5', c, hm', rfl, hnt, htv, hna, htl, hmr⟩
    refine hQ h' tk m' na nt acc i1 j1 k1 t3' t4' t5' c F' hm' N' hnt htv ?_ ?_
    · have := hbv.len; simp at hna; lia
    · have := hbv.len
      rw [hmr, List.size_toArray, this, List.drop_length]; rfl
end Mine
end
section
open PySem PySem.W PyProof.Rows PySem.Calls PySem.Spec
set_option Elab.async false
set_option maxRecDepth 1000000
set_option maxHeartbeats 8000000
namespace Mine
/-! ## the blocks sorted -/
noncomputable abbrev blk0 : Blk := (0, 0, 0)
theorem getD_range {α : Type} (d : α) (l : List α) : (List.range l.length).map (fun i => l.getD i d) = l := by
  apply List.ext_getElem
  · simp
  · intro i h1 h2
    simp only [List.getElem_map, List.getElem_range]
    rw [List.getD_eq_getElem?_getD, List.getElem?_eq_getElem h2]; rfl
theorem sorted_eq {bs bl : List Blk} (hp : bl.Perm bs) (hs : bl.Pairwise fun x y => x.1 < y.1) {p : Array Nat} (hP : KSt.IsP bs.length p) (hA : KSt.Asc (fun i => ((bs.getD i blk0).1 : Int)) p bs.length) :
    p.toList.map (fun i => bs.getD i blk0) = bl := by
  have h1 : (p.toList.map fun i => bs.getD i blk0).Perm bl := by
    refine ((hP.toList.map fun i => bs.getD i blk0).trans ?_).trans hp.symm
    rw [getD_range]
  have hsz := hP.size
  refine List.Perm.eq_of_pairwise (le := fun x y : Blk => x.1 < y.1) (fun a b _ _ h1 h2 => absurd h1 (by omega)) ?_ hs h1
  rw [List.pairwise_iff_getElem]
  intro i j hi hj hij
  simp only [List.length_map, Array.length_toList] at hi hj
  simp only [List.getElem_map, Array.getElem_toList]
  have := hA.all (j - i - 1) i (by omega)
  rw [show i + (j - i - 1) + 1 = j by omega] at this
  unfold KSt.G at this
  rw [show p.getD i 0 = p[i] by simp [hi], show p.getD j 0 = p[j] by simp [hj]] at this
  omega
theorem BV.pick {rest : List (Addr × Obj)} {bv : List Value} {bs : List Blk} (h : BV rest bv bs) : ∀ l : List Nat, (∀ i ∈ l, i < bs.length) → BV rest (l.map fun i => bv.getD i .none) (l.map fun i => bs.getD i blk0)
  | [], _ => .nil
  | i :: l, hl => by
    have hi := hl i (.head _)
    have hlen := h.len
    obtain ⟨y, e1, e2⟩ := All2.at h (i := i) (x := bv[i]'(by omega)) (List.getElem?_eq_getElem (by omega))
    refine .cons ?_ (BV.pick h l fun j hj => hl j (.tail _ hj))
    have a1 : bv.getD i .none = bv[i]'(by omega) := by rw [List.getD_eq_getElem?_getD, List.getElem?_eq_getElem (by omega)]; rfl
    have a2 : bs.getD i blk0 = y := by rw [List.getD_eq_getElem?_getD, e1]; rfl
    dsimp only
    rw [a1, a2]
    exact e2
theorem firsts_inj {bs bl : List Blk} (hp : bl.Perm bs) (hs : bl.Pairwise fun x y => x.1 < y.1) (i j : Nat) (hi : i < bs.length) (hj : j < bs.length) (e : ((bs.getD i blk0).1 : Int) = ((bs.getD j blk0).1 : Int)) : i = j := by
  have h1 : (bs.map (·.1)).Nodup := by
    have : (bl.map (·.1)).Nodup := by
      rw [List.nodup_iff_pairwise_ne, List.pairwise_map]
      exact hs.imp fun h => by omega
    exact (hp.map _).nodup_iff.mp this
  rw [List.getD_eq_getElem?_getD, List.getElem?_eq_getElem hi, List.getD_eq_getElem?_getD, List.getElem?_eq_getElem hj] at e
  simp only [Option.getD_some] at e
  exact (List.getElem_inj (h₀ := by simpa using hi) (h₁ := by simpa using hj) h1).mp (by simp only [List.getElem_map]; omega)
end Mine
end
section
open PySem PySem.W PyProof.Rows PySem.Calls PySem.Spec
set_option Elab.async false
set_option maxRecDepth 1000000
set_option maxHeartbeats 8000000
namespace Mine
theorem regGME (P : Params) : K P = [] ∨ PySem.Challenge.rw_kl0396_01.name = PySem.Challenge.rw_kl0396_01.name := by
  k_fill
  exact .inr rfl
theorem all2_of_idx {α β : Type} {R : α → β → Prop} {l : List α} : ∀ {m : List β}, l.length = m.length → (∀ (i : Nat) x y, l[i]? = some x → m[i]? = some y → R x y) → All2 R l m := by
  induction l with
  | nil =>
    intro m h _
    rw [List.eq_nil_of_length_eq_zero h.symm]; exact .nil
  | cons x l ih =>
    intro m h f
    cases m with
    | nil => exact absurd h (Nat.succ_ne_zero _)
    | cons y m => exact .cons (f 0 x y rfl rfl) (ih (Nat.succ.inj h) fun i a b ha hb => f (i + 1) a b ha hb)
/-- Matches: in the ledger's part, or in the base -/
noncomputable def MVl (g : Heap) (nw : List (Addr × Obj)) : List Value → List Blk → Prop := All2 fun v p => ∃ a d t1 t2 t3, v = .ref a ∧ ((a, mObj d #[.int p.1 t1, .int p.2.1 t2, .int p.2.2 t3]) ∈ nw ∨ g.get? a = some (mObj d #[.int p.1 t1, .int p.2.1 t2, .int p.2.2 t3]))
theorem MVl.of {g h : Heap} (hk : ∀ b o, g.get? b = some o → h.get? b = some o) {l : List Value} {bl : List Blk} (H : All2 (fun v (p : Blk) => ∃ a t1 t2 t3, v = .ref a ∧ IsM h a #[.int p.1 t1, .int p.2.1 t2, .int p.2.2 t3]) l bl) :
    ∃ nw, (∀ r ∈ nw, h.get? r.1 = some r.2 ∧ g.get? r.1 = none ∧ ∃ d its, r.2 = mObj d its) ∧ MVl g nw l bl := by
  induction H with
  | nil => exact ⟨[], by simp, .nil⟩
  | cons hx _ ih =>
    obtain ⟨nw, h1, h2⟩ := ih
    obtain ⟨a, t1, t2, t3, rfl, d, hm⟩ := hx
    cases e : g.get? a with
    | none =>
      refine ⟨(a, _) :: nw, fun r hr => ?_, .cons ⟨a, d, t1, t2, t3, rfl, .inl (.head _)⟩ (h2.imp fun _ _ h => h.imp fun _ h => h.imp fun _ h => h.imp fun _ h => h.imp fun _ h => h.imp fun _ h => ⟨h.1, h.2.imp (fun h => .tail _ h) id⟩)⟩
      rcases List.mem_cons.mp hr with rfl | hr
      · exact ⟨hm, e, d, _, rfl⟩
      · exact h1 r hr
    | some o =>
      have := hk _ _ e
      rw [hm] at this
      cases this
      exact ⟨nw, h1, .cons ⟨a, d, t1, t2, t3, rfl, .inr e⟩ h2⟩
noncomputable def tripAt (h : Heap) (l : List Value) (i : Nat) : Array Value := match l[i]? with
  | some (.ref a) => (match h.get? a with | some ⟨_, _, .seq vs _, _⟩ => vs | _ => #[])
  | _ => #[]
theorem tripAt_of {h : Heap} {l : List Value} {i : Nat} {a : Addr} {vs : Array Value} (e : l[i]? = some (.ref a)) (ho : h.get? a = some (tupO vs)) : tripAt h l i = vs := by
  unfold tripAt; rw [e]; simp only; rw [ho]
local macro_rules | `(tactic| walk_at $s:str) => stopAt "setAttr ref" s
noncomputable abbrev gtLL (x NA : Addr) (a b : Str) (t1 t2 : Tok) : List (Str × Value) := [("non_adjacent", .ref NA), ("self", .ref x), ("la", .int a.cps.size t1), ("lb", .int b.cps.size t2)]
theorem gmb_tail {w : World} {dp un : Nat} {fr : Option (List Env)} {gd : Option (List Code)} {s : Shared} {g : Heap} {mg mb : Str → Option Value} {L x NA : Addr} {m : Str → Option Value} {R : List (Addr × Obj)} {na : List Value} {acc : List Blk} {c0 : Nat} {Q : Flow → Shared → Prop}
    (X : (K w.params).In g) (T : TopRead q (looseW q loose) mg mb g) {dx : Addr} {kk : List Tok} {isj aj op bp : Value} {a b : Str} {ta tb t1 t2 : Tok} {db sj : Addr} {n : Nat} (hd : dp < 399) (hx : x ≠ NA ∧ dx ≠ NA) (hR : ∀ r ∈ R, r.1 ≠ NA) (hna : TV R na acc) (hlen : na.length < 900)
    (hQ : ∀ h' tk m' S lacc c nw, Fr g L h' m' → News g L h' ((S, lstO lacc c) :: (x, instObj 242 dx) :: (dx, dictOf (smEs w.params kk isj a b ta tb aj (.ref S) op (.ref db) (.ref sj) bp) n) :: nw) → MVl g nw lacc.toList (acc ++ [(a.cps.size, b.cps.size, 0)]) → S ≠ x ∧ S ≠ dx → Q (.ret (.ref S)) { s with heap := h', toks := tk })
    (F : Fr g L s.heap m) (hm : HasL m (gtLL x NA a b t1 t2)) (N : News g L s.heap ((NA, listOf na.toArray c0) :: (x, instObj 242 dx) :: (dx, dictOf (smEs w.params kk isj a b ta tb aj .none op (.ref db) (.ref sj) bp) n) :: R)) :
    wpAny (model pw w) ((AR dp un fr gd).deeper (gmbEnv L)) (execs [gmbSt 11, gmbSt 12, gmbSt 13] (gmbEnv L)) Q (fun _ _ => False) s := by
  conv in gmbSt 11 => whnf
  conv in gmbSt 12 => whnf
  conv in gmbSt 13 => whnf
  delta gmbEnv
  conv in (occs := *) envX _ _ _ _ _ _ => all_goals (arg 2; whnf)
  have em := ov_of hm
  rw [em] at F
  k_steps
  rename_i D0 _ F1 N1 lt1
  refine append_K F1 N1 (Upd.tail (Nat.ne_of_gt lt1.1) (Upd.head fun r hr => by
    simp only [List.mem_cons] at hr
    rcases hr with rfl | rfl | hr
    · exact hx.1
    · exact hx.2
    · exact hR r hr)) (fun h2 F2 N2 => ?_) (by have : sizeLine = 16777216 := rfl; simp; lia)
  rw [List.push_toArray] at N2
  clear F1 N1
  k_steps
  rename_i q0 _ F3 N3 lt3
  have hnaT : TV ((q0, methodObj (.ref 89) (.ref 135)) :: (D0, tupO #[.int a.cps.size t1, .int b.cps.size t2, .int (0 : Nat) s.toks]) :: (NA, listOf (na ++ [Value.ref D0]).toArray (c0 + 1)) :: (x, instObj 242 dx) :: (dx, dictOf (smEs w.params kk isj a b ta tb aj .none op (.ref db) (.ref sj) bp) n) :: R) (na ++ [Value.ref D0]) (acc ++ [(a.cps.size, b.cps.size, 0)]) :=
    forall2_join (hna.more fun r hr => .tail _ (.tail _ (.tail _ (.tail _ (.tail _ hr))))) (.cons ⟨D0, _, _, _, rfl, .tail _ (.head _)⟩ .nil)
  refine call_map (News.isList N3 (.tail _ (.tail _ (.head _)))) fun h4 I t it hk4 hI ht hit l1 l2 l3 => ?_
  have F4 := F3.kept hk4
  have hup : ∀ c, it ≤ c → g.get? c = none ∧ c ≠ L := fun c hc => by
    refine ⟨?_, ?_⟩
    · cases e : g.get? c with
      | none => rfl
      | some o => exact absurd (Heap.lt_size (F3.keep _ _ e)) (Nat.not_lt.mpr (Nat.le_trans l1 hc))
    · rintro rfl
      obtain ⟨oL, _, _, hL, _⟩ := F3.ns
      exact absurd (Heap.lt_size hL) (Nat.not_lt.mpr (Nat.le_trans l1 hc))
  have N4 : News g L h4 ((I, mapObj t (.ref q0)) :: (t, tupO #[.ref it]) :: (it, litObj NA 0) :: (q0, methodObj (.ref 89) (.ref 135)) :: (D0, tupO #[.int a.cps.size t1, .int b.cps.size t2, .int (0 : Nat) s.toks]) :: (NA, listOf (na ++ [Value.ref D0]).toArray (c0 + 1)) :: (x, instObj 242 dx) :: (dx, dictOf (smEs w.params kk isj a b ta tb aj .none op (.ref db) (.ref sj) bp) n) :: R) := fun r hr => by
    rcases List.mem_cons.mp hr with rfl | hr
    · exact ⟨hI, (hup _ (Nat.le_of_lt (Nat.lt_trans l2 l3))).2, (hup _ (Nat.le_of_lt (Nat.lt_trans l2 l3))).1⟩
    rcases List.mem_cons.mp hr with rfl | hr
    · exact ⟨ht, (hup _ (Nat.le_of_lt l2)).2, (hup _ (Nat.le_of_lt l2)).1⟩
    rcases List.mem_cons.mp hr with rfl | hr
    · exact ⟨hit, (hup _ (Nat.le_refl _)).2, (hup _ (Nat.le_refl _)).1⟩
    · exact ⟨hk4 _ _ (N3 r hr).1, (N3 r hr).2⟩
  have hitL : it ≠ L := (hup it (Nat.le_refl _)).2
  have hitg : g.get? it = none := (hup it (Nat.le_refl _)).1
  have hold : ∀ r ∈ (q0, methodObj (.ref 89) (.ref 135)) :: (D0, tupO #[.int a.cps.size t1, .int b.cps.size t2, .int (0 : Nat) s.toks]) :: (NA, listOf (na ++ [Value.ref D0]).toArray (c0 + 1)) :: (x, instObj 242 dx) :: (dx, dictOf (smEs w.params kk isj a b ta tb aj .none op (.ref db) (.ref sj) bp) n) :: R, r.1 ≠ it := fun r hr =>
    Nat.ne_of_lt (Nat.lt_of_lt_of_le (Heap.lt_size (N3 r hr).1) l1)
  clear F3 N3 hI ht hit
  k_steps
  refine list_make (trip := tripAt h4 (na ++ [Value.ref D0])) F4.keep hitg X T (by show dp + 1 < 900; lia) (N4 _ (.head _)).1 (N4 _ (.tail _ (.head _))).1 ⟨_, (N4 _ (.tail _ (.tail _ (.head _)))).1, rfl, rfl⟩ (N4 _ (.tail _ (.tail _ (.tail _ (.head _))))).1 (News.isList N4 (.tail _ (.tail _ (.tail _ (.tail _ (.tail _ (.head _)))))))
    ⟨Nat.ne_of_lt (Nat.lt_trans l2 l3), Nat.ne_of_lt l2, (hold _ (.tail _ (.tail _ (.head _)))).symm, (hold _ (.head _)).symm⟩ (by simp; lia) (fun i v hv => ?_) fun h5 tk5 S lacc c5 hk5 hS0 hS5 hsz hmd => ?_
  · obtain ⟨⟨bi, bj, bk⟩, _, a', u1, u2, u3, rfl, hmem⟩ := All2.at hnaT (i := i) (x := v) (by simpa using hv)
    have ho := (N4 _ (.tail _ (.tail _ (.tail _ hmem)))).1
    exact ⟨a', _, _, _, _, rfl, hold _ hmem, ho, tripAt_of (by simpa using hv) ho⟩
  · have F5 : Fr g L h5 (ov (gtLL x NA a b t1 t2) m) := ⟨F4.ns.at' fun o e => hk5 _ o hitL.symm e, fun b o e => hk5 b o (by rintro rfl; rw [hitg] at e; cases e) (F4.keep b o e), F4.above⟩
    have hlen5 : lacc.size = (na ++ [Value.ref D0]).length := by rw [hsz]; simp
    obtain ⟨nw, hnw, hmv⟩ := MVl.of (g := g) (h := h5) F5.keep (l := lacc.toList) (bl := acc ++ [(a.cps.size, b.cps.size, 0)]) (all2_of_idx (by have := hnaT.len; rw [Array.length_toList, hlen5, this]) fun i v p hv hp => by
      have hi : i < lacc.size := by have := (List.getElem?_eq_some_iff.mp hv).1; simpa using this
      obtain ⟨a', e1, _, e2⟩ := hmd i hi
      have e3 : v = .ref a' := by
        rw [Array.getElem?_toList, e1] at hv
        exact (Option.some.inj hv).symm
      obtain ⟨q', e4, a2, u1, u2, u3, e5, hmem⟩ := All2.at hnaT (i := i) (x := (na ++ [Value.ref D0])[i]'(by lia)) (List.getElem?_eq_getElem (by lia))
      have ho := (N4 _ (.tail _ (.tail _ (.tail _ hmem)))).1
      rw [hp] at e4
      cases e4
      rw [tripAt_of (by rw [List.getElem?_eq_getElem (by lia), e5]) ho] at e2
      exact ⟨a', u1, u2, u3, e3, e2⟩)
    have hSx : ∀ r ∈ (x, instObj 242 dx) :: (dx, dictOf (smEs w.params kk isj a b ta tb aj .none op (.ref db) (.ref sj) bp) n) :: R, S ≠ r.1 := fun r hr e => by
      have := (N4 r (.tail _ (.tail _ (.tail _ (.tail _ (.tail _ (.tail _ hr))))))).1
      rw [e] at hS0
      rw [hS0] at this; cases this
    have hLo : ∃ oL, h4.get? L = some oL := by obtain ⟨oL, _, _, hL, _⟩ := F4.ns; exact ⟨oL, hL⟩
    have hSL : S ≠ L := by
      rintro rfl
      obtain ⟨oL, hL⟩ := hLo
      rw [hS0] at hL; cases hL
    have hSg : g.get? S = none := by
      cases e : g.get? S with
      | none => rfl
      | some o => have := F4.keep _ _ e; rw [hS0] at this; cases this
    have N5 : News g L h5 ((S, lstO lacc c5) :: (x, instObj 242 dx) :: (dx, dictOf (smEs w.params kk isj a b ta tb aj .none op (.ref db) (.ref sj) bp) n) :: nw) := fun r hr => by
      rcases List.mem_cons.mp hr with rfl | hr
      · exact ⟨hS5, hSL, hSg⟩
      · rcases List.mem_cons.mp hr with rfl | hr
        · exact ⟨hk5 _ _ (hold _ (.tail _ (.tail _ (.tail _ (.head _))))) (N4 _ (.tail _ (.tail _ (.tail _ (.tail _ (.tail _ (.tail _ (.head _)))))))).1, (N4 _ (.tail _ (.tail _ (.tail _ (.tail _ (.tail _ (.tail _ (.head _)))))))).2⟩
        rcases List.mem_cons.mp hr with rfl | hr
        · exact ⟨hk5 _ _ (hold _ (.tail _ (.tail _ (.tail _ (.tail _ (.head _)))))) (N4 _ (.tail _ (.tail _ (.tail _ (.tail _ (.tail _ (.tail _ (.tail _ (.head _))))))))).1, (N4 _ (.tail _ (.tail _ (.tail _ (.tail _ (.tail _ (.tail _ (.tail _ (.head _))))))))).2⟩
        · obtain ⟨e1, e2, d, its, e3⟩ := hnw r hr
          refine ⟨e1, ?_, e2⟩
          rintro e
          obtain ⟨oL, _, _, hL, hc, _⟩ := F5.ns
          rw [← e, e1, e3] at hL
          cases hL
          cases hc
    have hxd : x ≠ dx := fun e => by
      have e1 := (N5 _ (.tail _ (.head _))).1
      have e2 := (N5 _ (.tail _ (.tail _ (.head _)))).1
      rw [e] at e1
      rw [e1] at e2; cases e2
    have hnd : ∀ r ∈ nw, r.1 ≠ dx := fun r hr e => by
      obtain ⟨e1, _, d, its, e3⟩ := hnw r hr
      have e2 := (N5 _ (.tail _ (.tail _ (.head _)))).1
      rw [e, e3] at e1
      rw [e1] at e2; cases e2
    clear F4 N4
    dsimp only
    k_steps
    refine Stop.intro ?_
    refine' set_dict F5 X N5 (InstAt.of_news N5 (.tail _ (.head _)) (.tail _ (.tail _ (.head _)))) ?k5 ?k6 ?k7 ?k8 ?k9 ?k10 ?k11 ?k12 ?k13 ?_
    case k5 => exact rfl
    case k6 => k_is
    case k7 => k_is
    case k8 => k_is
    case k9 => k_is
    case k10 => k_get
    case k11 => exact (show (putL _ _ _ _ _, putN _ _ _) = (smEs w.params kk isj a b ta tb aj (.ref S) op (.ref db) (.ref sj) bp, n) from by kernel_rfl)
    case k12 => exact Upd.tail (hSx _ (.tail _ (.head _))) (Upd.tail hxd (Upd.head hnd))
    case k13 => exact Nat.le_of_ble_eq_true rfl
    intro h6 F6 N6
    clear F5 N5
    k_steps
    refine hQ _ _ _ S lacc c5 nw F6 N6 hmv ⟨hSx _ (.head _), hSx _ (.tail _ (.head _))⟩
section
local macro_rules | `(tactic| walk_at $s:str) => stopAt "execs cons" s
theorem gmb_end {w : World} {dp un : Nat} {fr : Option (List Env)} {gd : Option (List Code)} {s : Shared} {g : Heap} {mg mb : Str → Option Value} {L x NA : Addr} {m : Str → Option Value} {R : List (Addr × Obj)} {na : List Value} {acc : List Blk} {c0 : Nat} {Q : Flow → Shared → Prop}
    (X : (K w.params).In g) (T : TopRead q (looseW q loose) mg mb g) {dx : Addr} {kk : List Tok} {isj aj op bp : Value} {a b : Str} {ta tb t1 t2 t3 t4 t5 : Tok} {db sj : Addr} {n i1 j1 k1 : Nat} (hd : dp < 399) (hx : x ≠ NA ∧ dx ≠ NA) (hR : ∀ r ∈ R, r.1 ≠ NA) (hna : TV R na acc) (hlen : na.length < 800)
    (hQ : ∀ h' tk m' S lacc c nw, Fr g L h' m' → News g L h' ((S, lstO lacc c) :: (x, instObj 242 dx) :: (dx, dictOf (smEs w.params kk isj a b ta tb aj (.ref S) op (.ref db) (.ref sj) bp) n) :: nw) → MVl g nw lacc.toList ((acc ++ if k1 = 0 then [] else [(i1, j1, k1)]) ++ [(a.cps.size, b.cps.size, 0)]) → S ≠ x ∧ S ≠ dx → Q (.ret (.ref S)) { s with heap := h', toks := tk })
    (F : Fr g L s.heap m) (hm : HasL m (gmLL x NA a b t1 t2 i1 j1 k1 t3 t4 t5)) (N : News g L s.heap ((NA, listOf na.toArray c0) :: (x, instObj 242 dx) :: (dx, dictOf (smEs w.params kk isj a b ta tb aj .none op (.ref db) (.ref sj) bp) n) :: R)) :
    wpAny (model pw w) ((AR dp un fr gd).deeper (gmbEnv L)) (execs [gmbSt 10, gmbSt 11, gmbSt 12, gmbSt 13] (gmbEnv L)) Q (fun _ _ => False) s := by
  conv in gmbSt 10 => whnf
  delta gmbEnv
  conv in (occs := *) envX _ _ _ _ _ _ => all_goals (arg 2; whnf)
  have em := ov_of hm
  rw [em] at F
  refine wpAny_execs_cons ?_
  k_steps
  · refine Stop.intro ?_
    refine wpAny_execs_cons ?_
    k_steps
    rename_i D1 _ F1 N1 lt1
    refine append_K F1 N1 (Upd.tail (Nat.ne_of_gt lt1.1) (Upd.head fun r hr => by
      simp only [List.mem_cons] at hr
      rcases hr with rfl | rfl | hr
      · exact hx.1
      · exact hx.2
      · exact hR r hr)) (fun h2 F2 N2 => ?_) (by have : sizeLine = 16777216 := rfl; simp; lia)
    rw [List.push_toArray] at N2
    clear F1 N1
    k_steps
    refine Stop.intro ?_
    refine gmb_tail (c0 := c0 + 1) (acc := acc ++ [(i1, j1, k1)]) (na := na ++ [Value.ref D1]) (R := (D1, tupO #[.int i1 t3, .int j1 t4, .int k1 t5]) :: R) (n := n) (dx := dx) (kk := kk) (isj := isj) (aj := aj) (op := op) (bp := bp) (ta := ta) (tb := tb) (db := db) (sj := sj) (t1 := t1) (t2 := t2) X T hd hx (fun r hr => ?_) (forall2_join (hna.more fun r hr => .tail _ hr) (.cons ⟨D1, _, _, _, rfl, .head _⟩ .nil)) (by simp; lia) (fun h' tk m' S lacc c nw F N hmv hS => ?_) F2 ⟨rfl, rfl, rfl, rfl, trivial⟩ (News.sub N2 fun r hr => ?_)
    · rcases List.mem_cons.mp hr with rfl | hr
      · exact Nat.ne_of_gt lt1.1
      · exact hR r hr
    · refine hQ h' tk m' S lacc c nw F N ?_ hS
      rw [if_neg (by lia)]; exact hmv
    · simp only [List.mem_cons] at hr ⊢
      rcases hr with h | h | h | h | h <;> (repeat first | exact h | exact .inl h | exact .inl (.inl h) | exact .inl (.inr h) | refine .inr ?_)
  · refine Stop.intro ?_
    refine gmb_tail (c0 := c0) (acc := acc) (na := na) (R := R) (n := n) (dx := dx) (kk := kk) (isj := isj) (aj := aj) (op := op) (bp := bp) (ta := ta) (tb := tb) (db := db) (sj := sj) (t1 := t1) (t2 := t2) X T hd hx hR hna (by lia) (fun h' tk m' S lacc c nw F N hmv hS => ?_) (by k_asm) ⟨rfl, rfl, rfl, rfl, trivial⟩ (by k_asm)
    refine hQ h' tk m' S lacc c nw F N ?_ hS
    rw [if_pos (by lia), List.append_nil]; exact hmv
end
end Mine
end
section
open PySem PySem.W PyProof.Rows PySem.Calls PySem.Spec
set_option Elab.async false
set_option maxRecDepth 1000000
set_option maxHeartbeats 8000000
namespace Mine
theorem regGM (P : Params) : K P = [] ∨ PySem.Challenge.rw_kl0396_01.name = PySem.Challenge.rw_kl0396_01.name := by
  k_fill
  exact .inr rfl
local macro_rules | `(tactic| walk_at $s:str) => stopAt "exec While|pyIter ref|call ref|call builtin:list.sort|exec For Tuple|call builtin:len" s
theorem len_str {w : World} {A : Around} {E : Value → Shared → Prop} {s : Shared} {x : Str} {t : Tok} {Q : Value → Shared → Prop} (hx : x.cps.size < 1000) (h : ∀ t' k, Q (.int (x.cps.size : Int) t') { s with toks := k }) :
    wpAny (model pw w) A (call (.builtin "len") [.str x t]) Q E s := SBL.len (by show (x.cps.size : Int) < _; lia) (h _ _)
theorem gmb {w : World} {dp un : Nat} {fr : Option (List Env)} {gd : Option (List Code)} {s : Shared} {R : Result → Shared → Prop} {g : Heap} {mg mb : Str → Option Value} {x dx : Addr} {k : List Tok} {isj aj op bp : Value} {a b : Str} {ta tb : Tok} {db sj : Addr} {n : Nat}
    (hkp : ∀ b o, g.get? b = some o → s.heap.get? b = some o) (X : (K w.params).In g) (T : TopRead q (looseW q loose) mg mb g)
    (N : Led g s.heap [(x, instObj 242 dx), (dx, dictOf (smEs w.params k isj a b ta tb aj .none op (.ref db) (.ref sj) bp) n)])
    {jk : Nat → Bool} {ses : Array (Int × Value)} {sn sm : Nat} {stb : SetTable} {S : Str → Bool} (hB : B2J w g db b jk) (hsj : g.get? sj = some (setObj ses sn stb)) (hS : g.SetOf (strKind pw w) sj S sm) (hjk : ∀ v, v < b.cps.size → S ⟨#[ch b v]⟩ = jk (ch b v))
    (ha : a.cps.size < 400) (hb : b.cps.size < 400) (hd : dp < 399) (hu : un < 300) (hbl : ∀ bl, RecP a b jk (0, a.cps.size, 0, b.cps.size) bl → 2 ≤ bl.length ∧ bl.length < 64 ∧ bl.Pairwise fun x y => x.1 < y.1)
    (hRes : ∀ h' tk S lacc c bl, (∀ b o, b ≠ x → b ≠ dx → s.heap.get? b = some o → h'.get? b = some o) → h'.get? x = some (instObj 242 dx) → h'.get? dx = some (dictOf (smEs w.params k isj a b ta tb aj (.ref S) op (.ref db) (.ref sj) bp) n) → h'.get? S = some (lstO lacc c) → S ≠ x ∧ S ≠ dx → s.heap.get? S = none →
      RecP a b jk (0, a.cps.size, 0, b.cps.size) bl → All2 (fun v (p : Blk) => ∃ a t1 t2 t3, v = .ref a ∧ IsM h' a #[.int p.1 t1, .int p.2.1 t2, .int p.2.2 t3]) lacc.toList (mrg 0 0 0 bl ++ [(a.cps.size, b.cps.size, 0)]) → R (.ok (.ret (.ref S))) { s with heap := h', toks := tk }) :
    codeAny (model pw w) (AR dp un fr gd) (.call (.ref 203) ⟨[.ref x], []⟩) R s := by
  refine enterL [("self", .ref x)] hkp X T N (by k_is) (by k_is) (Nat.lt_trans hd (by decide)) (by first | exact BindsTo.of_eq rfl | exact binds_K (X.keeps hkp) rfl (by k_is) rfl rfl rfl) (locs rfl) ?_ (by decide) rfl rfl rfl
  have hgx : g.get? x = none := (N _ (.head _)).2
  have hgd : g.get? dx = none := (N _ (.tail _ (.head _))).2
  clear X T N
  intro g' L h₁ hin hof hno X T F N hlt
  have hgg : ∀ b o, g.get? b = some o → g'.get? b = some o := fun b o e => hin b o (hkp b o e) fun hm => by
    simp only [List.map_cons, List.map_nil, List.mem_cons, List.not_mem_nil, or_false] at hm
    rcases hm with rfl | rfl
    · rw [hgx] at e; cases e
    · rw [hgd] at e; cases e
  have hsj' := hgg _ _ hsj
  have hB' := hB.keeps hgg
  have hS' := setOf_at hS hgg
  conv in execs _ _ => arg 1; whnf
  conv in (occs := *) envX _ _ _ _ _ _ => all_goals (arg 2; whnf)
  (try k_fold)
  k_steps
  refine Stop.intro ?_
  refine len_str (Nat.lt_trans ha (by decide)) fun t1 k1 => ?_
  k_steps
  refine Stop.intro ?_
  refine len_str (Nat.lt_trans hb (by decide)) fun t2 k2 => ?_
  k_steps
  refine Stop.intro ?_
  rename_i D1 _ l0 _ _ _ D0 _ ld0 Q0 _ lq _ B0 _ lb _ F1 N1
  refine gmb_while (dx := dx) (n := n) (ta := ta) (tb := tb) (kk := k) (isj := isj) (aj := aj) (op := op) (bp := bp) (c1 := 0) (c2 := 0) (Q0 := Q0) (B0 := B0) (t1 := t1) (t2 := t2) (rest := [(D0, tupO #[.int (0 : Nat) (k2 + 1 + 1), .int a.cps.size t1, .int (0 : Nat) (k2 + 1 + 1 + 1), .int b.cps.size t2]), (D1, tupO #[.int a.cps.size t1, .int b.cps.size t2])]) (qv := [.ref D0]) X T (Nat.ne_of_gt lb.1)
    ⟨Nat.ne_of_lt lq.2.2.1, Nat.ne_of_lt lq.2.2.2, Nat.ne_of_lt lb.2.2.2.1, Nat.ne_of_lt lb.2.2.2.2⟩ (fun r hr => ?_) hB' hsj' hS' hjk ha hb (by lia) (by lia) (.cons ⟨D0, _, _, _, _, rfl, .head _⟩ .nil) (fun h' tk m' bs bv c1 c2 rest' F2 hm2 N2 hrest' hbv hrec => ?_) F1 ⟨rfl, rfl, rfl, rfl, rfl, trivial⟩ (News.sub N1 fun r hr => ?_)
  · simp only [List.mem_cons, List.not_mem_nil, or_false] at hr
    rcases hr with rfl | rfl
    · exact ⟨Nat.ne_of_lt lq.1, Nat.ne_of_lt lb.2.1⟩
    · exact ⟨Nat.ne_of_lt lq.2.1, Nat.ne_of_lt lb.2.2.1⟩
  · obtain ⟨bl, hrec, hperm⟩ := hrec
    have em := ov_of hm2
    rw [em] at F2
    clear F1 N1
    obtain ⟨b2, b64, bsort⟩ := hbl bl hrec
    have hl1 := hbv.len
    have hl2 := hperm.length_eq
    k_steps
    refine Stop.intro ?_
    dsimp only
    refine sort_match (D := B0) (its := bv.toArray) (rest := (Q0, listOf #[] c2) :: (x, instObj 242 dx) :: (dx, dictOf (smEs w.params k isj a b ta tb aj .none op (.ref db) (.ref sj) bp) n) :: rest') (by show un + _ + 1 < 9900; lia) X F2 N2 (fun r hr => ?_) (fun i => ((bs.getD i blk0).1 : Int)) (fun i j hi hj e => firsts_inj hperm bsort i j (by simp at hi; lia) (by simp at hj; lia) e) (by simp; lia) (by simp; lia)
      (fun h F N i hi => ?_) fun h3 tk3 pp c3 F3 N3 hP hA => ?_
    · simp only [List.mem_cons] at hr
      rcases hr with rfl | rfl | rfl | hr
      · exact Nat.ne_of_lt lb.1
      · exact Nat.ne_of_lt lb.2.2.2.1
      · exact Nat.ne_of_lt lb.2.2.2.2
      · exact (hrest' r hr).2
    · have hi' : i < bv.length := by simpa using hi
      obtain ⟨y, e1, a1, d, u1, u2, u3, e2, hmem⟩ := All2.at hbv (i := i) (x := bv[i]) (List.getElem?_eq_getElem hi')
      refine ⟨a1, u1, .int y.2.1 u2, .int y.2.2 u3, ?_, d, ?_⟩
      · rw [List.getD_eq_getElem?_getD]
        show (bv[i]?).getD _ = _
        rw [List.getElem?_eq_getElem hi']; exact e2
      · rw [show bs.getD i blk0 = y by rw [List.getD_eq_getElem?_getD, e1]; rfl]
        exact (N _ (.tail _ (.tail _ (.tail _ hmem)))).1
    · clear F2 N2
      have hbv' : BV rest' (pp.toList.map fun i => bv.toArray.toList.getD i .none) bl := by
        have h1 : ∀ i ∈ pp.toList, i < bs.length := fun i hi => by
          have h3 := hP.toList.mem_iff.mp hi
          rw [List.mem_range] at h3
          have h4 : bv.toArray.toList.length = bv.length := rfl
          lia
        have h2 := hbv.pick pp.toList h1
        have hsz : bv.toArray.toList.length = bs.length := hl1
        rw [hsz] at hP hA
        rwa [sorted_eq hperm bsort hP hA] at h2
      k_steps
      rename_i NA _ lna _ F4 N4
      refine Stop.intro ?_
      refine gmb_merge (c1 := c3) (c0 := 0) (R := (Q0, listOf #[] c2) :: (x, instObj 242 dx) :: (dx, dictOf (smEs w.params k isj a b ta tb aj .none op (.ref db) (.ref sj) bp) n) :: rest') (a := a) (b := b) (t1 := t1) (t2 := t2) (x := x) (NA := NA) (B0 := B0) X T (Nat.ne_of_lt lna.1) (fun r hr => ?_) (BV.more hbv' fun r hr => .tail _ (.tail _ (.tail _ hr))) (by lia)
        (fun h' tk m' na nt acc i1 j1 k1 t3 t4 t5 c F5 hm5 N5 hnt htv hna hmr => ?_) F4 ⟨rfl, rfl, rfl, rfl, rfl, rfl, rfl, rfl, trivial⟩ (News.sub N4 fun r hr => ?_)
      · simp only [List.mem_cons] at hr
        rcases hr with rfl | rfl | rfl | hr
        · exact ⟨Nat.ne_of_lt lb.1, Nat.ne_of_lt lna.2.1⟩
        · exact ⟨Nat.ne_of_lt lb.2.2.2.1, Nat.ne_of_lt lna.2.2.1⟩
        · exact ⟨Nat.ne_of_lt lb.2.2.2.2, Nat.ne_of_lt lna.2.2.2.1⟩
        · exact ⟨(hrest' r hr).2, Nat.ne_of_lt (allLt_all _ lna.2.2.2.2 r hr)⟩
      · dsimp only
        have hxNA : x ≠ NA ∧ dx ≠ NA := ⟨Nat.ne_of_lt lna.2.2.1, Nat.ne_of_lt lna.2.2.2.1⟩
        refine gmb_end (c0 := c) (acc := acc) (na := na) (R := nt ++ ((Q0, listOf #[] c2) :: (x, instObj 242 dx) :: (dx, dictOf (smEs w.params k isj a b ta tb aj .none op (.ref db) (.ref sj) bp) n) :: rest')) (n := n) (dx := dx) (kk := k) (isj := isj) (aj := aj) (op := op) (bp := bp) (ta := ta) (tb := tb) (db := db) (sj := sj) (t1 := t1) (t2 := t2) X T (by lia) hxNA (fun r hr => ?_) (TV.more htv fun r hr => List.mem_append_left _ hr) (by lia) (fun h6 tk6 m6 S lacc c6 nw F6 N6 hmv hS => ?_) F5 hm5 (News.sub N5 fun r hr => ?_)
        · rcases List.mem_append.mp hr with hr | hr
          · exact (hnt r hr).2
          · simp only [List.mem_cons] at hr
            rcases hr with rfl | rfl | rfl | hr
            · exact Nat.ne_of_lt lna.2.1
            · exact hxNA.1
            · exact hxNA.2
            · exact Nat.ne_of_lt (allLt_all _ lna.2.2.2.2 r hr)
        · refine hRes h6 tk6 S lacc c6 bl (fun b' o hbx hbd e => F6.keep b' o (hin b' o e fun hm => ?_)) (N6 _ (.tail _ (.head _))).1 (N6 _ (.tail _ (.tail _ (.head _)))).1 (N6 _ (.head _)).1 hS ?_ hrec ?_
          · simp only [List.map_cons, List.map_nil, List.mem_cons, List.not_mem_nil, or_false] at hm
            exact hm.elim hbx hbd
          · cases e : s.heap.get? S with
            | none => rfl
            | some o =>
              have h1 := hin S o e fun hm => by
                simp only [List.map_cons, List.map_nil, List.mem_cons, List.not_mem_nil, or_false] at hm
                exact hm.elim hS.1 hS.2
              rw [(N6 _ (.head _)).2.2] at h1; cases h1
          · rw [hmr]
            refine hmv.imp fun v p h => ?_
            obtain ⟨a', d, u1, u2, u3, e, hor⟩ := h
            refine ⟨a', u1, u2, u3, e, d, ?_⟩
            rcases hor with hor | hor
            · exact (N6 _ (.tail _ (.tail _ (.tail _ hor)))).1
            · exact F6.keep _ _ hor
        · simp only [List.mem_cons, List.mem_append] at hr ⊢
          rcases hr with h | h | h | h | h | h | h | h <;> (repeat first | exact h | exact .inl h | exact .inl (.inl h) | exact .inl (.inr h) | refine .inr ?_)
      · simp only [List.mem_cons] at hr ⊢
        rcases hr with h | h | h | h | h | h <;> (repeat first | exact h | exact .inl h | exact .inl (.inl h) | exact .inl (.inr h) | refine .inr ?_)
  · simp only [List.mem_cons, List.not_mem_nil, or_false] at hr ⊢
    rcases hr with h | h | h | h | h | h <;> (repeat first | exact h | exact .inl h | exact .inl (.inl h) | exact .inl (.inr h) | refine .inr ?_)
end Mine
end
section
open PySem PySem.W PyProof.Rows PySem.Calls PySem.Spec
set_option Elab.async false
set_option maxRecDepth 1000000
set_option maxHeartbeats 8000000
namespace Mine
theorem regOP (P : Params) : K P = [] ∨ PySem.Challenge.rw_kl0396_01.name = PySem.Challenge.rw_kl0396_01.name := by
  k_fill
  exact .inr rfl
local macro_rules | `(tactic| walk_at $s:str) => stopAt "exec For Tuple|setAttr ref|call ref" s
/-! ## get_opcodes -/
noncomputable abbrev Opc := String × Nat × Nat × Nat × Nat
noncomputable def opcTag (i ai j bj : Nat) : List Opc := if i < ai ∧ j < bj then [("replace", i, ai, j, bj)] else if i < ai then [("delete", i, ai, j, bj)] else if j < bj then [("insert", i, ai, j, bj)] else []
noncomputable def opc (i j : Nat) : List Blk → List Opc
  | [] => []
  | b :: l => opcTag i b.1 j b.2.1 ++ ((if b.2.2 = 0 then [] else [("equal", b.1, b.1 + b.2.2, b.2.1, b.2.1 + b.2.2)]) ++ opc (b.1 + b.2.2) (b.2.1 + b.2.2) l)
theorem opc_nil {i j : Nat} : opc i j [] = [] := rfl
theorem opc_cons {i j : Nat} {b : Blk} {l : List Blk} : opc i j (b :: l) = opcTag i b.1 j b.2.1 ++ ((if b.2.2 = 0 then [] else [("equal", b.1, b.1 + b.2.2, b.2.1, b.2.1 + b.2.2)]) ++ opc (b.1 + b.2.2) (b.2.1 + b.2.2) l) := rfl
noncomputable abbrev opcO (p : Opc) (t0 t1 t2 t3 t4 : Tok) : Obj := tupO #[.str p.1 t0, .int p.2.1 t1, .int p.2.2.1 t2, .int p.2.2.2.1 t3, .int p.2.2.2.2 t4]
inductive IsOp (rest : List (Addr × Obj)) (v : Value) (p : Opc) : Prop
  | mk (a : Addr) (t0 t1 t2 t3 t4 : Tok) (e : v = .ref a) (hm : (a, opcO p t0 t1 t2 t3 t4) ∈ rest)
inductive NewOp (h h' : Heap) (v : Value) (p : Opc) : Prop
  | mk (a : Addr) (t0 t1 t2 t3 t4 : Tok) (e : v = .ref a) (h1 : h'.get? a = some (opcO p t0 t1 t2 t3 t4)) (h2 : h.get? a = none)
noncomputable def OV (rest : List (Addr × Obj)) : List Value → List Opc → Prop := All2 (IsOp rest)
theorem OV.more {r r' : List (Addr × Obj)} {l m} (h : OV r l m) (hs : ∀ p ∈ r, p ∈ r') : OV r' l m := h.imp fun _ _ h => by obtain ⟨a, t0, t1, t2, t3, t4, e, hm⟩ := h; exact ⟨a, t0, t1, t2, t3, t4, e, hs _ hm⟩
theorem opsh1 {g : Heap} {L : Addr} {h : Heap} {a b I S A : Addr × Obj} {R : List (Addr × Obj)} (N : News g L h (a :: b :: I :: S :: A :: R)) : News g L h (I :: S :: A :: ([a] ++ R)) := fun r hr => N r (by simp only [List.cons_append, List.nil_append, List.mem_cons] at hr ⊢; rcases hr with h | h | h | h | h <;> (repeat first | exact h | exact .inl h | exact .inl (.inl h) | exact .inl (.inr h) | refine .inr ?_))
theorem opsh2 {g : Heap} {L : Addr} {h : Heap} {a b c I S A : Addr × Obj} {R : List (Addr × Obj)} (N : News g L h (a :: b :: c :: I :: S :: A :: R)) : News g L h (I :: S :: A :: ([a, c] ++ R)) := fun r hr => N r (by simp only [List.cons_append, List.nil_append, List.mem_cons] at hr ⊢; rcases hr with h | h | h | h | h | h <;> (repeat first | exact h | exact .inl h | exact .inl (.inl h) | exact .inl (.inr h) | refine .inr ?_))
theorem opsh3 {g : Heap} {L : Addr} {h : Heap} {a b I S A : Addr × Obj} {R : List (Addr × Obj)} (N : News g L h (a :: b :: I :: S :: A :: R)) : News g L h (I :: S :: A :: ([b] ++ R)) := fun r hr => N r (by simp only [List.cons_append, List.nil_append, List.mem_cons] at hr ⊢; rcases hr with h | h | h | h | h <;> (repeat first | exact h | exact .inl h | exact .inl (.inl h) | exact .inl (.inr h) | refine .inr ?_))
noncomputable abbrev gopSt (i : Nat) : Stmt := sub (sub (top 5) 8) i
noncomputable abbrev gopEnv (L : Addr) : Env := envX "SequenceMatcher.get_opcodes" (scopeAt (sub (top 5) 8)) L 210 (.ref 209) []
local macro_rules | `(tactic| walk_at $s:str) => stopAt "truthy str" s
theorem truthyS {prog : Program} {w : World} {A : Around} {E : Value → Shared → Prop} {s : Shared} {x : Str} {t : Tok} {Q : Bool → Shared → Prop} {b : Bool} (e : ((x.length : Int) != 0) = b) (hl : x.length ≤ 16777216) (h : ∀ k, Q b { s with toks := k }) : wpAny (model prog w) A (PySem.truthy (.str x t)) Q E s :=
  PySem.P.truthy_str (by lia) (by rw [e]; exact h _)
theorem str_nil (x : Str) : x = "" ↔ x.cps.size = 0 := by
  constructor
  · rintro rfl; rfl
  · intro h
    obtain ⟨a⟩ := x
    have : a = #[] := Array.eq_empty_of_size_eq_zero h
    subst this; rfl
theorem gop_tail {w : World} {dp un : Nat} {fr : Option (List Env)} {gd : Option (List Code)} {s : Shared} {g : Heap} {mg mb : Str → Option Value} {L x A I S : Addr} {oI oS : Obj} {m : Str → Option Value} {R : List (Addr × Obj)} {an : List Value} {c i j ai bj sz : Nat} {tg : String} {t1 t2 t3 t4 t5 t6 : Tok} {Q : Flow → Shared → Prop}
    (X : (K w.params).In g) (T : TopRead q (looseW q loose) mg mb g) (hA : I ≠ A ∧ S ≠ A) (hR : ∀ r ∈ R, r.1 ≠ A) (hlen : an.length < 900) (hlt : (Str.ofString tg).length ≤ 16777216) (ht : opcTag i ai j bj = if Str.ofString tg = Str.ofString "" then [] else [(tg, i, ai, j, bj)])
    (hQ : ∀ h' tk m' nt vs c' t1 t2, Fr g L h' m' → HasL m' [("i", .int (ai + sz : Nat) t1), ("j", .int (bj + sz : Nat) t2), ("answer", .ref A), ("self", .ref x)] → News g L h' ((I, oI) :: (S, oS) :: (A, listOf (an ++ vs).toArray c') :: (nt ++ R)) → (∀ r ∈ nt, r.1 ≠ A ∧ r.1 ≠ S ∧ r.1 ≠ I) →
      OV nt vs (opcTag i ai j bj ++ (if sz = 0 then [] else [("equal", ai, ai + sz, bj, bj + sz)])) → vs.length ≤ 2 → Q .next { s with heap := h', toks := tk })
    (F : Fr g L s.heap m) (hm : HasL m [("tag", .str tg t6), ("i", .int i t1), ("j", .int j t2), ("answer", .ref A), ("ai", .int ai t3), ("bj", .int bj t4), ("size", .int sz t5), ("self", .ref x)]) (N : News g L s.heap ((I, oI) :: (S, oS) :: (A, listOf an.toArray c) :: R)) :
    wpAny (model pw w) ((AR dp un fr gd).deeper (gopEnv L)) (execs ((bodyAt (gopSt 4)).drop 2) (gopEnv L)) Q (fun _ _ => False) s := by
  conv in execs _ _ => arg 1; whnf
  delta gopEnv
  conv in (occs := *) envX _ _ _ _ _ _ => all_goals (arg 2; whnf)
  have em := ov_of hm
  rw [em] at F
  k_steps
  refine Stop.intro ?_
  by_cases he : Str.ofString tg = Str.ofString ""
  · rw [if_pos he] at ht
    refine truthyS (b := false) (by rw [he]; rfl) (by rw [he]; exact Nat.zero_le _) fun k6 => ?_
    k_steps
    · rename_i D2 _ lt2 _ _ _ _ D3 _ F8 N8 lt3
      refine append_K F8 N8 (Upd.tail (Nat.ne_of_gt lt3.2.2.2.1) (Upd.tail (Nat.ne_of_gt lt2.2.2.1) (Upd.tail hA.1 (Upd.tail hA.2 (Upd.head hR))))) (fun h9 F9 N9 => ?_) (by have : sizeLine = 16777216 := rfl; simp; lia)
      rw [List.push_toArray] at N9
      clear F8 N8
      k_steps
      refine hQ _ _ _ _ [.ref D3] _ _ _ F9 ⟨rfl, rfl, rfl, rfl, trivial⟩ (opsh1 N9) (fun r hr => ?_) ?_ (by simp)
      · simp only [List.mem_cons, List.not_mem_nil, or_false] at hr
        subst hr
        exact ⟨Nat.ne_of_gt lt3.2.2.2.1, Nat.ne_of_gt lt3.2.2.1, Nat.ne_of_gt lt3.2.1⟩
      · rw [ht, if_neg (by lia)]
        exact .cons ⟨D3, _, _, _, _, _, rfl, .head _⟩ .nil
    · rename Fr _ _ _ _ => F9
      rename News _ _ _ _ => N9
      refine hQ _ _ _ [] [] _ _ _ F9 ⟨rfl, rfl, rfl, rfl, trivial⟩ (by rw [List.append_nil]; exact News.sub N9 fun r hr => .tail _ hr) (fun r hr => nomatch hr) ?_ (by simp)
      rw [ht, if_pos (by lia)]
      exact .nil
  · rw [if_neg he] at ht
    refine truthyS (b := true) (bne_iff_ne.mpr fun e => he ((str_nil _).mpr (Int.ofNat.inj e))) hlt fun k6 => ?_
    k_steps
    rename_i D1 _ F6 N6 lt1
    refine append_K F6 N6 (Upd.tail (Nat.ne_of_gt lt1.2.2.1) (Upd.tail hA.1 (Upd.tail hA.2 (Upd.head hR)))) (fun h7 F7 N7 => ?_) (by have : sizeLine = 16777216 := rfl; simp; lia)
    rw [List.push_toArray] at N7
    clear F6 N6
    k_steps
    · rename_i D2 _ lt2 _ _ _ _ D3 _ F8 N8 lt3
      refine append_K F8 N8 (Upd.tail (Nat.ne_of_gt lt3.2.2.2.2.1) (Upd.tail (Nat.ne_of_gt lt2.2.2.2.1) (Upd.tail (Nat.ne_of_gt lt1.2.2.1) (Upd.tail hA.1 (Upd.tail hA.2 (Upd.head hR)))))) (fun h9 F9 N9 => ?_) (by have : sizeLine = 16777216 := rfl; simp; lia)
      rw [List.push_toArray] at N9
      clear F8 N8
      k_steps
      rw [List.append_assoc] at N9
      refine hQ _ _ _ _ [.ref D1, .ref D3] _ _ _ F9 ⟨rfl, rfl, rfl, rfl, trivial⟩ (opsh2 N9) (fun r hr => ?_) ?_ (by simp)
      · simp only [List.mem_cons, List.not_mem_nil, or_false] at hr
        rcases hr with rfl | rfl
        · exact ⟨Nat.ne_of_gt lt3.2.2.2.2.1, Nat.ne_of_gt lt3.2.2.2.1, Nat.ne_of_gt lt3.2.2.1⟩
        · exact ⟨Nat.ne_of_gt lt1.2.2.1, Nat.ne_of_gt lt1.2.1, Nat.ne_of_gt lt1.1⟩
      · rw [ht, if_neg (by lia)]
        exact .cons ⟨D1, _, _, _, _, _, rfl, .tail _ (.head _)⟩ (.cons ⟨D3, _, _, _, _, _, rfl, .head _⟩ .nil)
    · rename Fr _ _ _ _ => F9
      rename News _ _ _ _ => N9
      refine hQ _ _ _ _ [.ref D1] _ _ _ F9 ⟨rfl, rfl, rfl, rfl, trivial⟩ (opsh3 N9) (fun r hr => ?_) ?_ (by simp)
      · simp only [List.mem_cons, List.not_mem_nil, or_false] at hr
        subst hr
        exact ⟨Nat.ne_of_gt lt1.2.2.1, Nat.ne_of_gt lt1.2.1, Nat.ne_of_gt lt1.1⟩
      · rw [ht, if_pos (by lia)]
        exact .cons ⟨D1, _, _, _, _, _, rfl, .head _⟩ .nil
theorem gop_turn {w : World} {dp un : Nat} {fr : Option (List Env)} {gd : Option (List Code)} {s : Shared} {g : Heap} {mg mb : Str → Option Value} {L x A I S : Addr} {oI oS : Obj} {m : Str → Option Value} {R : List (Addr × Obj)} {an : List Value} {c i j ai bj sz : Nat} {t1 t2 t3 t4 t5 : Tok} {Q : Flow → Shared → Prop}
    (X : (K w.params).In g) (T : TopRead q (looseW q loose) mg mb g) (hA : I ≠ A ∧ S ≠ A) (hR : ∀ r ∈ R, r.1 ≠ A) (hlen : an.length < 900)
    (hQ : ∀ h' tk m' nt vs c' t1 t2, Fr g L h' m' → HasL m' [("i", .int (ai + sz : Nat) t1), ("j", .int (bj + sz : Nat) t2), ("answer", .ref A), ("self", .ref x)] → News g L h' ((I, oI) :: (S, oS) :: (A, listOf (an ++ vs).toArray c') :: (nt ++ R)) → (∀ r ∈ nt, r.1 ≠ A ∧ r.1 ≠ S ∧ r.1 ≠ I) →
      OV nt vs (opcTag i ai j bj ++ (if sz = 0 then [] else [("equal", ai, ai + sz, bj, bj + sz)])) → vs.length ≤ 2 → Q .next { s with heap := h', toks := tk })
    (F : Fr g L s.heap m) (hm : HasL m [("i", .int i t1), ("j", .int j t2), ("answer", .ref A), ("ai", .int ai t3), ("bj", .int bj t4), ("size", .int sz t5), ("self", .ref x)]) (N : News g L s.heap ((I, oI) :: (S, oS) :: (A, listOf an.toArray c) :: R)) :
    wpAny (model pw w) ((AR dp un fr gd).deeper (gopEnv L)) (execs (bodyAt (gopSt 4)) (gopEnv L)) Q (fun _ _ => False) s := by
  have hb : bodyAt (gopSt 4) = (bodyAt (gopSt 4)).getD 0 (top 0) :: (bodyAt (gopSt 4)).getD 1 (top 0) :: (bodyAt (gopSt 4)).drop 2 := by kernel_rfl
  rw [hb]
  generalize hT : (bodyAt (gopSt 4)).drop 2 = tl
  conv in List.getD _ 0 _ => whnf
  conv in List.getD _ 1 _ => whnf
  delta gopEnv
  conv in (occs := *) envX _ _ _ _ _ _ => all_goals (arg 2; whnf)
  have em := ov_of hm
  rw [em] at F
  k_steps
  · subst hT
    dsimp only
    rename Fr _ _ _ _ => F6
    rename News _ _ _ _ => N6
    refine gop_tail (tg := "replace") X T hA hR hlen (by decide) ?_ hQ F6 ⟨rfl, rfl, rfl, rfl, rfl, rfl, rfl, rfl, trivial⟩ N6
    unfold opcTag
    rw [if_pos ⟨by lia, by lia⟩, if_neg (by decide)]
  · subst hT
    dsimp only
    rename Fr _ _ _ _ => F6
    rename News _ _ _ _ => N6
    refine gop_tail (tg := "delete") X T hA hR hlen (by decide) ?_ hQ F6 ⟨rfl, rfl, rfl, rfl, rfl, rfl, rfl, rfl, trivial⟩ N6
    unfold opcTag
    rw [if_neg (by lia), if_pos (by lia), if_neg (by decide)]
  · subst hT
    dsimp only
    rename Fr _ _ _ _ => F6
    rename News _ _ _ _ => N6
    refine gop_tail (tg := "insert") X T hA hR hlen (by decide) ?_ hQ F6 ⟨rfl, rfl, rfl, rfl, rfl, rfl, rfl, rfl, trivial⟩ N6
    unfold opcTag
    rw [if_neg (by lia), if_neg (by lia), if_pos (by lia), if_neg (by decide)]
  · subst hT
    dsimp only
    rename Fr _ _ _ _ => F6
    rename News _ _ _ _ => N6
    refine gop_tail (tg := "") X T hA hR hlen (by decide) ?_ hQ F6 ⟨rfl, rfl, rfl, rfl, rfl, rfl, rfl, rfl, trivial⟩ N6
    unfold opcTag
    rw [if_neg (by lia), if_neg (by lia), if_neg (by lia), if_pos rfl]
section
local macro_rules | `(tactic| walk_at $s:str) => stopAt "execs cons" s
noncomputable def forTarget : Stmt → Expr
  | .For t _ _ _ _ => t
  | _ => .Name "x" ⟨0, 0, 0, 0⟩
theorem gop_step {w : World} {dp un : Nat} {fr : Option (List Env)} {gd : Option (List Code)} {s : Shared} {g : Heap} {mg mb : Str → Option Value} {L x A I S am : Addr} {oI oS : Obj} {m : Str → Option Value} {R : List (Addr × Obj)} {an : List Value} {c i j ai bj sz : Nat} {t1 t2 t3 t4 t5 : Tok} {Q : Flow → Shared → Prop}
    (X : (K w.params).In g) (T : TopRead q (looseW q loose) mg mb g) (hA : I ≠ A ∧ S ≠ A) (hR : ∀ r ∈ R, r.1 ≠ A) (hlen : an.length < 900) (hM : IsM s.heap am #[.int ai t3, .int bj t4, .int sz t5])
    (hQ : ∀ h' tk m' nt vs c' t1 t2, Fr g L h' m' → HasL m' [("i", .int (ai + sz : Nat) t1), ("j", .int (bj + sz : Nat) t2), ("answer", .ref A), ("self", .ref x)] → News g L h' ((I, oI) :: (S, oS) :: (A, listOf (an ++ vs).toArray c') :: (nt ++ R)) → (∀ r ∈ nt, r.1 ≠ A ∧ r.1 ≠ S ∧ r.1 ≠ I) →
      OV nt vs (opcTag i ai j bj ++ (if sz = 0 then [] else [("equal", ai, ai + sz, bj, bj + sz)])) → vs.length ≤ 2 → Q .next { s with heap := h', toks := tk })
    (F : Fr g L s.heap m) (hm : HasL m [("i", .int i t1), ("j", .int j t2), ("answer", .ref A), ("self", .ref x)]) (N : News g L s.heap ((I, oI) :: (S, oS) :: (A, listOf an.toArray c) :: R)) :
    wpAny (model pw w) ((AR dp un fr gd).deeper (gopEnv L)) (assign (forTarget (gopSt 4)) (gopEnv L) (.ref am)) (fun _ s₂ => wpAny (model pw w) ((AR dp un fr gd).deeper (gopEnv L)) (execs (bodyAt (gopSt 4)) (gopEnv L)) Q (fun _ _ => False) s₂) (fun _ _ => False) s := by
  conv in forTarget _ => whnf
  conv in bodyAt _ => whnf
  delta gopEnv
  conv in (occs := *) envX _ _ _ _ _ _ => all_goals (arg 2; whnf)
  have em := ov_of hm
  rw [em] at F
  refine assignN_match F N (X.keeps F.keep) hM rfl (by rfl) (by rfl) fun h5 F5 N5 => ?_
  clear F N
  k_steps
  refine Stop.intro ?_
  rename Fr _ _ _ _ => F6
  rename News _ _ _ _ => N6
  exact gop_turn X T hA hR hlen hQ F6 ⟨rfl, rfl, rfl, rfl, rfl, rfl, rfl, trivial⟩ N6
end
theorem mrg_len : ∀ (l : List Blk) i j k, (mrg i j k l).length ≤ l.length + 1
  | [], i, j, k => by rw [mrg_nil]; split <;> simp
  | b :: l, i, j, k => by
    rw [mrg_cons]
    split
    · have := mrg_len l i j (k + b.2.2); simp only [List.length_cons]; lia
    · have := mrg_len l b.1 b.2.1 b.2.2
      split <;> simp only [List.length_append, List.length_cons, List.length_nil] <;> lia
end Mine
end
section
open PySem PySem.W PyProof.Rows PySem.Calls PySem.Spec
set_option Elab.async false
set_option maxRecDepth 1000000
set_option maxHeartbeats 8000000
namespace Mine
/-! ## loops over pairs that enumerate hands out; the ledger may grow -/
/-- what holds between the turns -/
inductive FpJ (h₀ : Heap) (L : Addr) (s : Shared) (wr : List Addr) (n : Nat) (St : Nat → Heap → Prop) (J : Nat → (Str → Option Value) → List (Addr × Obj) → Prop) (k : Nat) (s' : Shared) : Prop
  | mk (h' : Heap) (tk : Nat) (m' : Str → Option Value) (news' : List (Addr × Obj)) (i : Nat) (e : s' = { s with heap := h', toks := tk }) (h1 : St i h') (h2 : Fr h₀ L h' m') (h3 : News h₀ L h' news') (h4 : ∀ p ∈ news', p.1 ∉ wr) (h5 : J i m' news') (h6 : i ≤ n) (h7 : k = n + 1 - i)
section
variable {w : World} {A : Around} {s : Shared} {env : Env} {h₀ : Heap}
theorem forLoop_pairU {R : Result → Shared → Prop} {xi xc : Str} {pk pv pt : Pos} {x1 : Nat} {body : List Stmt} {I : Addr} {fp wr : List Addr} {n : Nat} {Pt : Nat → Array Value → Prop} {St : Nat → Heap → Prop} {Mid : Nat → Addr → Heap → Prop}
    {P2 : Nat → Value → Value → Prop} {m : Str → Option Value} {news : List (Addr × Obj)} (hh : A.handled = none) (W : WalksT pw w A I fp wr n Pt St Mid) (h2 : ∀ i vals, Pt i vals → ∃ v0 v1, vals = #[v0, v1] ∧ P2 i v0 v1)
    (hxi : env.kindOf xi = some .local) (hxc : env.kindOf xc = some .local)
    (hp : (env.scope.kind == .class || (env.scope.kind == .module && env.locals != env.globals)) = false)
    (hLf : env.locals ∉ fp) (hwr : ∀ b ∈ wr, h₀.get? b = none) (hnw : ∀ p ∈ news, p.1 ∉ wr)
    (hst : St 0 s.heap) (F : Fr h₀ env.locals s.heap m) (N : News h₀ env.locals s.heap news)
    (J : Nat → (Str → Option Value) → List (Addr × Obj) → Prop) (h0 : J 0 m news)
    (step : ∀ i v0 v1 m₁ news₁ s₁ own, i < n → P2 i v0 v1 → J i m₁ news₁ → (∀ p ∈ news₁, p.1 ∉ wr) → (∀ p ∈ own, p.1 ∈ fp) → (∀ b ∈ fp, h₀.get? b = none → ∀ o, s₁.heap.get? b = some o → (b, o) ∈ own) → St (i + 1) s₁.heap →
      Fr h₀ env.locals s₁.heap (fun y => if y = xc then some v1 else if y = xi then some v0 else m₁ y) → News h₀ env.locals s₁.heap (own ++ news₁) →
      wpAny (model pw w) A (execs body env) (LoopStepU h₀ env.locals wr own (J (i + 1)) s₁) (notedBy (model pw w) A env fun e s' => R (.error e) s') s₁)
    (hR : ∀ h' tk m' news', Fr h₀ env.locals h' m' → News h₀ env.locals h' news' → (∀ p ∈ news', p.1 ∉ wr) → J n m' news' → R (.ok .next) { s with heap := h', toks := tk }) :
    codeAny (model pw w) A (.forLoop (.Tuple [.Name xi pk, .Name xc pv] x1 pt) (.ref I) body [] env) R s := by
  have hLw : env.locals ∉ wr := fun h => hLf (W.sub _ h)
  have old : ∀ b o, h₀.get? b = some o → b ∉ wr := fun b o e hb => by rw [hwr b hb] at e; cases e
  refine codeAny_forLoop_any
    (FpJ h₀ env.locals s wr n St J) ?_ (n + 1)
    ⟨s.heap, s.toks, m, news, 0, rfl, hst, F, N, hnw, h0, Nat.zero_le _, rfl⟩
  rintro k s' ⟨H, tk, m', news', i, rfl, hst', F', N', hnw', hJ, hi, rfl⟩
  have next : ∀ h₁ : Heap, (∀ b o, b ∉ wr → H.get? b = some o → h₁.get? b = some o) → Fr h₀ env.locals h₁ m' ∧ News h₀ env.locals h₁ news' := fun h₁ hk₁ =>
    ⟨⟨F'.ns.at' fun o e => hk₁ _ o hLw e, fun b o e => hk₁ b o (old b o e) (F'.keep b o e), F'.above⟩, fun p hp => ⟨hk₁ _ _ (hnw' p hp) (N' p hp).1, (N' p hp).2⟩⟩
  by_cases hlt : i < n
  · refine W.item i _ _ _ hlt hst' fun T vals h₁ tk₁ hPt _ hT hMid hk₁ => ?_
    obtain ⟨v0, v1, rfl, hP2⟩ := h2 i vals hPt
    refine W.go _ x1 pt i T _ _ _ hMid fun h₂ hst₂ hk₂ => ?_
    have ht₂ : h₂.IsTuple T #[v0, v1] := hT.at fun o e => hk₂ T o (W.apart i T h₁ hMid) e
    refine wpAny_assign_Tuple hh ht₂ rfl rfl fun h₃ hx₃ => ?_
    replace hx₃ : Heap.ExtBut h₂.objs.size h₂ h₃ := hx₃
    have up₃ : ∀ b o, h₂.get? b = some o → h₃.get? b = some o := fun b o x => hx₃ b o (Nat.ne_of_lt (Heap.lt_size x)) x
    obtain ⟨F₃, N₃⟩ := next h₃ fun b o hb x => up₃ b o (hk₂ b o hb (hk₁ b o hb x))
    show wpAny _ A (do holding [v1] (assign (.Name xi pk) env v0); do holding [] (assign (.Name xc pv) env v1); pure ()) _ _ _
    refine wpAny_bind (wpAny_holding (wpAny_assign_Name (wpAny_storeName_local hxi F₃.ns (fun h₄ hn₄ hs₄ => ?_) hp)))
    replace hs₄ : Heap.SameBut env.locals h₃ h₄ := hs₄
    have F₄ := F₃.set hn₄ hs₄
    refine wpAny_bind (wpAny_holding (wpAny_assign_Name (wpAny_storeName_local hxc F₄.ns (fun h₅ hn₅ hs₅ => wpAny_pure ?_) hp)))
    replace hs₅ : Heap.SameBut env.locals h₄ h₅ := hs₅
    have F₅ := F₄.set hn₅ hs₅
    have N₅ : News h₀ env.locals h₅ news' := (N₃.set hs₄).set hs₅
    have hst₅ : St (i + 1) h₅ := W.frame _ _ _ hst₂ fun b hb o e => hs₅.extBut b o (fun q => hLf (q ▸ hb)) (hs₄.extBut b o (fun q => hLf (q ▸ hb)) (up₃ b o e))
    refine wpAny_mono (step i v0 v1 m' news' _ (ownOf h₀ fp h₅) hlt hP2 hJ hnw' ownOf_sub (fun b hb hn o e => mem_ownOf hb hn e) hst₅ F₅ ((news_ownOf hLf).append N₅)) (fun f s₃ h₆ => ?_) fun _ _ e => e
    obtain ⟨rfl, h₆', tk₆, m₂, news₂, rfl, F₆, N₆, ha₆, hJ₆⟩ := h₆
    refine ⟨n + 1 - (i + 1), by lia, h₆', tk₆, m₂, news₂, i + 1, rfl, ?_, F₆, N₆.right, ha₆, hJ₆, hlt, rfl⟩
    refine W.frame _ _ _ hst₅ fun b hb o e => ?_
    cases hn : h₀.get? b with
    | some o₀ =>
      have : o₀ = o := by have q := F₅.keep b o₀ hn; rw [e] at q; exact (Option.some.inj q).symm
      exact this ▸ F₆.keep b o₀ hn
    | none => exact (N₆ _ (List.mem_append_left _ (mem_ownOf hb hn e))).1
  · have hin : i = n := by lia
    subst hin
    refine W.done _ _ _ hst' fun h₁ tk₁ hk₁ => wpAny_execs_nil ?_
    obtain ⟨F₁, N₁⟩ := next h₁ hk₁
    exact hR h₁ tk₁ m' news' F₁ N₁ hnw' hJ
end
inductive PairAtU (w : World) (A : Around) (h₀ : Heap) (env : Env) (xi xc : Str) (body : List Stmt) (Q : Flow → Shared → Prop) (E : Value → Shared → Prop) (it : Value) (s₂ : Shared) : Prop
  | mk (I : Addr) (fp wr : List Addr) (n : Nat) (Pt : Nat → Array Value → Prop) (St : Nat → Heap → Prop) (Mid : Nat → Addr → Heap → Prop) (P2 : Nat → Value → Value → Prop) (m : Str → Option Value) (news : List (Addr × Obj))
      (J : Nat → (Str → Option Value) → List (Addr × Obj) → Prop) (e : it = .ref I) (W : WalksT pw w A I fp wr n Pt St Mid) (h2 : ∀ i vals, Pt i vals → ∃ v0 v1, vals = #[v0, v1] ∧ P2 i v0 v1) (h3 : env.locals ∉ fp) (h4 : ∀ b ∈ wr, h₀.get? b = none) (h5 : ∀ p ∈ news, p.1 ∉ wr) (h6 : St 0 s₂.heap)
      (h7 : Fr h₀ env.locals s₂.heap m) (h8 : News h₀ env.locals s₂.heap news) (h9 : J 0 m news)
      (h10 : ∀ i v0 v1 m₁ news₁ s₁ own, i < n → P2 i v0 v1 → J i m₁ news₁ → (∀ p ∈ news₁, p.1 ∉ wr) → (∀ p ∈ own, p.1 ∈ fp) → (∀ b ∈ fp, h₀.get? b = none → ∀ o, s₁.heap.get? b = some o → (b, o) ∈ own) → St (i + 1) s₁.heap →
        Fr h₀ env.locals s₁.heap (fun y => if y = xc then some v1 else if y = xi then some v0 else m₁ y) → News h₀ env.locals s₁.heap (own ++ news₁) →
        wpAny (model pw w) A (execs body env) (LoopStepU h₀ env.locals wr own (J (i + 1)) s₁) E s₁)
      (h11 : ∀ h' tk m' news', Fr h₀ env.locals h' m' → News h₀ env.locals h' news' → (∀ p ∈ news', p.1 ∉ wr) → J n m' news' → Q .next { s₂ with heap := h', toks := tk })
section
variable {w : World} {A : Around} {s : Shared} {env : Env}
theorem For_pairU {E : Value → Shared → Prop} {Q : Flow → Shared → Prop} {xi xc : Str} {pk pv pt pos : Pos} {x1 : Nat} {iter : Expr} {body : List Stmt} (h₀ : Heap) (hh : A.handled = none)
    (hxi : env.kindOf xi = some .local) (hxc : env.kindOf xc = some .local)
    (hp : (env.scope.kind == .class || (env.scope.kind == .module && env.locals != env.globals)) = false)
    (h : wpAny (model pw w) A (eval iter env) (fun xv s₁ => wpAny (model pw w) A (pyIter xv) (fun it s₂ => PairAtU w A h₀ env xi xc body Q E it s₂) E s₁) E s)
    (hs : ∀ x, foldedSetIterable iter env x = pure x)
    (hE : PassesOwn (model pw w) A env E := by passes_own) :
    wpAny (model pw w) A (exec (.For (.Tuple [.Name xi pk, .Name xc pv] x1 pt) iter body [] pos) env) Q E s := by
  refine wpAny_For (wpAny_mono h (fun xv s₁ h₁ => wpAny_mono h₁ (fun it s₂ h₂ => ?_) fun _ _ e => e) fun _ _ e => e) hs
  obtain ⟨I, fp, wr, n, Pt, St, Mid, P2, m, news, J, rfl, W, h2, hLf, hwr, hnw, hst, F, N, h0, step, hQ⟩ := h₂
  exact forLoop_pairU (R := fun r s' => match r with | .ok f => Q f s' | .error e => cameBackBy (model pw w) A env E e s') hh W h2 hxi hxc hp hLf hwr hnw hst F N J h0 (by intros; exact wpAny_passesOwn hE (by apply step <;> assumption)) hQ
end
section
variable {w : World} {A : Around} {E : Value → Shared → Prop} {s : Shared} {env : Env} {g : Heap} {xi xc : Str} {body : List Stmt} {Q : Flow → Shared → Prop} {m : Str → Option Value} {news : List (Addr × Obj)}
/-- for i, c in enumerate(a str) -/
theorem loopEnumStr {x : Str} {t : Tok} (hh : A.handled = none) (F : Fr g env.locals s.heap m) (N : News g env.locals s.heap news) (J : Nat → (Str → Option Value) → List (Addr × Obj) → Prop) (h0 : J 0 m news)
    (step : ∀ (i : Nat) c t' u m₁ news₁ s₁ e it oe oit, x.cps[i]? = some c → J i m₁ news₁ → (∀ p ∈ news₁, ∀ o ∈ [(e, oe), (it, oit)], p.1 ≠ o.1) → Fr g env.locals s₁.heap (fun y => if y = xc then some (.str ⟨#[c]⟩ u) else if y = xi then some (.int i t') else m₁ y) → News g env.locals s₁.heap ((e, oe) :: (it, oit) :: news₁) →
      wpAny (model pw w) A (execs body env) (TurnT g env.locals s₁ [(e, oe), (it, oit)] (J (i + 1))) E s₁)
    (done : ∀ h' tk m' news', Fr g env.locals h' m' → News g env.locals h' news' → J x.cps.size m' news' → Q .next { s with heap := h', toks := tk }) :
    wpAny (model pw w) A (call (.type "enumerate") [.str x t]) (fun xv s₁ => wpAny (model pw w) A (pyIter xv) (fun it s₂ => PairAtU w A g env xi xc body Q E it s₂) E s₁) E s := by
  obtain ⟨e1, e2⟩ := above_new F
  have hLs : env.locals < s.heap.objs.size := F.ns.lt
  refine call_enumerate_str fun h' he hit hsz hk => ?_
  have F' : Fr g env.locals h' m := F.kept hk
  have N' : News g env.locals h' news := fun p hp => ⟨hk _ _ (N p hp).1, (N p hp).2⟩
  refine wpAny_pyIter_enum he ?_
  have hne : s.heap.objs.size + 1 ≠ s.heap.objs.size := Nat.succ_ne_self _
  have hge : g.get? (s.heap.objs.size + 1) = none := Heap.get?_none_of_le (Nat.le_trans F.above (Nat.le_of_lt (Nat.lt_succ_of_lt hLs)))
  have key : ∀ St : Nat → Heap → Prop, (∀ i h, St i h → ∃ o, h.get? s.heap.objs.size = some o) → Draws pw w A.in1 s.heap.objs.size [s.heap.objs.size] x.cps.size (fun i v => ∃ c u, x.cps[i]? = some c ∧ v = .str ⟨#[c]⟩ u) St → St 0 h' → PairAtU w A g env xi xc body Q E (.ref (s.heap.objs.size + 1)) { s with heap := h' } := fun St hlive D hst => by
    refine ⟨s.heap.objs.size + 1, (s.heap.objs.size + 1) :: [s.heap.objs.size], [s.heap.objs.size + 1, s.heap.objs.size], x.cps.size, _, _, _, (fun i v0 v1 => ∃ t', v0 = .int i t' ∧ ∃ c u, x.cps[i]? = some c ∧ v1 = .str ⟨#[c]⟩ u), m, news, J, rfl, WalksT.enumerateD D (s.heap.objs.size + 1) hne (fun hm => hne (List.mem_singleton.mp hm)) (by simp), ?_, ?_, ?_, ?_, ⟨⟨_, by simpa using he⟩, hst⟩, F', N', h0, ?_, fun h₂ tk m' news' F₂ N₂ _ hJ => done h₂ tk m' news' F₂ N₂ hJ⟩
    · rintro i vals ⟨t', v, hP, rfl⟩
      exact ⟨_, _, rfl, t', rfl, hP⟩
    · intro hm
      rcases List.mem_cons.mp hm with h | h
      · exact Nat.ne_of_lt (Nat.lt_succ_of_lt hLs) h
      · exact e2 (List.mem_singleton.mp h).symm
    · intro b hb
      rcases List.mem_cons.mp hb with h | h
      · rw [h]; exact hge
      · rw [List.mem_singleton.mp h]; exact e1
    · intro p hp hm
      have hlt := Heap.lt_size (N p hp).1
      rcases List.mem_cons.mp hm with h | h
      · exact Nat.ne_of_lt (Nat.lt_succ_of_lt hlt) h
      · exact Nat.ne_of_lt hlt (List.mem_singleton.mp h)
    · rintro i v0 v1 m₁ news₁ s₁ own hi ⟨t', rfl, c, u, hc, rfl⟩ hJ hoff hown hcov hst₁ F₁ N₁
      obtain ⟨⟨old, hen⟩, hst₂⟩ := hst₁
      obtain ⟨oit, hoit⟩ := hlive _ _ hst₂
      obtain ⟨oe, hoe⟩ : ∃ o, s₁.heap.get? (s.heap.objs.size + 1) = some o := ⟨_, hen⟩
      have m1 := hcov _ (.head _) hge oe hoe
      have m2 := hcov _ (.tail _ (.head _)) e1 oit hoit
      have hall : ∀ p ∈ own, p ∈ [(s.heap.objs.size + 1, oe), (s.heap.objs.size, oit)] := fun p hp => by
        have h3 := (N₁ p (List.mem_append_left _ hp)).1
        obtain ⟨b, o⟩ := p
        have hb := hown _ hp
        rcases List.mem_cons.mp hb with h | h
        · dsimp only at h h3
          subst h
          rw [hoe] at h3; cases h3; exact .head _
        · have h := List.mem_singleton.mp h
          dsimp only at h h3
          subst h
          rw [hoit] at h3; cases h3; exact .tail _ (.head _)
      refine wpAny_mono (step i c t' u m₁ news₁ s₁ (s.heap.objs.size + 1) s.heap.objs.size oe oit hc hJ (fun p hp o ho => ?_) F₁ fun p hp => ?_) (fun f s₃ hT => ?_) fun _ _ e => e
      · rcases List.mem_cons.mp ho with rfl | ho
        · exact fun h => hoff p hp (by rw [h]; exact .head _)
        · rw [List.mem_singleton.mp ho]
          exact fun h => hoff p hp (by rw [h]; exact .tail _ (.head _))
      · rcases List.mem_cons.mp hp with rfl | hp
        · exact N₁ _ (List.mem_append_left _ m1)
        rcases List.mem_cons.mp hp with rfl | hp
        · exact N₁ _ (List.mem_append_left _ m2)
        · exact N₁ _ (List.mem_append_right _ hp)
      · obtain ⟨rfl, h₃, tk₃, m₃, news₃, rfl, F₃, N₃, hd, hJ₃⟩ := hT
        refine ⟨rfl, h₃, tk₃, m₃, news₃, rfl, F₃, fun p hp => ?_, fun p hp hm => ?_, hJ₃⟩
        · rcases List.mem_append.mp hp with hp | hp
          · exact N₃ p (List.mem_append_left _ (hall p hp))
          · exact N₃ p (List.mem_append_right _ hp)
        · rcases List.mem_cons.mp hm with h | h
          · exact hd p hp _ (.head _) h
          · exact hd p hp _ (.tail _ (.head _)) (List.mem_singleton.mp h)
  cases ha : x.cps.all (· < 128)
  · have hit' : h'.IsStrIter s.heap.objs.size "str_iterator" x t 0 := by simpa [strIterType, ha] using hit
    exact key _ (fun i h ⟨o, ho, _⟩ => ⟨o, ho⟩) (Draws.strWide (A := A.in1) hh s.heap.objs.size x t) hit'
  · have hit' : h'.IsStrIter s.heap.objs.size "str_ascii_iterator" x t 0 := by simpa [strIterType, ha] using hit
    exact key _ (fun i h ⟨o, ho, _⟩ => ⟨o, ho⟩) (Draws.strAscii (A := A.in1) hh s.heap.objs.size x t) hit'
end
end Mine
end
section
open PySem PySem.W PyProof.Rows PySem.Calls PySem.Spec
set_option Elab.async false
set_option maxRecDepth 1000000
set_option maxHeartbeats 8000000
namespace Mine
/-! ## b2j is filled -/
theorem getMethod_setdefault {w : World} {A : Around} {E : Value → Shared → Prop} {s : Shared} {K : Type} [DecidableEq K] {knd : KeyKind pw w K} {kvs : List (K × Value)} {d : Addr} {pl : Sem Bool} {Q : Value × List Value → Shared → Prop} (hm : s.heap.DictOf knd d kvs)
    (h : Q (.builtin "dict.setdefault", [.ref d]) s) : wpAny (model pw w) A (getMethod (.ref d) "setdefault" pl) Q E s :=
  getMethod_builtin hm.typeIs F.plainAttrs_dict F.slot_dict_setdefault F.type_dict_setdefault hm.mapOf.noDict h
theorem setdefaultI {w : World} {A : Around} {E : Value → Shared → Prop} {s : Shared} {K : Type} [DecidableEq K] {knd : KeyKind pw w K} {g : Heap} {L d : Addr} {m : Str → Option Value} {own rest : List (Addr × Obj)} {kvs : List (K × Value)} {o : Obj} {k : K} {key dflt : Value} {Q : Value → Shared → Prop}
    (hkey : knd.is k key = true) (lo : (d == sysModules) = false) (F : Fr g L s.heap m) (N : News g L s.heap (own ++ (d, o) :: rest)) (h1 : ∀ p ∈ own, p.1 ≠ d) (h2 : ∀ p ∈ rest, p.1 ≠ d) (hd : o.IsDictOf knd kvs) (hsz : kvs.length ≤ sizeLine)
    (there : ∀ v, valueAt kvs k = some v → Q v { s with toks := s.toks + 1 })
    (new : valueAt kvs k = none → ∀ h' o', Fr g L h' m → News g L h' (own ++ (d, o') :: rest) → o'.IsDictOf knd (stored kvs k dflt) → Q dflt { s with heap := h', toks := s.toks + 1 }) :
    wpAny (model pw w) A (call (.builtin "dict.setdefault") [.ref d, key, dflt]) Q E s := by
  have hm := N (d, o) (List.mem_append_right _ (.head _))
  have hD : s.heap.DictOf knd d kvs := Heap.dictOf_iff.mpr ⟨o, hm.1, hd⟩
  refine call_meetsIn PySem.F.slot_dict_setdefault hD.typeIs PySem.F.entry_dict_setdefault (PySem.F.args_dict_setdefault_3 _ _ _) (kt_meets_setdefault knd d hkey lo dflt) ⟨kvs, hD, hsz, fun v hv => there v hv, fun hn h' hmm hs => ?_⟩
  obtain ⟨o', ho', hd'⟩ := Heap.dictOf_iff.mp hmm
  exact new hn h' o' (F.change hs hm.2.1 hm.2.2) (N.setIn h1 h2 hs ho') hd'
structure CRow where
  c : Nat
  l : Addr
  vs : List Value
  n : Nat
noncomputable def rkv (rs : List CRow) : List (Str × Value) := rs.map fun r => (⟨#[r.c]⟩, .ref r.l)
noncomputable def rls (rs : List CRow) : List (Addr × Obj) := rs.map fun r => (r.l, listOf r.vs.toArray r.n)
theorem str1_ne {c d : Nat} (h : c ≠ d) : (⟨#[c]⟩ : Str) ≠ ⟨#[d]⟩ := by
  intro e; injection e with e; simp at e; exact h e
theorem valueAt_none {rs : List CRow} {c : Nat} (h : ∀ r ∈ rs, r.c ≠ c) : valueAt (rkv rs) ⟨#[c]⟩ = none := by
  unfold valueAt rkv
  rw [List.find?_eq_none.mpr]
  · rfl
  · intro kv hkv
    obtain ⟨r, hr, rfl⟩ := List.mem_map.mp hkv
    simpa using h r hr
theorem valueAt_some : ∀ {rs : List CRow} {r : CRow}, (rs.map (·.c)).Nodup → r ∈ rs → valueAt (rkv rs) ⟨#[r.c]⟩ = some (.ref r.l)
  | q :: rs, r, hn, hr => by
    unfold valueAt rkv
    rw [List.map_cons, List.find?_cons]
    rw [List.map_cons, List.nodup_cons] at hn
    rcases List.mem_cons.mp hr with rfl | hr
    · simp
    · have : q.c ≠ r.c := fun e => hn.1 (e ▸ List.mem_map.mpr ⟨r, hr, rfl⟩)
      rw [show decide ((⟨#[q.c]⟩ : Str) = ⟨#[r.c]⟩) = false by simpa using this]
      exact valueAt_some hn.2 hr
theorem stored_new {rs : List CRow} {c : Nat} {l : Addr} (h : ∀ r ∈ rs, r.c ≠ c) : stored (rkv rs) ⟨#[c]⟩ (.ref l) = rkv (rs ++ [⟨c, l, [], 0⟩]) := by
  unfold stored
  rw [if_neg]
  · unfold rkv; simp
  · rw [Bool.not_eq_true, List.any_eq_false]
    intro kv hkv
    unfold rkv at hkv
    obtain ⟨r, hr, rfl⟩ := List.mem_map.mp hkv
    simpa using h r hr
/-- the rows so far: the signs of the first t places, each with its places, rising -/
structure Rows0 (b : Str) (t : Nat) (rs : List CRow) : Prop where
  rcn : (rs.map (·.c)).Nodup
  rln : (rs.map (·.l)).Nodup
  rin : ∀ r ∈ rs, IntsAre r.vs (((List.range t).filter fun j => ch b j == r.c).map Int.ofNat)
  ral : ∀ j, j < t → ∃ r ∈ rs, r.c = ch b j
  rso : ∀ r ∈ rs, ∃ j, j < t ∧ ch b j = r.c
  rle : rs.length ≤ t
theorem Upd.mid {D : Addr} {o o' : Obj} {post : List (Addr × Obj)} (h2 : ∀ p ∈ post, p.1 ≠ D) : ∀ {pre : List (Addr × Obj)}, (∀ p ∈ pre, p.1 ≠ D) → Upd D o o' (pre ++ (D, o) :: post) (pre ++ (D, o') :: post)
  | [], _ => Upd.head h2
  | p :: pre, h1 => Upd.tail (h1 p (.head _)) (Upd.mid h2 fun q hq => h1 q (.tail _ hq))
theorem filt_succ (b : Str) (t c : Nat) : ((List.range (t + 1)).filter fun j => ch b j == c) = ((List.range t).filter fun j => ch b j == c) ++ (if ch b t = c then [t] else []) := by
  rw [List.range_succ, List.filter_append]
  congr 1
  by_cases h : ch b t = c
  · rw [if_pos h]; simp [h]
  · rw [if_neg h]; simp [h]
theorem Rows0.there {b : Str} {t : Nat} {pre post : List CRow} {r : CRow} (h : Rows0 b t (pre ++ r :: post)) (hc : r.c = ch b t) (u : Tok) : Rows0 b (t + 1) (pre ++ ⟨r.c, r.l, r.vs ++ [.int t u], r.n + 1⟩ :: post) := by
  obtain ⟨h1, h2, h3, h4, h5, h6⟩ := h
  have hn : ∀ q ∈ pre ++ post, q.c ≠ ch b t := by
    intro q hq e
    rw [List.map_append, List.map_cons, List.nodup_append] at h1
    obtain ⟨_, n2, n3⟩ := h1
    rw [List.nodup_cons] at n2
    rcases List.mem_append.mp hq with hq | hq
    · exact n3 _ (List.mem_map.mpr ⟨q, hq, rfl⟩) _ (.head _) (e.trans hc.symm)
    · exact n2.1 (List.mem_map.mpr ⟨q, hq, e.trans hc.symm⟩)
  refine ⟨by simpa using h1, by simpa using h2, fun q hq => ?_, fun j hj => ?_, fun q hq => ?_, by simp at h6 ⊢; lia⟩
  · rw [filt_succ]
    have hold : ∀ q ∈ pre ++ post, IntsAre q.vs ((((List.range t).filter fun j => ch b j == q.c) ++ (if ch b t = q.c then [t] else [])).map Int.ofNat) := fun q hq => by
      rw [if_neg fun e => hn q hq e.symm, List.append_nil]
      refine h3 q ?_
      rcases List.mem_append.mp hq with hq | hq
      · exact List.mem_append_left _ hq
      · exact List.mem_append_right _ (.tail _ hq)
    rcases List.mem_append.mp hq with hq | hq
    · exact hold q (List.mem_append_left _ hq)
    · rcases List.mem_cons.mp hq with rfl | hq
      · dsimp only
        rw [if_pos hc.symm, List.map_append]
        exact (h3 r (List.mem_append_right _ (.head _))).append (.cons _ u .nil)
      · exact hold q (List.mem_append_right _ hq)
  · by_cases e : j = t
    · subst e; exact ⟨_, List.mem_append_right _ (.head _), hc⟩
    · obtain ⟨q, hq, e2⟩ := h4 j (by lia)
      rcases List.mem_append.mp hq with hq | hq
      · exact ⟨q, List.mem_append_left _ hq, e2⟩
      · rcases List.mem_cons.mp hq with rfl | hq
        · exact ⟨_, List.mem_append_right _ (.head _), e2⟩
        · exact ⟨q, List.mem_append_right _ (.tail _ hq), e2⟩
  · rcases List.mem_append.mp hq with hq | hq
    · obtain ⟨j, hj, e⟩ := h5 q (List.mem_append_left _ hq); exact ⟨j, by lia, e⟩
    · rcases List.mem_cons.mp hq with rfl | hq
      · exact ⟨t, by lia, hc.symm⟩
      · obtain ⟨j, hj, e⟩ := h5 q (List.mem_append_right _ (.tail _ hq)); exact ⟨j, by lia, e⟩
theorem Rows0.new {b : Str} {t : Nat} {rs : List CRow} (h : Rows0 b t rs) (hc : ∀ r ∈ rs, r.c ≠ ch b t) {l : Addr} (hl : ∀ r ∈ rs, r.l ≠ l) (u : Tok) (n : Nat) : Rows0 b (t + 1) (rs ++ [⟨ch b t, l, [.int t u], n⟩]) := by
  obtain ⟨h1, h2, h3, h4, h5, h6⟩ := h
  refine ⟨?_, ?_, fun q hq => ?_, fun j hj => ?_, fun q hq => ?_, by simp; lia⟩
  · rw [List.map_append, List.nodup_append]
    refine ⟨h1, by simp, ?_⟩
    intro x hx y hy e
    obtain ⟨r, hr, rfl⟩ := List.mem_map.mp hx
    simp only [List.map_cons, List.map_nil, List.mem_singleton] at hy
    exact hc r hr (e.trans hy)
  · rw [List.map_append, List.nodup_append]
    refine ⟨h2, by simp, ?_⟩
    intro x hx y hy e
    obtain ⟨r, hr, rfl⟩ := List.mem_map.mp hx
    simp only [List.map_cons, List.map_nil, List.mem_singleton] at hy
    exact hl r hr (e.trans hy)
  · rw [filt_succ]
    rcases List.mem_append.mp hq with hq | hq
    · rw [if_neg fun e => hc q hq e.symm, List.append_nil]; exact h3 q hq
    · rw [List.mem_singleton.mp hq]
      dsimp only
      rw [if_pos rfl, List.filter_eq_nil_iff.mpr]
      · exact .cons _ u .nil
      · intro j hj e
        obtain ⟨r, hr, e2⟩ := h4 j (List.mem_range.mp hj)
        exact hc r hr (e2.trans (by simpa using e))
  · by_cases e : j = t
    · subst e; exact ⟨_, List.mem_append_right _ (.head _), rfl⟩
    · obtain ⟨q, hq, e2⟩ := h4 j (by lia)
      exact ⟨q, List.mem_append_left _ hq, e2⟩
  · rcases List.mem_append.mp hq with hq | hq
    · obtain ⟨j, hj, e⟩ := h5 q hq; exact ⟨j, by lia, e⟩
    · rw [List.mem_singleton.mp hq]; exact ⟨t, by lia, rfl⟩
theorem regFJ (P : Params) : K P = [] ∨ PySem.Challenge.rw_kl0396_01.name = PySem.Challenge.rw_kl0396_01.name := by
  k_fill
  exact .inr rfl
local macro_rules | `(tactic| walk_at $s:str) => stopAt "getMethod ref|call builtin:dict.setdefault|call builtin:list.append" s
noncomputable abbrev chSt (i : Nat) : Stmt := sub (sub (top 5) 5) i
noncomputable abbrev chEnv (L : Addr) : Env := envX "SequenceMatcher.__chain_b" (scopeAt (sub (top 5) 5)) L 188 (.ref 187) []
theorem chain_turn {w : World} {dp un : Nat} {fr : Option (List Env)} {gd : Option (List Code)} {s : Shared} {g : Heap} {mg mb : Str → Option Value} {L x d e it : Addr} {oe oit od : Obj} {m : Str → Option Value} {R : List (Addr × Obj)} {b : Str} {rs : List CRow} {i c : Nat} {t' u tb : Tok} {Q : Flow → Shared → Prop}
    (X : (K w.params).In g) (T : TopRead q (looseW q loose) mg mb g) (hi : i < 400) (hc : ch b i = c) (lo : (d == sysModules) = false) (hod : od.IsDictOf (strKind pw w) (rkv rs)) (hrs : Rows0 b i rs)
    (hdd : e ≠ d ∧ it ≠ d) (hR : ∀ r ∈ R, r.1 ≠ d) (hq : ∀ r ∈ rs, r.l ≠ d ∧ r.l ≠ e ∧ r.l ≠ it ∧ ∀ p ∈ R, p.1 ≠ r.l)
    (hQ : ∀ h' tk m' od' rs', Fr g L h' m' → HasL m' [("b2j", .ref d), ("b", .str b tb), ("self", .ref x)] → News g L h' ((e, oe) :: (it, oit) :: (d, od') :: (rls rs' ++ R)) → od'.IsDictOf (strKind pw w) (rkv rs') → Rows0 b (i + 1) rs' → (∀ r ∈ rs', r.l ≠ d ∧ r.l ≠ e ∧ r.l ≠ it ∧ ∀ p ∈ R, p.1 ≠ r.l) → Q .next { s with heap := h', toks := tk })
    (F : Fr g L s.heap m) (hm : HasL m [("elt", .str ⟨#[c]⟩ u), ("i", .int i t'), ("b2j", .ref d), ("b", .str b tb), ("self", .ref x)]) (N : News g L s.heap ((e, oe) :: (it, oit) :: (d, od) :: (rls rs ++ R))) :
    wpAny (model pw w) ((AR dp un fr gd).deeper (chEnv L)) (execs (bodyAt (chSt 2)) (chEnv L)) Q (fun _ _ => False) s := by
  conv in execs _ _ => arg 1; whnf
  delta chEnv
  conv in (occs := *) envX _ _ _ _ _ _ => all_goals (arg 2; whnf)
  have em := ov_of hm
  rw [em] at F
  k_steps
  refine Stop.intro ?_
  refine getMethod_setdefault (Heap.dictOf_iff.mpr ⟨od, (N _ (.tail _ (.tail _ (.head _)))).1, hod⟩) ?_
  k_steps
  refine Stop.intro ?_
  rename_i l0 _ F1 N1 lt
  have hll : ∀ r ∈ rls rs ++ R, r.1 < l0 := allLt_all _ lt.2.2.2
  have hlr : ∀ r ∈ rs, r.l < l0 := fun r hr => hll (r.l, listOf r.vs.toArray r.n) (List.mem_append_left _ (List.mem_map.mpr ⟨r, hr, rfl⟩))
  refine setdefaultI (own := [(l0, listOf #[] 0), (e, oe), (it, oit)]) (rest := rls rs ++ R) (k := ⟨#[c]⟩) (strKind_is pw w _ _) lo F1 N1 (fun p hp => ?_) (fun p hp => ?_) hod (by have := hrs.rle; have : sizeLine = 16777216 := rfl; unfold rkv; simp; lia) (fun v hv => ?_) (fun hv h2 od2 F2 N2 hod2 => ?_)
  · simp only [List.mem_cons, List.not_mem_nil, or_false] at hp
    rcases hp with rfl | rfl | rfl
    · exact Nat.ne_of_gt lt.2.2.1
    · exact hdd.1
    · exact hdd.2
  · rcases List.mem_append.mp hp with hp | hp
    · obtain ⟨r, hr, rfl⟩ := List.mem_map.mp hp; exact (hq r hr).1
    · exact hR p hp
  · obtain ⟨r, hr, hrc⟩ : ∃ r ∈ rs, r.c = c := by
      by_cases h : ∃ r ∈ rs, r.c = c
      · exact h
      · rw [valueAt_none fun r hr e => h ⟨r, hr, e⟩] at hv; cases hv
    rw [← hrc, valueAt_some hrs.rcn hr] at hv
    cases hv
    obtain ⟨pre, post, rfl⟩ := List.append_of_mem hr
    have hln := hrs.rln
    rw [List.map_append, List.map_cons, List.nodup_append, List.nodup_cons] at hln
    have hpre : ∀ p ∈ rls pre, p.1 ≠ r.l := fun p hp => by
      obtain ⟨y, hy, rfl⟩ := List.mem_map.mp hp
      exact fun e => hln.2.2 _ (List.mem_map.mpr ⟨y, hy, rfl⟩) _ (.head _) e
    have hpost : ∀ p ∈ rls post ++ R, p.1 ≠ r.l := fun p hp => by
      rcases List.mem_append.mp hp with hp | hp
      · obtain ⟨y, hy, rfl⟩ := List.mem_map.mp hp
        exact fun e => hln.2.1.1 (e ▸ List.mem_map.mpr ⟨y, hy, rfl⟩)
      · exact (hq r hr).2.2.2 p hp
    have er : ∀ q : CRow, rls (pre ++ q :: post) ++ R = rls pre ++ (q.l, listOf q.vs.toArray q.n) :: (rls post ++ R) := fun q => by unfold rls; simp
    rw [er] at N1
    k_steps
    refine Stop.intro ?_
    rename_i F2 N2
    refine getMethod_append_N N2 (.tail _ (.tail _ (.tail _ (.tail _ (List.mem_append_right _ (.head _)))))) ?_
    k_steps
    refine Stop.intro ?_
    have hqr := hq r hr
    refine append_K F2 N2 (Upd.tail (Nat.ne_of_gt (hlr r hr)) (Upd.tail hqr.2.1.symm (Upd.tail hqr.2.2.1.symm (Upd.tail hqr.1.symm (Upd.mid hpost hpre))))) (fun h3 F3 N3 => ?_) (by
      have h5 := (hrs.rin r hr).length
      have h6 : ((List.range i).filter fun j => ch b j == r.c).length ≤ i := Nat.le_trans (List.length_filter_le _ _) (by simp)
      have : sizeLine = 16777216 := rfl
      simp at h5 ⊢; lia)
    rw [List.push_toArray] at N3
    k_steps
    refine hQ _ _ _ od (pre ++ ⟨r.c, r.l, r.vs ++ [.int i t'], r.n + 1⟩ :: post) F3 ⟨rfl, rfl, rfl, trivial⟩ (News.sub N3 fun p hp => ?_) ?_ (hrs.there (hrc.trans hc.symm) t') fun q hqm => ?_
    · rw [er] at hp
      exact .tail _ hp
    · have : rkv (pre ++ ⟨r.c, r.l, r.vs ++ [.int i t'], r.n + 1⟩ :: post) = rkv (pre ++ r :: post) := by unfold rkv; simp
      rw [this]; exact hod
    · rcases List.mem_append.mp hqm with h | h
      · exact hq q (List.mem_append_left _ h)
      · rcases List.mem_cons.mp h with rfl | h
        · exact hqr
        · exact hq q (List.mem_append_right _ (.tail _ h))
  · have hnc : ∀ r ∈ rs, r.c ≠ c := fun r hr e => by
      rw [← e, valueAt_some hrs.rcn hr] at hv; cases hv
    rw [stored_new hnc] at hod2
    k_steps
    refine Stop.intro ?_
    rename_i F3 N3
    refine getMethod_append_N N3 (.head _) ?_
    k_steps
    refine Stop.intro ?_
    refine append_K F3 N3 (Upd.head fun p hp => ?_) (fun h4 F4 N4 => ?_)
    · rcases List.mem_cons.mp hp with rfl | hp
      · exact Nat.ne_of_lt lt.1
      rcases List.mem_cons.mp hp with rfl | hp
      · exact Nat.ne_of_lt lt.2.1
      rcases List.mem_cons.mp hp with rfl | hp
      · exact Nat.ne_of_lt lt.2.2.1
      · exact Nat.ne_of_lt (hll p hp)
    have N5 : News g L h4 ((l0, listOf #[.int i t'] 1) :: (e, oe) :: (it, oit) :: (d, od2) :: (rls rs ++ R)) := N4
    k_steps
    refine hQ _ _ _ od2 (rs ++ [⟨c, l0, [.int i t'], 1⟩]) F4 ⟨rfl, rfl, rfl, trivial⟩ (News.sub N5 fun p hp => ?_) ?_ (by rw [← hc]; exact hrs.new (fun r hr => by rw [hc]; exact hnc r hr) (fun r hr => Nat.ne_of_lt (hlr r hr)) t' 1) fun q hqm => ?_
    · have : rls (rs ++ [⟨c, l0, [.int i t'], 1⟩]) = rls rs ++ [(l0, listOf #[.int i t'] 1)] := by unfold rls; simp
      rw [this] at hp
      simp only [List.mem_cons, List.mem_append, List.append_assoc, List.not_mem_nil, or_false] at hp ⊢
      rcases hp with h | h | h | h | h | h <;> (repeat first | exact h | exact .inl h | exact .inl (.inl h) | exact .inl (.inr h) | refine .inr ?_)
    · have : rkv (rs ++ [⟨c, l0, [.int i t'], 1⟩]) = rkv (rs ++ [⟨c, l0, [], 0⟩]) := by unfold rkv; simp
      rw [this]; exact hod2
    · rcases List.mem_append.mp hqm with h | h
      · exact hq q h
      · rw [List.mem_singleton.mp h]
        exact ⟨Nat.ne_of_gt lt.2.2.1, Nat.ne_of_gt lt.1, Nat.ne_of_gt lt.2.1, fun p hp => Nat.ne_of_lt (hll p (List.mem_append_right _ hp))⟩
local macro_rules | `(tactic| walk_at $s:str) => stopAt "call type:enumerate" s
/-- what holds between the turns -/
inductive FiJ (w : World) (x d : Addr) (b : Str) (tb : Tok) (R : List (Addr × Obj)) (t : Nat) (m' : Str → Option Value) (n' : List (Addr × Obj)) : Prop
  | mk (h0 : t ≤ b.cps.size) (od' : Obj) (rs : List CRow) (hm : HasL m' [("b2j", .ref d), ("b", .str b tb), ("self", .ref x)]) (e : n' = (d, od') :: (rls rs ++ R)) (h1 : od'.IsDictOf (strKind pw w) (rkv rs)) (h2 : Rows0 b t rs) (h3 : ∀ r ∈ rs, r.l ≠ d ∧ ∀ p ∈ R, p.1 ≠ r.l)
theorem chain_fill {w : World} {dp un : Nat} {fr : Option (List Env)} {gd : Option (List Code)} {s : Shared} {g : Heap} {mg mb : Str → Option Value} {L x d : Addr} {od : Obj} {m : Str → Option Value} {R : List (Addr × Obj)} {b : Str} {tb : Tok} {Q : Flow → Shared → Prop}
    (X : (K w.params).In g) (T : TopRead q (looseW q loose) mg mb g) (hb : b.cps.size < 400) (lo : (d == sysModules) = false) (hod : od.IsDictOf (strKind pw w) []) (hR : ∀ r ∈ R, r.1 ≠ d)
    (hQ : ∀ h' tk m' od' rs, Fr g L h' m' → HasL m' [("b2j", .ref d), ("b", .str b tb), ("self", .ref x)] → News g L h' ((d, od') :: (rls rs ++ R)) → od'.IsDictOf (strKind pw w) (rkv rs) → Rows0 b b.cps.size rs → (∀ r ∈ rs, r.l ≠ d ∧ ∀ p ∈ R, p.1 ≠ r.l) → Q .next { s with heap := h', toks := tk })
    (F : Fr g L s.heap m) (hm : HasL m [("b2j", .ref d), ("b", .str b tb), ("self", .ref x)]) (N : News g L s.heap ((d, od) :: R)) :
    wpAny (model pw w) ((AR dp un fr gd).deeper (chEnv L)) (exec (chSt 2) (chEnv L)) Q (fun _ _ => False) s := by
  conv in exec _ _ => arg 1; whnf
  delta chEnv
  conv in (occs := *) envX _ _ _ _ _ _ => all_goals (arg 2; whnf)
  have em := ov_of hm
  rw [em] at F
  refine For_pairU g rfl (by rfl) (by rfl) (by rfl) ?_ (by intro x; rfl)
  k_steps
  refine Stop.intro ?_
  rw [← em] at F
  refine loopEnumStr rfl F N (FiJ w x d b tb R)
    ⟨Nat.zero_le _, od, [], hm, rfl, hod, ⟨.nil, .nil, (fun _ h => nomatch h), (fun _ h => nomatch h), (fun _ h => nomatch h), Nat.le_refl _⟩, fun _ h => nomatch h⟩ ?_ ?_
  · rintro i c t' u m₁ news₁ s₁ e it oe oit hc ⟨hle, od', rs, hm', rfl, hod', hrs, hq⟩ hdis F₁ N₁
    have hib : i < b.cps.size := (Array.getElem?_eq_some_iff.mp hc).1
    have hcc : ch b i = c := by unfold ch; rw [Array.getD_eq_getD_getElem?, hc]; rfl
    have h0 := hdis (d, od') (.head _)
    refine chain_turn (c := c) (u := u) (t' := t') (tb := tb) (x := x) X T (by lia) hcc lo hod' hrs ⟨(h0 _ (.head _)).symm, (h0 _ (.tail _ (.head _))).symm⟩ hR (fun r hr => ?_) (fun h' tk m' od2 rs2 F' hm'' N' hod2 hrs2 hq2 => ?_) F₁ ⟨rfl, rfl, hm'.1, hm'.2.1, hm'.2.2.1, trivial⟩ N₁
    · have h1 := hdis (r.l, listOf r.vs.toArray r.n) (.tail _ (List.mem_append_left _ (List.mem_map.mpr ⟨r, hr, rfl⟩)))
      exact ⟨(hq r hr).1, h1 _ (.head _), h1 _ (.tail _ (.head _)), (hq r hr).2⟩
    · refine TurnT.intro (news' := (d, od2) :: (rls rs2 ++ R)) F' N' (fun p hp o ho => ?_) ⟨by lia, od2, rs2, hm'', rfl, hod2, hrs2, fun r hr => ⟨(hq2 r hr).1, (hq2 r hr).2.2.2⟩⟩
      rcases List.mem_cons.mp hp with rfl | hp
      · exact h0 o ho
      · rcases List.mem_append.mp hp with hp | hp
        · obtain ⟨r, hr, rfl⟩ := List.mem_map.mp hp
          rcases List.mem_cons.mp ho with rfl | ho
          · exact (hq2 r hr).2.1
          · rw [List.mem_singleton.mp ho]; exact (hq2 r hr).2.2.1
        · exact hdis p (.tail _ (List.mem_append_right _ hp)) o ho
  · rintro h' tk m' news' F' N' ⟨_, od', rs, hm', rfl, hod', hrs, hq⟩
    exact hQ h' tk m' od' rs F' hm' N' hod' hrs hq
end Mine
end
section
open PySem PySem.W PyProof.Rows PySem.Calls PySem.Spec
set_option Elab.async false
set_option maxRecDepth 1000000
set_option maxHeartbeats 8000000
namespace Mine
/-! ## sets of strs: made, filled, walked through; what the table must be for the walk is kept in sight -/
noncomputable abbrev byT (w : World) : Bool := w.params.followText "set-order"
section
variable {w : World} {A : Around} {E : Value → Shared → Prop} {s : Shared}
theorem new_set {Q₁ : Value → Shared → Prop} (h : Q₁ (.ref s.heap.objs.size) { s with heap := s.heap.push (setObj #[] 0 (.fresh 0 0 (!byT w))) }) :
    codeAny (model pw w) A (.call (.builtin "set.__new__") ⟨[.type "set"], []⟩) (wants Q₁ E) s := by
  refine codeAny_of_tree ?_
  show wpAny _ A.in1 (do checkBuiltinCall "set.__new__" ⟨[.type "set"], []⟩; again (.builtin "set.__new__" ⟨[.type "set"], []⟩)) _ _ s
  refine wpAny_bind (wpAny_of_eq F.newCall_set_0 (wpAny_pure ⟨plainId_quiet F.plain_set_new _, codeAny_builtin F.entry_set_new ?_⟩))
  rw [Around.under_plainId F.plain_set_new _]
  unfold Builtin.«set.__new__» Builtin.Frozenset.newClass
  have hsub := sub_set_self
  obtain ⟨hp, g, d, tk, os⟩ := s
  dsimp only
  wp_walk
  refine wpAny_askSetting (wpAny_pure ?_)
  dsimp only
  unfold newObj
  exact wpAny_bind (wpAny_alloc (wpAny_pure (wpAny_pure h)))
theorem call_set {Q : Value → Shared → Prop} (h : Q (.ref s.heap.objs.size) { s with heap := s.heap.push (setObj #[] 0 (.fresh 0 0 (!byT w))) }) :
    wpAny (model pw w) A (call (.type "set") []) Q E s := by
  obtain ⟨c, tl, hmro⟩ := F.called_set.mro
  have hmade := F.called_set.made
  have hsub := F.called_set.sub
  refine wpAny_call (codeAny_of_tree ?_)
  show wpAny _ _ (callAny (.type "set") _) _ _ _
  refine wpAny_pure ⟨Code.quiet_builtin _ (by decide +kernel), codeAny_builtin F.entry_type_call ?_⟩
  rw [Around.under_plain (weight_type_call_type "set" [] []) rfl]
  have h1 := F.called_set.notType
  have h2 := F.called_set.canCreate
  have hct := F.typeCall_set_0
  repeat (any_goals (first | assumption | wp_step))
  refine codeAny_mono (new_set (E := E) (Q₁ := fun obj s₁ => obj = .ref s.heap.objs.size ∧ s₁ = { s with heap := s.heap.push (setObj #[] 0 (.fresh 0 0 (!byT w))) }) ⟨rfl, rfl⟩) fun r s₁ hr => ?_
  match r, hr with
  | .error e, hr => exact hr
  | .ok .next, hr => exact hr.elim
  | .ok .brk, hr => exact hr.elim
  | .ok .cont, hr => exact hr.elim
  | .ok (.ret obj), hr =>
    obtain ⟨rfl, rfl⟩ := hr
    have hS : (s.heap.push (setObj #[] 0 (.fresh 0 0 (!byT w)))).get? s.heap.objs.size = some (setObj #[] 0 (.fresh 0 0 (!byT w))) := Heap.get?_push_size _ rfl
    have hT : Shared.TypeIs { s with heap := s.heap.push (setObj #[] 0 (.fresh 0 0 (!byT w))) } (.ref s.heap.objs.size) "set" := ⟨_, hS, rfl⟩
    have hli := F.called_set.init.lookup
    have hbi := F.called_set.init.bind (.ref s.heap.objs.size)
    repeat (any_goals (first | assumption | wp_step))
    refine codeAny_mono (codeAny_call_builtin (R := wants (fun r s₂ => r = .none ∧ Q (.ref s.heap.objs.size) s₂) E) F.called_set.init.plain F.entry_set_init (check_set_init hT ?_)) fun r₂ s₂ hr₂ => ?_
    · unfold Builtin.«set.__init__» noKeywords
      wp_walk
      exact ⟨rfl, h⟩
    · match r₂, hr₂ with
      | .error e, hr₂ => exact hr₂
      | .ok .next, hr₂ => exact hr₂.elim
      | .ok .brk, hr₂ => exact hr₂.elim
      | .ok .cont, hr₂ => exact hr₂.elim
      | .ok (.ret r), hr₂ =>
        obtain ⟨rfl, hq⟩ := hr₂
        repeat (any_goals (first | assumption | wp_step))

noncomputable def vkey : Value → Str
  | .str k _ => k
  | _ => ⟨#[]⟩
/-- a set that holds just the strs ks -/
structure SetJ (w : World) (es : Array (Int × Value)) (t : SetTable) (ks : List Str) : Prop where
  el : ElemsOf (strKind pw w) es.toList
  mem : ∀ k, k ∈ ks ↔ ∃ e ∈ es.toList, (strKind pw w).is k e.2 = true
  sz : es.size = ks.length
  nd : ks.Nodup
  fit : t.fits es.size = true
  dum : t.dummies = #[]
  mask : 7 ≤ t.mask
  led : t.led = !byT w
  plain : es.size ≠ 0 → t.plain = false
  kp : (es.toList.map fun e => vkey e.2).Perm ks
theorem SetJ.none : SetJ w #[] (.fresh 0 0 (!byT w)) [] := ⟨fun e he => by simp at he, fun k => by simp, rfl, .nil, rfl, rfl, Nat.le_refl _, rfl, fun h => absurd rfl h, .nil⟩
theorem below_zero {xs : Array Nat} {j : Nat} (h : xs.size = 0) : SetTable.has xs j = false := by
  unfold SetTable.has
  rw [Array.getElem?_eq_none (by lia)]; rfl
theorem put_keeps {t : SetTable} (h : t.dummies = #[]) (j : Nat) : (t.put j).1.dummies = #[] ∧ (t.put j).1.mask = t.mask ∧ (t.put j).1.led = t.led ∧ (t.put j).1.plain = t.plain := by
  unfold SetTable.put
  dsimp only
  rw [h, below_zero rfl]
  exact ⟨rfl, rfl, rfl, rfl⟩
theorem lay_keeps {t : SetTable} (h : t.dummies = #[]) (hm : 7 ≤ t.mask) (es : Array (Int × Value)) (hh : Int) (x : Value) :
    (layNew t es hh x).2.1.dummies = #[] ∧ 7 ≤ (layNew t es hh x).2.1.mask ∧ (layNew t es hh x).2.1.led = t.led ∧ (t.plain = false → (layNew t es hh x).2.1.plain = false) := by
  unfold layNew
  split
  · rename_i slot wd _
    obtain ⟨a, b, c, d⟩ := put_keeps h slot
    unfold SetTable.orStandIn
    dsimp only
    split
    · exact ⟨a, by rw [b]; exact hm, c, fun e => d.trans e⟩
    · refine ⟨rfl, ?_, c, fun _ => rfl⟩
      show 7 ≤ 4 * _ + 4
      have : (SetTable.insertAt es (t.put slot).2 (hh, x)).size ≥ 1 := by unfold SetTable.insertAt; simp; lia
      lia
  · refine ⟨rfl, ?_, rfl, fun _ => rfl⟩
    show 7 ≤ 4 * _ + 4
    lia
theorem not_full {t : SetTable} {n : Nat} (hf : t.fits n = true) (hd : t.dummies = #[]) (hm : 7 ≤ t.mask) (hn : n ≤ 2) : t.tooFull = false := by
  unfold SetTable.tooFull SetTable.fill
  simp only [SetTable.fits, Bool.and_eq_true, beq_iff_eq, decide_eq_true_eq] at hf
  rw [hd]
  simp only [Array.size_empty, ge_iff_le, decide_eq_false_iff_not]
  lia
theorem add_new {a : Addr} {es : Array (Int × Value)} {ep : Nat} {t : SetTable} {ks : List Str} {k : Str} {u : Tok} {Q : Value → Shared → Prop} (ho : s.heap.get? a = some (setObj es ep t)) (hJ : SetJ w es t ks) (hk : k ∉ ks) (h1 : ks.length ≤ 1)
    (h : ∀ h' es' ep' t', Heap.SameBut a s.heap h' → h'.get? a = some (setObj es' ep' t') → SetJ w es' t' (ks ++ [k]) → Q .none { s with heap := h', toks := s.toks + 1 }) :
    wpAny (model pw w) A (call (.builtin "set.add") [.ref a, .str k u]) Q E s := by
  have hkey : (strKind pw w).is k (.str k u) = true := strKind_is pw w _ _
  refine wpAny_call_entry F.slot_set_add ⟨_, ho, rfl⟩ F.entry_set_add ?_ (F.args_set_add_2 _ _)
  unfold Builtin.«set.add» Builtin.Frozenset.oneOther
  refine wpAny_bind ?_
  show wpAny _ _ (Builtin.Frozenset.addrOf (.ref a) >>= fun d => pure (d, Value.str k u)) _ _ _
  unfold Builtin.Frozenset.addrOf setAdd
  refine wpAny_bind (wpAny_pure (wpAny_pure ?_))
  dsimp only
  refine wpAny_bind ?_
  refine wpAny_holding ?_
  refine wpAny_bind ((strKind pw w).pyHash hkey ?_)
  unfold setAddHashed setAddHashedIn
  have hb : es.size < scanBound := by rw [hJ.sz]; have : scanBound = 4096 := rfl; lia
  refine wpAny_holding (wpAny_bind (wpAny_setState_of (s := { s with toks := s.toks + 1 }) ho rfl hJ.fit ?_))
  dsimp only
  rw [byScan_of (by rfl) hb hJ.el]
  rw [if_pos rfl]
  unfold setAddByScan
  refine wpAny_bind ?_
  refine wpAny_bind (wpAny_rule ?_)
  refine wpAny_bind (wpAny_setScan_of (s := { s with toks := s.toks + 1 }) hkey ho rfl hJ.fit hJ.el ?_)
  have hnone : List.findIdx? (fun e => (strKind pw w).is k e.2) es.toList = none := by
    rw [List.findIdx?_eq_none_iff]
    intro e he
    cases hp : (strKind pw w).is k e.2 with
    | false => rfl
    | true => exact absurd ((hJ.mem k).mpr ⟨e, he, hp⟩) hk
  rw [hnone]
  dsimp only
  have hperm := layNew_perm t es ((strKind pw w).hash k) (.str k u)
  have hfits := layNew_fits t es ((strKind pw w).hash k) (.str k u)
  obtain ⟨kd, km, kl, kp⟩ := lay_keeps hJ.dum hJ.mask es ((strKind pw w).hash k) (.str k u)
  generalize layNew t es ((strKind pw w).hash k) (.str k u) = LL at hperm hfits kd km kl kp ⊢
  obtain ⟨es1, t1, wd, gv⟩ := LL
  dsimp only at hperm hfits kd km kl kp ⊢
  rw [Array.toList_push] at hperm
  have hel1 : ElemsOf (strKind pw w) es1.toList := (hJ.el.push hkey (by rfl)).perm hperm
  have hsz1 : es1.size = es.size + 1 := by rw [← Array.length_toList, hperm.length_eq, List.length_append, Array.length_toList]; rfl
  have hmem1 : ∀ k', k' ∈ ks ++ [k] ↔ ∃ e ∈ es1.toList, (strKind pw w).is k' e.2 = true := fun k' => by
    have := mem_push_iff (S := fun y => decide (y ∈ ks)) hkey (fun y => by rw [decide_eq_true_eq]; exact hJ.mem y) hperm k'
    rw [← this]; simp
  have hlen := hJ.sz
  have hJ1 : ∀ t2 : SetTable, t2.fits es1.size = true → t2.dummies = #[] → 7 ≤ t2.mask → t2.led = t.led → t2.plain = false → SetJ w es1 t2 (ks ++ [k]) := fun t2 a1 a2 a3 a4 a5 =>
    ⟨hel1, hmem1, by rw [hsz1, hlen]; simp, by rw [List.nodup_append]; exact ⟨hJ.nd, by simp, fun x hx y hy e => hk (by rw [List.mem_singleton.mp hy] at e; exact e ▸ hx)⟩, a1, a2, a3, a4.trans hJ.led, fun _ => a5, by
      refine (hperm.map fun e => vkey e.2).trans ?_
      rw [List.map_append]
      exact hJ.kp.append (List.Perm.refl _)⟩
  have hend : ∀ (t2 : SetTable) (b : Bool), t2.fits es1.size = true → t2.dummies = #[] → 7 ≤ t2.mask → t2.led = t.led → t2.plain = false → ∀ {Q' : Option Bool → Shared → Prop},
      (∀ h', Heap.SameBut a s.heap h' → h'.get? a = some (setObj es1 (ep + 1) t2) → Q' (some true) { s with heap := h', toks := s.toks + 1 }) → ∀ {f : Sem (Option Bool)},
      wpAny (model pw w) A.in1 (do storeSet a es1 t2; if (!b && t2.tooFull) = true then f else pure (some true)) Q' (fun e s' => E e s') { s with toks := s.toks + 1 } := fun t2 b a1 a2 a3 a4 a5 {Q'} hq {f} => by
    refine wpAny_bind (wpAny_storeSet_of (s := { s with toks := s.toks + 1 }) ho rfl ?_ (by rw [hsz1]; have : sizeLine = 16777216 := rfl; lia))
    rw [not_full a1 a2 a3 (by lia), Bool.and_false]
    refine wpAny_ite_false rfl ?_
    refine wpAny_pure (hq _ (Heap.SameBut.update _ a _) ?_)
    have := Heap.get?_update_self (Obj.putSet es1 t2) ho (by rfl)
    exact this
  have hgw : ∀ (b : Bool) {s₁ : Shared} {Q' : Unit → Shared → Prop} {E' : Value → Shared → Prop}, Q' () s₁ → wpAny (model pw w) A.in1 (match b with | true => rule "set.scan.the-table-gave-way" | false => pure ()) Q' E' s₁ :=
    fun b s₁ Q' E' hq => by cases b <;> first | exact wpAny_pure hq | exact wpAny_rule hq
  have hfin : ∀ (t2 : SetTable) h', Heap.SameBut a s.heap h' → h'.get? a = some (setObj es1 (ep + 1) t2) → SetJ w es1 t2 (ks ++ [k]) → Q .none { s with heap := h', toks := s.toks + 1 } := fun t2 h' hsb hg hj => h h' es1 (ep + 1) t2 hsb hg hj
  refine wpAny_bind (hgw _ ?_)
  by_cases hp : t1.plain = true
  · rw [if_pos hp]
    refine wpAny_bind ?_
    rw [hashByValue_scannable 8 (by rfl)]
    refine wpAny_pure ?_
    dsimp only [plainKind]
    rw [if_neg Bool.false_ne_true]
    have a1 := SetTable.fits_plain_off hfits
    refine hend { t1 with plain := false } wd a1 kd km kl rfl (fun h' hsb hg => ?_)
    exact wpAny_pure (wpAny_pure ⟨_, rfl, hfin _ h' hsb hg (hJ1 _ a1 kd km kl rfl)⟩)
  · rw [if_neg hp]
    rw [Bool.not_eq_true] at hp
    refine wpAny_bind (wpAny_pure ?_)
    rw [if_pos rfl]
    refine hend t1 wd hfits kd km kl hp (fun h' hsb hg => ?_)
    exact wpAny_pure (wpAny_pure ⟨_, rfl, hfin _ h' hsb hg (hJ1 _ hfits kd km kl hp)⟩)
end
end Mine
end
section
open PySem PySem.W PyProof.Rows PySem.Calls PySem.Spec
set_option Elab.async false
set_option maxRecDepth 1000000
set_option maxHeartbeats 8000000
namespace Mine
/-! ## the walk through a set, in the world's order -/
namespace SF
theorem entry_iter : entryFor table "set.__iter__" = some Builtin.«frozenset.__iter__» := entryFor_alias (id' := "frozenset.__iter__") (by kernel_rfl) rfl (by decide +kernel) (by kernel_rfl)
theorem args_iter (a : Value) : argsOk "set.__iter__" ⟨[a], []⟩ := by unfold argsOk; kernel_rfl
theorem slot_next : Slot "set_iterator" "__next__" "set_iterator.__next__" :=
  .of (owner := "set_iterator") (n := "__next__") (by rw [typeLookup_type, builtinLookup_eq_fast]; kernel_rfl) (by decide +kernel) (by decide +kernel) (by decide +kernel)
    (by first | exact .inl (by decide +kernel) | exact .inr (by decide +kernel)) (by rw [isSubtype_type]; kernel_rfl)
theorem entry_next : entryFor table "set_iterator.__next__" = some Builtin.«set_iterator.__next__» := entryFor_of_tree (by kernel_rfl)
theorem args_next (a : Value) : argsOk "set_iterator.__next__" ⟨[a], []⟩ := by unfold argsOk; kernel_rfl
theorem slot_iter2 : Slot "set_iterator" "__iter__" "set_iterator.__iter__" :=
  .of (owner := "set_iterator") (n := "__iter__") (by rw [typeLookup_type, builtinLookup_eq_fast]; kernel_rfl) (by decide +kernel) (by decide +kernel) (by decide +kernel)
    (by first | exact .inl (by decide +kernel) | exact .inr (by decide +kernel)) (by rw [isSubtype_type]; kernel_rfl)
theorem entry_iter2 : entryFor table "set_iterator.__iter__" = some Builtin.«dict_keyiterator.__iter__» := entryFor_alias (id' := "dict_keyiterator.__iter__") (by kernel_rfl) rfl (by decide +kernel) (by kernel_rfl)
theorem args_iter2 (a : Value) : argsOk "set_iterator.__iter__" ⟨[a], []⟩ := by unfold argsOk; kernel_rfl
end SF
theorem erase_perm {α : Type} : ∀ (l : List α) (i : Nat) (h : i < l.length), (l[i] :: l.eraseIdx i).Perm l
  | x :: l, 0, _ => by simp
  | x :: l, i + 1, h => by
    have := erase_perm l i (by simpa using h)
    simp only [List.getElem_cons_succ, List.eraseIdx_cons_succ]
    exact (List.Perm.swap _ _ _).trans (this.cons x)
theorem wpA_choose {M : Model} {A : Around} {E : Value → Shared → Prop} {s : Shared} {src : Source} {n : Nat} {Q : Nat → Shared → Prop} (hn : n ≠ 0) (h : ∀ i, i < n → ∀ d, Q i { s with drawn := d }) : wpAny M A (choose src n) Q E s := fun Γ p hΓ => by
  show Sem.wp M Γ (Sem.choose src n .pure) _ _ p s
  rw [Sem.wp_choose]
  exact ⟨hn, h _ (Nat.mod_lt _ (Nat.pos_of_ne_zero hn)) _⟩
theorem wpA_drawOrder {M : Model} {A : Around} {E : Value → Shared → Prop} {α : Type} : ∀ (n : Nat) (xs : List α) {s : Shared} {Q : List α → Shared → Prop}, xs.length ≤ n → (∀ ys d, ys.Perm xs → Q ys { s with drawn := d }) → wpAny M A (drawOrder n xs) Q E s
  | 0, xs, s, Q, hn, h => by
    have : xs = [] := List.length_eq_zero_iff.mp (by lia)
    subst this
    exact wpAny_pure (h [] s.drawn .nil)
  | n + 1, [], s, Q, hn, h => wpAny_pure (h [] s.drawn .nil)
  | n + 1, x :: xs, s, Q, hn, h => by
    show wpAny _ _ (choose .order (x :: xs).length >>= _) _ _ _
    refine wpAny_bind (wpA_choose (by simp) fun i hi d => ?_)
    have hg : (x :: xs)[i]? = some ((x :: xs)[i]) := List.getElem?_eq_getElem hi
    rw [hg]
    dsimp only
    refine wpAny_bind (wpA_drawOrder n _ (by rw [List.length_eraseIdx_of_lt hi]; simp at hn ⊢; lia) fun ys d' hp => wpAny_pure ?_)
    refine h _ d' ?_
    refine (hp.cons _).trans ?_
    exact erase_perm _ i hi
theorem pickOrder_perm {α : Type} (f : Nat → Nat) (xs : Array α) : (pickOrder f xs).toList.Perm xs.toList := by
  have go : ∀ (n k : Nat) (left : List α) (out : Array α), left.length ≤ n → (pickOrder.go f n k left out).toList.Perm (out.toList ++ left) := by
    intro n
    induction n with
    | zero =>
      intro k left out hl
      have : left = [] := List.length_eq_zero_iff.mp (by lia)
      subst this
      show out.toList.Perm (out.toList ++ [])
      rw [List.append_nil]
    | succ n ih =>
      intro k left out hl
      have e : pickOrder.go f (n + 1) k left out = (match left[f k % left.length]? with | some x => pickOrder.go f n (k + 1) (left.eraseIdx (f k % left.length)) (out.push x) | none => out) := rfl
      rw [e]
      cases hx : left[f k % left.length]? with
      | some x =>
        have hi : f k % left.length < left.length := (List.getElem?_eq_some_iff.mp hx).1
        have hx' : left[f k % left.length] = x := (List.getElem?_eq_some_iff.mp hx).2
        show (pickOrder.go f n (k + 1) (left.eraseIdx (f k % left.length)) (out.push x)).toList.Perm _
        refine (ih (k + 1) _ _ (by rw [List.length_eraseIdx_of_lt hi]; lia)).trans ?_
        rw [Array.toList_push, List.append_assoc, List.singleton_append]
        refine List.Perm.append_left _ ?_
        rw [← hx']
        exact erase_perm _ _ hi
      | none =>
        have : left = [] := by
          cases left with
          | nil => rfl
          | cons y ys =>
            have hi : f k % (y :: ys).length < (y :: ys).length := Nat.mod_lt _ (by simp)
            rw [List.getElem?_eq_getElem hi] at hx; cases hx
        show out.toList.Perm (out.toList ++ left)
        rw [this, List.append_nil]
  have := go xs.size 0 xs.toList #[] (by simp)
  simpa [pickOrder] using this
noncomputable abbrev sitO (first : Value) (i : Nat) (a : Addr) (n ep : Nat) : Obj := { cls := .type "set_iterator", data := .fields #[first, .int i 0, .ref a, .int n 0, .int ep 0] }
section
variable {w : World} {A : Around} {E : Value → Shared → Prop} {s : Shared}
/-- the state of a walk: by the text's order, by the table, or by places drawn -/
noncomputable def SetSt (w : World) (I a : Addr) (es : Array (Int × Value)) (ep : Nat) (t : SetTable) (T : Option (Addr × List Nat)) (i : Nat) (h : Heap) : Prop :=
  h.get? a = some (setObj es ep t) ∧ ∃ first, h.get? I = some (sitO first i a es.size ep) ∧
    match T with
    | some (T, pl) => first = .ref T ∧ h.get? T = some (tupO (pl.map fun k : Nat => rawInt k).toArray)
    | none => ∃ sl : Nat, first = .int sl 0 ∧ (byT w = false → sl = if i = 0 then 0 else t.place.getD (i - 1) 0 + 1)
theorem set_iter {a : Addr} {es : Array (Int × Value)} {ep : Nat} {t : SetTable} {ks : List Str} {Q : Value → Shared → Prop} (ho : s.heap.get? a = some (setObj es ep t)) (hJ : SetJ w es t ks) (hsm : es.size ≤ 1000)
    (h : ∀ h' I d T, (∀ b o, s.heap.get? b = some o → h'.get? b = some o) → s.heap.objs.size ≤ I → SetSt w I a es ep t T 0 h' → (match T with | none => byT w = true ∨ es.size ≤ 1 | some (T, pl) => s.heap.objs.size ≤ T ∧ T ≠ I ∧ byT w = false ∧ pl.Perm (List.range es.size)) → Q (.ref I) { s with heap := h', drawn := d }) :
    wpAny (model pw w) A (pyIter (.ref a)) Q E s := by
  have hT : s.TypeIs (.ref a) "set" := ⟨_, ho, rfl⟩
  refine wpAny_pyIter_slot hT F.slot_set_iter (wpAny_call_entry F.slot_set_iter hT SF.entry_iter ?_ (SF.args_iter _))
  show wpAny _ _ (Builtin.Frozenset.sizeOf a >>= _) _ _ s
  unfold Builtin.Frozenset.sizeOf setEntries setDrawn setsByText
  refine wpAny_bind (wpAny_bind (wpAny_bind (wpAny_setState_of ho rfl hJ.fit (wpAny_pure (wpAny_pure ?_)))))
  refine wpAny_bind (wpAny_bind (wpAny_setState_of ho rfl hJ.fit ?_))
  dsimp only
  refine wpAny_bind (wpAny_bind (wpAny_askSetting (wpAny_pure (wpAny_pure ?_))))
  have hs : ∀ b o, s.heap.get? b = some o → b ≠ s.heap.objs.size := fun b o e => Nat.ne_of_lt (Heap.lt_size e)
  refine wpAny_ite_split (fun hc => ?_) fun hc => ?_
  · have hc : (!byT w && (!t.plain && decide (es.size > 1))) = true := hc
    simp only [Bool.and_eq_true, Bool.not_eq_true', decide_eq_true_eq] at hc
    refine wpAny_bind (wpA_drawOrder _ _ (by simp) fun pl d hp => ?_)
    refine wpAny_bind (wpAny_newTuple ?_ (by rw [List.length_map, hp.length_eq, List.length_range]; have : sizeLine = 16777216 := rfl; lia))
    unfold setEpoch
    refine wpAny_bind (wpAny_bind (wpAny_setState_of (Heap.get?_push_of_some _ ho) rfl hJ.fit (wpAny_pure ?_)))
    unfold newFields
    refine wpAny_bind (wpAny_newObj_type (wpAny_pure ⟨_, rfl, "set_iterator", _, ⟨_, Heap.get?_push_size _ rfl, rfl⟩, SF.slot_next.lookup, ?_⟩))
    refine h _ _ d (some (s.heap.objs.size, pl)) (fun b o e => Heap.get?_push_of_some _ (Heap.get?_push_of_some _ e)) (by rw [Heap.size_push]; lia) ⟨Heap.get?_push_of_some _ (Heap.get?_push_of_some _ ho), _, Heap.get?_push_size _ rfl, rfl, Heap.get?_push_of_some _ (Heap.get?_push_size _ rfl)⟩ ⟨Nat.le_refl _, by rw [Heap.size_push]; exact Nat.ne_of_lt (Nat.lt_succ_self _), hc.1, hp⟩
  · have hc : ¬ (!byT w && (!t.plain && decide (es.size > 1))) = true := hc
    refine wpAny_bind (wpAny_pure ?_)
    unfold setEpoch
    refine wpAny_bind (wpAny_bind (wpAny_setState_of ho rfl hJ.fit (wpAny_pure ?_)))
    unfold newFields
    refine wpAny_bind (wpAny_newObj_type (wpAny_pure ⟨_, rfl, "set_iterator", _, ⟨_, Heap.get?_push_size _ rfl, rfl⟩, SF.slot_next.lookup, ?_⟩))
    refine h _ _ s.drawn none (fun b o e => Heap.get?_push_of_some _ e) (Nat.le_refl _) ⟨Heap.get?_push_of_some _ ho, _, Heap.get?_push_size _ rfl, 0, rfl, fun _ => rfl⟩ ?_
    simp only [Bool.and_eq_true, Bool.not_eq_true', decide_eq_true_eq, not_and, Nat.not_lt] at hc
    dsimp only
    cases hb : byT w with
    | true => exact .inl rfl
    | false =>
      refine .inr ?_
      by_cases hz : es.size = 0
      · lia
      · exact hc hb (hJ.plain hz)

noncomputable def setVs (w : World) (a : Addr) (es : Array (Int × Value)) (ep : Nat) : Option (Addr × List Nat) → List Value
  | none => if byT w = true then (pickOrder (w.params.setOrder a ep) es).toList.map (·.2) else es.toList.map (·.2)
  | some (_, pl) => pl.map fun k => (es.getD k (0, .none)).2
noncomputable def setOk (w : World) (es : Array (Int × Value)) (I : Addr) : Option (Addr × List Nat) → Prop
  | none => byT w = true ∨ es.size ≤ 1
  | some (T, pl) => T ≠ I ∧ byT w = false ∧ pl.Perm (List.range es.size)
theorem below_one0 {xs : Array Nat} : SetTable.below xs 0 = 0 := by
  unfold SetTable.below
  have go : ∀ n lo hi, lo = 0 → SetTable.below.go xs 0 n lo hi = 0 := by
    intro n
    induction n with
    | zero => intro lo hi h; exact h
    | succ n ih =>
      intro lo hi h
      have e : SetTable.below.go xs 0 (n + 1) lo hi = if lo < hi then (if xs.getD ((lo + hi) / 2) 0 < 0 then SetTable.below.go xs 0 n ((lo + hi) / 2 + 1) hi else SetTable.below.go xs 0 n lo ((lo + hi) / 2)) else lo := rfl
      rw [e, if_neg (Nat.not_lt_zero _)]
      by_cases hlt : lo < hi
      · rw [if_pos hlt]; exact ih _ _ h
      · rw [if_neg hlt]; exact h
  exact go _ _ _ rfl
theorem below_one1 {xs : Array Nat} (h : xs.size ≤ 1) {j : Nat} (hj : xs.getD 0 0 + 1 = j) : xs.size ≤ SetTable.below xs j := by
  unfold SetTable.below
  by_cases h0 : xs.size = 0
  · lia
  · have h1 : xs.size = 1 := by lia
    rw [h1]
    show 1 ≤ if 0 < 1 then (if xs.getD ((0 + 1) / 2) j < j then (0 + 1) / 2 + 1 else 0) else 0
    rw [if_pos Nat.zero_lt_one]
    have e : xs.getD ((0 + 1) / 2) j = xs.getD 0 0 := by
      show xs.getD 0 j = xs.getD 0 0
      rw [Array.getD_eq_getD_getElem?, Array.getD_eq_getD_getElem?, Array.getElem?_eq_getElem (by lia)]; rfl
    rw [e, if_pos (by lia)]
    exact Nat.le_refl _
theorem wp_setNext {a : Addr} {es : Array (Int × Value)} {ep sl i : Nat} {t : SetTable} {ks : List Str} {Q : Option (Value × Nat) → Shared → Prop} (ho : s.heap.get? a = some (setObj es ep t)) (hJ : SetJ w es t ks) (hok : byT w = true ∨ es.size ≤ 1) (hi : i ≤ es.size)
    (hsl : byT w = false → sl = if i = 0 then 0 else t.place.getD (i - 1) 0 + 1)
    (h : ∀ nx, (byT w = false → nx = t.place.getD i 0 + 1) → Q (((setVs w a es ep none)[i]?).map fun v => (v, nx)) s) : wpAny (model pw w) A (setNext a sl i ep) Q E s := by
  have hf := hJ.fit
  simp only [SetTable.fits, Bool.and_eq_true, beq_iff_eq, decide_eq_true_eq] at hf
  unfold setNext setsByText
  refine wpAny_bind (wpAny_setState_of ho rfl hJ.fit ?_)
  dsimp only
  refine wpAny_bind (wpAny_bind (wpAny_askSetting (wpAny_pure ?_)))
  cases hb : byT w with
  | true =>
    rw [if_pos (show (model pw w).w.params.followText "set-order" = true from hb)]
    refine wpAny_ite_false (by simp) ?_
    unfold setWalk setsByText
    refine wpAny_bind (wpAny_bind (wpAny_setState_of ho rfl hJ.fit ?_))
    dsimp only
    refine wpAny_bind (wpAny_bind (wpAny_askSetting (wpAny_pure ?_)))
    rw [if_pos (show (model pw w).w.params.followText "set-order" = true from hb)]
    refine wpAny_bind (wpAny_askSetting (wpAny_pure (wpAny_pure ?_)))
    have := h sl (fun e => by rw [hb] at e; cases e)
    unfold setVs at this
    rw [if_pos hb, List.getElem?_map, Array.getElem?_toList, Option.map_map] at this
    exact this
  | false =>
    rw [if_neg (show ¬ (model pw w).w.params.followText "set-order" = true from by rw [show (model pw w).w.params.followText "set-order" = byT w from rfl, hb]; exact Bool.false_ne_true)]
    have hsz : es.size ≤ 1 := hok.elim (fun e => by rw [hb] at e; cases e) id
    have hd : ¬ (!t.plain && decide (es.size > 1)) = true := by
      rw [decide_eq_false (by lia), Bool.and_false]; exact Bool.false_ne_true
    refine wpAny_ite_false (decide_eq_false hd) ?_
    have hl : ¬ (!t.led && !es.isEmpty) = true := by rw [hJ.led, hb]; simp
    refine wpAny_bind ?_
    show wpAny _ _ (if (!t.led && !es.isEmpty) = true then _ else pure ()) _ _ _
    rw [if_neg hl]
    refine wpAny_pure (wpAny_pure ?_)
    have := h (t.place.getD i 0 + 1) (fun _ => rfl)
    unfold setVs at this
    rw [if_neg (by rw [hb]; exact Bool.false_ne_true), List.getElem?_map, Array.getElem?_toList, Option.map_map] at this
    rw [hsl hb]
    by_cases h0 : i = 0
    · subst h0
      rw [if_pos rfl, below_one0]
      cases he : es[0]? with
      | none => rw [he] at this; exact this
      | some e =>
        rw [he] at this
        have hpl : 0 < t.place.size := by have := (Array.getElem?_eq_some_iff.mp he).1; lia
        rw [Array.getElem?_eq_getElem hpl]
        rw [show t.place.getD 0 0 = t.place[0] by rw [Array.getD_eq_getD_getElem?, Array.getElem?_eq_getElem hpl]; rfl] at this
        exact this
    · have h1 : i = 1 := by lia
      subst h1
      rw [if_neg (by lia)]
      have hbl := below_one1 (xs := t.place) (by lia) (j := t.place.getD (1 - 1) 0 + 1) rfl
      have he : es[SetTable.below t.place (t.place.getD (1 - 1) 0 + 1)]? = none := Array.getElem?_eq_none (by lia)
      rw [he]
      rw [show es[1]? = none from Array.getElem?_eq_none (by lia)] at this
      exact this
theorem set_next_item {I a : Addr} {es : Array (Int × Value)} {ep : Nat} {t : SetTable} {ks : List Str} {T : Option (Addr × List Nat)} {i : Nat} {v : Value} {Q : Option Value → Shared → Prop} (hJ : SetJ w es t ks) (hst : SetSt w I a es ep t T i s.heap) (hok : setOk w es I T) (hIa : I ≠ a)
    (hv : (setVs w a es ep T)[i]? = some v) (h : ∀ h', SetSt w I a es ep t T (i + 1) h' → Heap.SameBut I s.heap h' → Q (some v) { s with heap := h' }) : wpAny (model pw w) A (pyNext (.ref I)) Q E s := by
  obtain ⟨ho, first, hI, hfirst⟩ := hst
  have hT : s.TypeIs (.ref I) "set_iterator" := ⟨_, hI, rfl⟩
  unfold pyNext
  refine wpAny_bind (wpAny_attempt (wpAny_callSpecial?_slot (name := Str.ofString "__next__") hT SF.slot_next (wpAny_call_entry SF.slot_next hT SF.entry_next ?_ (SF.args_next _))))
  unfold Builtin.«set_iterator.__next__»
  show wpAny _ _ (fieldsOf (.ref I) >>= _) _ _ s
  refine wpAny_bind (wpAny_fieldsOf hI rfl ?_)
  dsimp only
  unfold setEntries
  refine wpAny_bind (wpAny_bind (wpAny_setState_of ho rfl hJ.fit (wpAny_pure ?_)))
  refine wpAny_ite_false (by simp) ?_
  cases T with
  | none =>
    obtain ⟨sl, rfl, hsl⟩ := hfirst
    dsimp only
    have hlen : (setVs w a es ep none).length = es.size := by
      rw [show setVs w a es ep none = if byT w = true then (pickOrder (w.params.setOrder a ep) es).toList.map (·.2) else es.toList.map (·.2) from rfl]
      by_cases hb : byT w = true
      · rw [if_pos hb, List.length_map, (pickOrder_perm _ es).length_eq, Array.length_toList]
      · rw [if_neg hb, List.length_map, Array.length_toList]
    have hi : i < es.size := hlen ▸ (List.getElem?_eq_some_iff.mp hv).1
    refine wpAny_bind (wp_setNext (sl := sl) (i := i) (ep := ep) ho hJ hok (by lia) hsl fun nx hnx => ?_)
    rw [hv]
    dsimp only [Option.map_some]
    refine wpAny_bind (wpAny_setField_rec hI (by simp) fun h1 g1 s1 => wpAny_bind (wpAny_setField_rec g1 (by simp) fun h2 g2 s2 => ?_))
    refine wpAny_pure ⟨v, rfl, wpAny_pure (h h2 ⟨?_, _, g2, nx, rfl, fun e => by rw [hnx e]; rfl⟩ (s1.trans s2))⟩
    rw [s2.2 a hIa.symm, s1.2 a hIa.symm]; exact ho
  | some T =>
    obtain ⟨T, pl⟩ := T
    obtain ⟨rfl, hTt⟩ := hfirst
    dsimp only
    obtain ⟨hTI, hb, hpl⟩ := hok
    refine wpAny_bind (wpAny_seqItems hTt rfl ?_)
    dsimp only
    unfold setVs at hv
    rw [List.getElem?_map] at hv
    cases hp : pl[i]? with
    | none => rw [hp] at hv; cases hv
    | some k =>
      rw [hp] at hv
      have hv : (es.getD k (0, .none)).2 = v := by simpa using hv
      have hk : k < es.size := by have := hpl.mem_iff.mp (List.mem_of_getElem? hp); simpa using this
      have he : es[k]? = some es[k] := Array.getElem?_eq_getElem hk
      have hq : (pl.map fun k : Nat => rawInt k).toArray[i]? = some (rawInt k) := by simp [hp]
      rw [show (pl.map fun k : Nat => rawInt k).toArray[((i : Nat) : Int).toNat]? = some (rawInt k) from hq]
      unfold setNextDrawn
      dsimp only [rawInt]
      refine wpAny_bind (wpAny_bind (wpAny_setState_of ho rfl hJ.fit ?_))
      dsimp only
      refine wpAny_ite_false (by simp) ?_
      rw [show es[((k : Nat) : Int).toNat]? = some es[k] from he]
      refine wpAny_pure (wpAny_bind (wpAny_setField_rec hI (by simp) fun h1 g1 s1 => ?_))
      have hv' : es[k].2 = v := by rw [← hv, Array.getD_eq_getD_getElem?, he]; rfl
      refine wpAny_pure ⟨_, rfl, wpAny_pure ?_⟩
      show Q (some es[k].2) _
      rw [hv']
      refine h h1 ⟨?_, _, g1, rfl, ?_⟩ s1
      · rw [s1.2 a hIa.symm]; exact ho
      · rw [s1.2 T hTI]; exact hTt

theorem stop_walk {I : Addr} {h1 : Heap} {Q : Option Value → Shared → Prop} (hh : A.handled = none) (hx : Heap.ExtBut I s.heap h1) (hQ : ∀ h', Heap.ExtBut I s.heap h' → Q none { s with heap := h' }) :
    wpAny (model pw w) A.in1 (newExc (.type "StopIteration") [] >>= fun x => raiseNew x) (fun (fin : Fin) s' => ∃ v, fin = Fin.done (Flow.ret v) ∧ wpAny (model pw w) A (pure (some v)) Q E s')
      (fun e s' => wpAny (model pw w) A (do if ← isInstance e (.type "StopIteration") then pure none else throw e) Q E s') { s with heap := h1 } := by
  refine wpAny_bind ?_
  unfold newExc newTuple
  refine wpAny_bind (wpAny_newObj_type ?_ (by size_fits))
  refine wpAny_bind (m := firstArgMember _ _) (wpAny_of_eq (a := Value.none) (by first | rfl | (unfold firstArgMember; rfl)) ?_)
  refine wpAny_newObj_type ?_ (by size_fits)
  unfold raiseNew
  refine wpAny_bind (wpAny_handled ?_)
  rw [show A.in1.handled = none from hh]
  refine wpAny_bind (wpAny_pure (wpAny_throw ?_))
  refine wpAny_bind (wpAny_isInstance (T := "StopIteration") (b := true) ⟨_, Heap.get?_push_size _ rfl, rfl⟩ isSubtype_stop ?_)
  exact wpAny_pure (hQ _ ((hx.push _).push _))
theorem set_next_end {I a : Addr} {es : Array (Int × Value)} {ep : Nat} {t : SetTable} {ks : List Str} {T : Option (Addr × List Nat)} {i : Nat} {Q : Option Value → Shared → Prop} (hh : A.handled = none) (hJ : SetJ w es t ks) (hst : SetSt w I a es ep t T i s.heap) (hok : setOk w es I T)
    (hi : i = es.size) (h : ∀ h', Heap.ExtBut I s.heap h' → Q none { s with heap := h' }) : wpAny (model pw w) A (pyNext (.ref I)) Q E s := by
  obtain ⟨ho, first, hI, hfirst⟩ := hst
  have hT : s.TypeIs (.ref I) "set_iterator" := ⟨_, hI, rfl⟩
  unfold pyNext
  refine wpAny_bind (wpAny_attempt (wpAny_callSpecial?_slot (name := Str.ofString "__next__") hT SF.slot_next (wpAny_call_entry SF.slot_next hT SF.entry_next ?_ (SF.args_next _))))
  unfold Builtin.«set_iterator.__next__»
  show wpAny _ _ (fieldsOf (.ref I) >>= _) _ _ s
  refine wpAny_bind (wpAny_fieldsOf hI rfl ?_)
  dsimp only
  unfold setEntries
  refine wpAny_bind (wpAny_bind (wpAny_setState_of ho rfl hJ.fit (wpAny_pure ?_)))
  refine wpAny_ite_false (by simp) ?_
  cases T with
  | none =>
    obtain ⟨sl, rfl, hsl⟩ := hfirst
    dsimp only
    have hlen : (setVs w a es ep none).length = es.size := by
      rw [show setVs w a es ep none = if byT w = true then (pickOrder (w.params.setOrder a ep) es).toList.map (·.2) else es.toList.map (·.2) from rfl]
      by_cases hb : byT w = true
      · rw [if_pos hb, List.length_map, (pickOrder_perm _ es).length_eq, Array.length_toList]
      · rw [if_neg hb, List.length_map, Array.length_toList]
    refine wpAny_bind (wp_setNext (sl := sl) (i := i) (ep := ep) ho hJ hok (by lia) hsl fun nx hnx => ?_)
    rw [List.getElem?_eq_none (by lia)]
    dsimp only [Option.map_none]
    refine wpAny_bind (wpAny_setField_rec hI (by simp) fun h1 g1 s1 => ?_)
    exact stop_walk (s := s) hh s1.extBut h
  | some T =>
    obtain ⟨T, pl⟩ := T
    obtain ⟨rfl, hTt⟩ := hfirst
    dsimp only
    obtain ⟨hTI, hb, hpl⟩ := hok
    refine wpAny_bind (wpAny_seqItems hTt rfl ?_)
    dsimp only
    rw [show (pl.map fun k : Nat => rawInt k).toArray[((i : Nat) : Int).toNat]? = none from Array.getElem?_eq_none (by have := hpl.length_eq; simp at this ⊢; lia)]
    dsimp only
    refine wpAny_bind (wpAny_setField_rec hI (by simp) fun h1 g1 s1 => wpAny_bind (wpAny_setField_rec g1 (by simp) fun h2 g2 s2 => ?_))
    exact stop_walk (s := s) hh (s1.trans s2).extBut h
theorem set_vs {a I : Addr} {es : Array (Int × Value)} {ep : Nat} {T : Option (Addr × List Nat)} (hok : setOk w es I T) : (setVs w a es ep T).Perm (es.toList.map (·.2)) := by
  cases T with
  | none =>
    rw [show setVs w a es ep none = if byT w = true then (pickOrder (w.params.setOrder a ep) es).toList.map (·.2) else es.toList.map (·.2) from rfl]
    by_cases hb : byT w = true
    · rw [if_pos hb]; exact (pickOrder_perm _ es).map _
    · rw [if_neg hb]
  | some T =>
    obtain ⟨T, pl⟩ := T
    obtain ⟨_, _, hpl⟩ := hok
    refine (hpl.map fun k => (es.getD k (0, .none)).2).trans ?_
    have : (List.range es.size).map (fun k => (es.getD k (0, .none)).2) = es.toList.map (·.2) := by
      apply List.ext_getElem
      · simp
      · intro i h1 h2
        simp at h1
        simp [h1]
    rw [this]
theorem Walks.setJ (hh : A.handled = none) {I a : Addr} {es : Array (Int × Value)} {ep : Nat} {t : SetTable} {ks : List Str} {T : Option (Addr × List Nat)} (hJ : SetJ w es t ks) (hok : setOk w es I T) (hIa : I ≠ a) :
    Walks pw w A I (I :: a :: (match T with | some (T, _) => [T] | none => [])) [I] es.size (fun i v => (setVs w a es ep T)[i]? = some v) (SetSt w I a es ep t T) where
  sub := fun b hb => by rw [List.mem_singleton.mp hb]; exact .head _
  frame := fun i h h' st hk => by
    obtain ⟨ho, first, hI, hf⟩ := st
    refine ⟨hk a (.tail _ (.head _)) _ ho, first, hk I (.head _) _ hI, ?_⟩
    cases T with
    | none => exact hf
    | some T => obtain ⟨T, pl⟩ := T; exact ⟨hf.1, hk T (.tail _ (.tail _ (.head _))) _ hf.2⟩
  item := fun i s Q E hi st hQ => by
    have hlen : (setVs w a es ep T).length = es.size := by rw [(set_vs (a := a) (ep := ep) hok).length_eq, List.length_map, Array.length_toList]
    have hv : (setVs w a es ep T)[i]? = some ((setVs w a es ep T)[i]'(by lia)) := List.getElem?_eq_getElem (by lia)
    refine set_next_item hJ st hok hIa hv fun h' st' hs => ?_
    exact hQ _ h' s.toks hv st' fun b o hb e => hs.extBut b o (fun h => hb (by simp [h])) e
  done := fun s Q E st hQ => set_next_end hh hJ st hok rfl fun h' he => hQ h' s.toks fun b o hb e => he b o (fun h => hb (by simp [h])) e
  self := fun i s Q E st hQ => by
    obtain ⟨_, first, hI, _⟩ := st
    have hT : s.TypeIs (.ref I) "set_iterator" := ⟨_, hI, rfl⟩
    refine wpAny_pyIter_slot hT SF.slot_iter2 (wpAny_call_entry SF.slot_iter2 hT SF.entry_iter2 ?_ (SF.args_iter2 _))
    show wpAny _ _ (ret (.ref I)) _ _ s
    exact wpAny_pure ⟨_, rfl, "set_iterator", _, hT, SF.slot_next.lookup, hQ⟩
end
end Mine
end
section
open PySem PySem.W PyProof.Rows PySem.Calls PySem.Spec
set_option Elab.async false
set_option maxRecDepth 1000000
set_option maxHeartbeats 8000000
namespace Mine
section
variable {w : World} {A : Around} {E : Value → Shared → Prop} {s : Shared} {env : Env} {g : Heap} {x : Str} {body : List Stmt} {Q : Flow → Shared → Prop} {m : Str → Option Value} {news : List (Addr × Obj)}
/-- for x in a set of the ledger; vs: the order, which the world chooses -/
theorem loopSet {a : Addr} {es : Array (Int × Value)} {ep : Nat} {t : SetTable} {ks : List Str} (hh : A.handled = none) (hJ : SetJ w es t ks) (hsm : es.size ≤ 1000)
    (F : Fr g env.locals s.heap m) (N : News g env.locals s.heap ((a, setObj es ep t) :: news)) (hkn : ∀ p ∈ news, p.1 ≠ a) (J : List Value → Nat → (Str → Option Value) → List (Addr × Obj) → Prop) (h0 : ∀ vs : List Value, vs.Perm (es.toList.map (·.2)) → J vs 0 m news)
    (step : ∀ vs i v m₁ news₁ h tk own dr, vs.Perm (es.toList.map (·.2)) → vs[i]? = some v → J vs i m₁ news₁ → (a, setObj es ep t) ∈ own → (∀ p ∈ news₁, ∀ o ∈ own, p.1 ≠ o.1) → Fr g env.locals h (fun y => if y = x then some v else m₁ y) → News g env.locals h (own ++ news₁) →
      wpAny (model pw w) A (execs body env) (TurnEnd g env.locals { s with heap := h, toks := tk, drawn := dr } own (J vs (i + 1)) Q) E { s with heap := h, toks := tk, drawn := dr })
    (done : ∀ vs h' tk m' news' dr, vs.Perm (es.toList.map (·.2)) → Fr g env.locals h' m' → News g env.locals h' ((a, setObj es ep t) :: news') → (∀ p ∈ news', p.1 ≠ a) → J vs es.size m' news' → Q .next { s with heap := h', toks := tk, drawn := dr }) :
    wpAny (model pw w) A (pyIter (.ref a)) (fun it s₂ => LoopAtV pw w A g env x body Q E it s₂) E s := by
  have hga : g.get? a = none := (N _ (.head _)).2.2
  have haL : a ≠ env.locals := (N _ (.head _)).2.1
  have hup : ∀ c, s.heap.objs.size ≤ c → g.get? c = none ∧ c ≠ env.locals := fun c hc => by
    refine ⟨?_, ?_⟩
    · cases e : g.get? c with
      | none => rfl
      | some o => exact absurd (Heap.lt_size (F.keep _ _ e)) (Nat.not_lt.mpr hc)
    · rintro rfl
      obtain ⟨oL, _, _, hL, _⟩ := F.ns
      exact absurd (Heap.lt_size hL) (Nat.not_lt.mpr hc)
  refine set_iter (N _ (.head _)).1 hJ hsm fun h' I d T hk hI st hcond => ?_
  have hIa : I ≠ a := fun e => by
    have := Heap.lt_size (N _ (.head _)).1
    rw [e] at hI; exact absurd this (Nat.not_lt.mpr hI)
  have F' := F.kept hk
  have hlive : ∀ i h, SetSt w I a es ep t T i h → ∃ o, h.get? I = some o := fun i h ⟨_, first, hi, _⟩ => ⟨_, hi⟩
  have hnI : ∀ p ∈ (a, setObj es ep t) :: news, p.1 ≠ I := fun p hp => Nat.ne_of_lt (Nat.lt_of_lt_of_le (Heap.lt_size (N p hp).1) hI)
  cases T with
  | none =>
    have hok : setOk w es I none := hcond
    refine loop1 (kl := [(a, setObj es ep t)]) (fp := [I, a]) (Walks.setJ hh hJ hok hIa) (fun b hb => ?_) (.head _) hlive (hup I hI).1 (hup I hI).2 hnI st F' (fun p hp => ⟨hk _ _ (N p hp).1, (N p hp).2⟩) (fun p hp o ho => by rw [List.mem_singleton.mp ho]; exact hkn p hp) (J (setVs w a es ep none)) (h0 _ (set_vs hok)) ?_ ?_
    · rcases List.mem_cons.mp hb with rfl | hb
      · exact .inl rfl
      · exact .inr (.inr ⟨_, by rw [List.mem_singleton.mp hb]; exact .head _⟩)
    · rintro i v m₁ news₁ h tk oI hi hP hJ' hoff F₁ N₁
      exact step (setVs w a es ep none) i v m₁ news₁ h tk _ d (set_vs hok) hP hJ' (.tail _ (.head _)) hoff F₁ N₁
    · rintro h₂ tk m' news' F₂ N₂ hd hJ'
      exact done (setVs w a es ep none) h₂ tk m' news' d (set_vs hok) F₂ N₂ (fun p hp => hd p hp _ (.head _)) hJ'
  | some T =>
    obtain ⟨T, pl⟩ := T
    obtain ⟨c1, c2, c3, c4⟩ := hcond
    have hok : setOk w es I (some (T, pl)) := ⟨c2, c3, c4⟩
    have hTo : h'.get? T = some (tupO (pl.map fun k : Nat => rawInt k).toArray) := by obtain ⟨_, first, _, _, h⟩ := st; exact h
    refine loop1 (kl := [(a, setObj es ep t), (T, tupO (pl.map fun k : Nat => rawInt k).toArray)]) (fp := [I, a, T]) (Walks.setJ hh hJ hok hIa) (fun b hb => ?_) (.head _) hlive (hup I hI).1 (hup I hI).2 (fun p hp => ?_) st F' (fun p hp => ?_) (fun p hp o ho => ?_) (J (setVs w a es ep (some (T, pl)))) (h0 _ (set_vs hok)) ?_ ?_
    · rcases List.mem_cons.mp hb with rfl | hb
      · exact .inl rfl
      · rcases List.mem_cons.mp hb with rfl | hb
        · exact .inr (.inr ⟨_, .head _⟩)
        · exact .inr (.inr ⟨_, by rw [List.mem_singleton.mp hb]; exact .tail _ (.head _)⟩)
    · rcases List.mem_cons.mp hp with rfl | hp
      · exact hnI _ (.head _)
      · rcases List.mem_cons.mp hp with rfl | hp
        · exact c2
        · exact hnI p (.tail _ hp)
    · rcases List.mem_cons.mp hp with rfl | hp
      · exact ⟨hk _ _ (N _ (.head _)).1, (N _ (.head _)).2⟩
      · rcases List.mem_cons.mp hp with rfl | hp
        · exact ⟨hTo, (hup T c1).2, (hup T c1).1⟩
        · exact ⟨hk _ _ (N p (.tail _ hp)).1, (N p (.tail _ hp)).2⟩
    · rcases List.mem_cons.mp ho with rfl | ho
      · exact hkn p hp
      · rw [List.mem_singleton.mp ho]
        exact Nat.ne_of_lt (Nat.lt_of_lt_of_le (Heap.lt_size (N p (.tail _ hp)).1) c1)
    · rintro i v m₁ news₁ h tk oI hi hP hJ' hoff F₁ N₁
      exact step (setVs w a es ep (some (T, pl))) i v m₁ news₁ h tk _ d (set_vs hok) hP hJ' (.tail _ (.head _)) hoff F₁ N₁
    · rintro h₂ tk m' news' F₂ N₂ hd hJ'
      exact done (setVs w a es ep (some (T, pl))) h₂ tk m' news' d (set_vs hok) F₂ (fun p hp => N₂ p (by
        rcases List.mem_cons.mp hp with rfl | hp
        · exact .head _
        · exact .tail _ (.tail _ hp))) (fun p hp => hd p hp _ (.head _)) hJ'
end
end Mine
end
section
open PySem PySem.W PyProof.Rows PySem.Calls PySem.Spec
set_option Elab.async false
set_option maxRecDepth 1000000
set_option maxHeartbeats 8000000
namespace Mine
theorem regJU (P : Params) : K P = [] ∨ PySem.Challenge.rw_kl0396_01.name = PySem.Challenge.rw_kl0396_01.name := by
  k_fill
  exact .inr rfl
noncomputable def jkc (c : Nat) : Bool := c == 32 || c == 9
theorem junk {w : World} {dp un : Nat} {fr : Option (List Env)} {gd : Option (List Code)} {s : Shared} {R : Result → Shared → Prop} {g : Heap} {mg mb : Str → Option Value} {c : Nat} {u : Tok}
    (hkp : ∀ b o, g.get? b = some o → s.heap.get? b = some o) (X : (K w.params).In g) (T : TopRead q (looseW q loose) mg mb g) (hd : dp < 500)
    (hRes : ∀ h' tk, (∀ b o, s.heap.get? b = some o → h'.get? b = some o) → R (.ok (.ret (.bool (jkc c)))) { s with heap := h', toks := tk }) :
    codeAny (model pw w) (AR dp un fr gd) (.call (.ref 254) ⟨[.str ⟨#[c]⟩ u], []⟩) R s := by
  have N : Led g s.heap [] := fun r hr => nomatch hr
  refine enterL [("ch", .str ⟨#[c]⟩ u), ("ws", .str " \t" 583)] hkp X T N (by k_is) (by k_is) (Nat.lt_trans hd (by decide)) (by first | exact BindsTo.of_eq rfl | exact binds_K (X.keeps hkp) rfl (by k_is) rfl rfl rfl) (locs rfl) ?_ (by decide) rfl rfl rfl
  clear X T N
  intro g' L h₁ hin hof hno X T F N hlt
  conv in execs _ _ => arg 1; whnf
  conv in (occs := *) envX _ _ _ _ _ _ => all_goals (arg 2; whnf)
  (try k_fold)
  k_steps
  show R (.ok (.ret (.bool !(Builtin.Str.occurrences (Str.ofString " \t") ⟨#[c]⟩ 0 (Str.ofString " \t").length 1).isEmpty))) _
  rw [PySem.StrLaws.found_one, show (Str.ofString " \t").cps.toList = [32, 9] from by decide +kernel]
  rw [show decide (c ∈ [32, 9]) = jkc c from by unfold jkc; by_cases h1 : c = 32 <;> by_cases h2 : c = 9 <;> simp [h1, h2]]
  rename Fr _ _ _ _ => F9
  exact hRes _ _ fun b o e => F9.keep b o (hin b o e fun hm => nomatch hm)
end Mine
end
section
open PySem PySem.W PyProof.Rows PySem.Calls PySem.Spec
set_option Elab.async false
set_option maxRecDepth 1000000
set_option maxHeartbeats 8000000
namespace Mine
/-! ## comprehensions, their turns said by a word J -/
theorem rest_of {w : World} {A : Around} {h₀ : Heap} {L : Addr} {m : Str → Option Value} {env : Env} {elt : Expr} {x : Str} {scope : Scope} {cl : List (Str × Addr)} {s : Shared} {S : List (Addr × Obj) → Prop} {P : Nat → Value → Prop} {Fin : List Value → List (Addr × Obj) → Prop} {n : Nat}
    (J : Nat → List Value → List (Addr × Obj) → Prop)
    (step : ∀ i ys news v I oI C oC D m₂ h tk (E' : Value → Shared → Prop), i < n → J i ys news → P i v → LCg.NsObj oC m₂ → m₂ x = some v → Fr h₀ L h m → News h₀ L h ((I, oI) :: (C, oC) :: (D, LCg.lst ys) :: news) → LCg.Off3 I C D news → ((@Ne Nat I C) ∧ (@Ne Nat I D) ∧ (@Ne Nat C D)) →
      wpAny (model pw w) A (eval elt (compEnvC scope cl C env)) (LCg.CompEnd h₀ L m { s with heap := h, toks := tk } I oI C oC D (LCg.lst ys) S (fun y news' => J (i + 1) (ys ++ [y]) news')) E' { s with heap := h, toks := tk })
    (fin : ∀ ys news, J n ys news → Fin ys news) : ∀ k i ys news, i + k = n → J i ys news → LCg.CompRest pw w A h₀ L m env elt x scope cl s S P Fin k i ys news
  | 0, i, ys, news, hk, hJ => LCg.CompRest.zero (fin ys news (by rw [← hk]; exact hJ))
  | k + 1, i, ys, news, hk, hJ => LCg.CompRest.succ fun v I oI C oC D m₂ h tk E' hP hC hx F N off ne =>
    wpAny_mono (step i ys news v I oI C oC D m₂ h tk E' (by omega) hJ hP hC hx F N off ne) (fun y s₂ hE => by
      obtain ⟨h', tk', news', rfl, F', N', off', hS, hj⟩ := hE
      exact ⟨h', tk', news', rfl, F', N', off', hS, rest_of J step fin k (i + 1) _ _ (by omega) hj⟩) fun _ _ e => e
/-- a def with cells is entered; the base within is the heap -/
theorem enterC {w : World} {A : Around} {s : Shared} {R : Result → Shared → Prop} {f : Addr} {g : Heap} {mg mb : Str → Option Value} {name : Str} {params : Arguments} {body : List Stmt} {scope : Scope}
    {doc pm cdv oc : Value} {od : Option Addr} {osl : Array (Option Value)} {args : List Value} (binds : List (Str × Value))
    (hkp : ∀ b o, g.get? b = some o → s.heap.get? b = some o)
    (X : (K w.params).In g) (T : TopRead q (looseW q loose) mg mb g)
    (ho : (K w.params).lookup f = some ⟨oc, od, .func (Calls.docDef name params body scope pm cdv doc), osl⟩) (hcd : codeIn (K w.params) cdv name = true)
    (hroom : A.depth < recursionLimit)
    (hbind : bindArgs (Calls.docDef name params body scope pm cdv doc) ⟨args, []⟩ = pure binds)
    (hkind : (binds.all fun y => scope.names.lookup y.1 == some .local || scope.names.lookup y.1 == some .cell) = true)
    (hnd : ((cellsFrom 0 scope.names []).map (·.1)).Nodup)
    (h : ∀ L h₁ tk cells, (K w.params).In s.heap → TopRead q (looseW q loose) mg mb s.heap → Fr s.heap L h₁ (bindL (envOfC name scope L f cdv).kindOf binds fun _ => none) → News s.heap L h₁ cells →
      CellsAre (bindC (envOfC name scope L f cdv).kindOf binds fun _ => none) (cellsFrom (L + 1) scope.names []) cells →
      wpAny (model pw w) (A.deeper (envOfC name scope L f cdv)) (execs body (envOfC name scope L f cdv))
        (fun fl s' => R (.ok (.ret (match fl with | .ret v => v | _ => .none))) s') (fun _ _ => False) { s with heap := h₁, toks := tk })
    (hco : scope.isCoroutine = false) (hgen : scope.isGenerator = false) (hk : scope.kind = .function) :
    codeAny (model pw w) A (.call (.ref f) ⟨args, []⟩) R s := by
  have hX := X.keeps hkp
  exact call_cellsN_ret hroom (hX _ _ ho) rfl (T.nolimit.keeps hkp) (codeRec_of hX hcd) hbind (kindsX hkind _) hnd (fun h₁ tk cells F N Y => h _ h₁ tk cells hX (T.keeps hkp) F N Y) hco hgen hk
/-- l[k], l a list at hand -/
theorem disp_at {w : World} {A : Around} {E : Value → Shared → Prop} {s : Shared} {value slice : Expr} {l : Addr} {items : Array Value} {k : Int} {u : Tok} {x : Value} {Q : Value → Shared → Prop} (hl : s.heap.IsList l items) (h0 : 0 ≤ k) (hfit : k < 2 ^ 63) (hx : items[k.toNat]? = some x) (h : Q x s)
    (hs : subscripted slice false (.ref l) (.int k u) = operate [.ref l, .int k u] (getItem (.ref l) (.int k u)) := by with_unfolding_all rfl) : wpAny (model pw w) A (subscriptTail value slice (.ref l) (.int k u)) Q E s :=
  subscriptTail_builtinR hl.typeIs slot_list_getitem.lookup (wpAny_getItem_list hl h0 hfit hx ⟨rfl, h⟩) hs
/-- the p-th figure by 3 -/
noncomputable def dg (z : Int) (p : Nat) : Nat := ((z.fdiv (3 ^ p)).fmod 3).toNat
theorem dg_lt (z : Int) (p : Nat) : dg z p < 3 := by
  unfold dg
  have h1 := Int.fmod_nonneg_of_pos (z.fdiv (3 ^ p)) (b := 3) (by decide)
  have h2 := Int.fmod_lt_of_pos (z.fdiv (3 ^ p)) (b := 3) (by decide)
  omega
theorem dg_int (z : Int) (p : Nat) : (z.fdiv (3 ^ p)).fmod 3 = (dg z p : Int) := by
  unfold dg
  have h1 := Int.fmod_nonneg_of_pos (z.fdiv (3 ^ p)) (b := 3) (by decide)
  omega
/-- t[k], t a tuple at hand -/
theorem tup_at {w : World} {A : Around} {E : Value → Shared → Prop} {s : Shared} {value slice : Expr} {l : Addr} {items : Array Value} {k : Int} {u : Tok} {j : Nat} {x : Value} {Q : Value → Shared → Prop} (ht : IsTup s.heap l items) (hlo : -(2 ^ 63) ≤ k) (hhi : k < 2 ^ 63) (hj : seqIndex? k items.size = some j) (hx : items[j]? = some x) (h : Q x s)
    (hs : subscripted slice false (.ref l) (.int k u) = operate [.ref l, .int k u] (getItem (.ref l) (.int k u)) := by with_unfolding_all rfl) : wpAny (model pw w) A (subscriptTail value slice (.ref l) (.int k u)) Q E s :=
  subscriptTail_builtinR ht.typeIs slot_tuple_getitem.lookup (getItem_tuple ht hlo hhi hj hx ⟨rfl, h⟩) hs
end Mine
end
section
open PySem PySem.W PyProof.Rows PySem.Calls PySem.Spec
set_option Elab.async false
set_option maxRecDepth 1000000
set_option maxHeartbeats 8000000
namespace Mine
noncomputable def cat (ss : List Str) : Str := ⟨(ss.flatMap fun s => s.cps.toList).toArray⟩
theorem strs_values {vs : List Value} {ss : List Str} (H : StrsAre vs ss) : ∃ l : List (Str × Tok), vs = strValues l ∧ l.map (·.1) = ss := by
  induction H with
  | nil => exact ⟨[], rfl, rfl⟩
  | cons y t _ ih =>
    obtain ⟨l, e1, e2⟩ := ih
    exact ⟨(y, t) :: l, congrArg _ e1, congrArg _ e2⟩
theorem strs_append {vs ws : List Value} {ss ts : List Str} (h1 : StrsAre vs ss) (h : StrsAre ws ts) : StrsAre (vs ++ ws) (ss ++ ts) := by
  induction h1 with
  | nil => exact h
  | cons y t _ ih => exact .cons y t ih
theorem join_cat : ∀ ss : List Str, Str.join "" ss = cat ss
  | [] => rfl
  | [x] => by unfold cat; simp [Str.join]
  | x :: y :: r => by
    have := join_cat (y :: r)
    have e : Str.join "" (x :: y :: r) = x ++ "" ++ Str.join "" (y :: r) := rfl
    rw [e, this]
    unfold cat
    show (⟨x.cps ++ #[] ++ _⟩ : Str) = _
    simp
theorem join_strs {w : World} {A : Around} {E : Value → Shared → Prop} {s : Shared} {D : Addr} {vs : List Value} {ss : List Str} {t : Tok} {Q : Value → Shared → Prop} (hl : s.heap.IsList D vs.toArray) (hs : StrsAre vs ss) (hb : ∀ y ∈ ss, y.length ≤ 1000) (hn : ss.length ≤ 1000)
    (hq : ∀ t' k, Q (.str (cat ss) t') { s with toks := k }) : wpAny (model pw w) A (call (.builtin "str.join") [.str "" t, .ref D]) Q E s := by
  obtain ⟨l, rfl, hm⟩ := strs_values hs
  refine SC.join hl hm ?_ fun t' k => ?_
  · unfold JoinOk
    rw [Bool.not_eq_true']
    exact PySem.StrLaws.joinFits hb (by show ss.length * 1000 + ss.length * 0 ≤ 16777216; lia)
  · have := hq t' k
    rw [← join_cat, ← PySem.StrLaws.glued_eq_join] at this
    exact this
end Mine
end
section
open PySem PySem.W PyProof.Rows PySem.Calls PySem.Spec
set_option Elab.async false
set_option maxRecDepth 1000000
set_option maxHeartbeats 8000000
namespace Mine
theorem regLR (P : Params) : K P = [] ∨ PySem.Challenge.rw_kl0396_01.name = PySem.Challenge.rw_kl0396_01.name := by
  k_fill
  exact .inr rfl
local macro_rules | `(tactic| walk_at $s:str) => stopAt "eval ListComp|CompSrc|CompEnd|subscriptTail|call builtin:str.join|call builtin:list.append" s
noncomputable abbrev lrSt (i : Nat) : Stmt := (bodyAt (top 10)).getD i (top 0)
noncomputable abbrev lrEnv (L : Addr) : Env := envX "_law_rows" (scopeAt (top 10)) L 267 (.ref 266) (cellsFrom (L + 1) (scopeAt (top 10)).names [])
noncomputable def oS (d : Nat) : Str := if d = 0 then "" else if d = 1 then " " else "\t"
theorem pickO {d : Nat} (hd : d < 3) (tk : Tok) : (#[Value.str "" tk, Value.str " " (tk + 1), Value.str "\t" (tk + 1 + 1)] : Array Value)[(d : Int).toNat]? = some (.str (oS d) (tk + d)) := by
  obtain rfl | rfl | rfl : d = 0 ∨ d = 1 ∨ d = 2 := by lia
  all_goals rfl
noncomputable def wS (d : Nat) : Str := if d = 0 then "" else if d = 1 then "a" else "b"
theorem pickW {d : Nat} (hd : d < 3) (tk : Tok) : (#[Value.str "" tk, Value.str "a" (tk + 1), Value.str "b" (tk + 1 + 1)] : Array Value)[(d : Int).toNat]? = some (.str (wS d) (tk + d)) := by
  obtain rfl | rfl | rfl : d = 0 ∨ d = 1 ∨ d = 2 := by lia
  all_goals rfl
noncomputable def ownS (z : Int) : Str := cat ((List.range 3).map fun j => oS (dg z j))
noncomputable def wordS (z : Int) : Str := cat ((List.range 3).map fun j => wS (dg z (3 + j)))
theorem oS_len (d : Nat) : (oS d).length ≤ 1000 := by
  unfold oS
  split
  · decide
  · split <;> decide
theorem wS_len (d : Nat) : (wS d).length ≤ 1000 := by
  unfold wS
  split
  · decide
  · split <;> decide
local macro_rules | `(tactic| walk_at $s:str) => stopAt "binaryOp FloorDiv int int" s
theorem pow3 {i : Nat} (hi : i < 6) : (3 : Int) ^ i ≠ 0 ∧ ((3 : Int) ^ i).natAbs < 1073741824 := by
  obtain rfl | rfl | rfl | rfl | rfl | rfl : i = 0 ∨ i = 1 ∨ i = 2 ∨ i = 3 ∨ i = 4 ∨ i = 5 := by lia
  all_goals decide
theorem lrow_turn {w : World} {dp un : Nat} {fr : Option (List Env)} {gd : Option (List Code)} {s : Shared} {g : Heap} {mg mb : Str → Option Value} {L rl I : Addr} {oI oC : Obj} {m : Str → Option Value} {R : List (Addr × Obj)} {rv : List Value} {c : Nat} {z : Int} {t : Tok} {Q : Flow → Shared → Prop}
    (X : (K w.params).In g) (T : TopRead q (looseW q loose) mg mb g) (hI : I ≠ rl ∧ L + 1 ≠ rl) (hR : ∀ r ∈ R, r.1 ≠ rl) (hlen : rv.length < 1000)
    (hQ : ∀ h' tk m' D u1 u2, Fr g L h' m' → HasL m' [("rows", .ref rl)] → News g L h' ((I, oI) :: (L + 1, oC) :: (rl, listOf (rv ++ [Value.ref D]).toArray (c + 1)) :: (D, { cls := .type "tuple", data := .seq #[.str (ownS z) u1, .str (wordS z) u2] }) :: R) → (I ≠ D ∧ L + 1 ≠ D ∧ rl ≠ D) → Q .next { s with heap := h', toks := tk })
    (hC : oC.data = .cell (some (.int z t)))
    (F : Fr g L s.heap m) (hm : HasL m [("rows", .ref rl)]) (N : News g L s.heap ((I, oI) :: (L + 1, oC) :: (rl, listOf rv.toArray c) :: R)) :
    wpAny (model pw w) ((AR dp un fr gd).deeper (lrEnv L)) (execs (bodyAt (lrSt 1)) (lrEnv L)) Q (fun _ _ => False) s := by
  conv in execs _ _ => arg 1; whnf
  delta lrEnv
  conv in (occs := *) envX _ _ _ _ _ _ => all_goals (arg 2; whnf)
  have em := ov_of hm
  rw [em] at F
  k_steps
  refine Stop.intro ?_
  refine LCg.ListComp_U (F₀ := F) (by with_unfolding_all rfl) (by decide) (by rfl) (by decide) (by rfl) ?_
  k_steps
  refine Stop.intro ?_
  refine LCg.CompSrc.range (n := 3) (by rfl) (by k_asm) (by k_asm) (by assumption) (by first | decide | rfl) (by first | rfl | decide) (by decide) fun g2 => ?_
  refine rest_of (fun i ys news => news = (I, oI) :: (L + 1, oC) :: (rl, listOf rv.toArray c) :: R ∧ StrsAre ys ((List.range i).map fun j => oS (dg z j))) (fun i ys news v I' oI' C' oC' D' m₂ h tk E' hi hJ hP hC2 hx FF NN off ne => ?_) (fun ys news hJ => ?_) 3 0 [] _ rfl ⟨rfl, .nil⟩
  · (first | clear F N | skip)
    obtain ⟨rfl, hst⟩ := hJ
    obtain ⟨tp, rfl⟩ := hP
    have off2 := off
    simp only [LCg.Off3] at off2
    have hsn : ∀ u, StrsAre (ys ++ [.str (oS (dg z i)) u]) ((List.range (i + 1)).map fun j => oS (dg z j)) := fun u => by
      rw [List.range_succ, List.map_append]
      exact strs_append hst (.cons _ u .nil)
    have he : (0 + (i : Int)).toNat = i := by lia
    k_steps
    refine Stop.intro ?_
    rw [he]
    have hp3 := pow3 (i := i) (by lia)
    refine floordiv_int hp3.1 ?_ (.inl (PyProof.noPylong_small hp3.2))
    k_steps
    refine Stop.intro ?_
    rename_i l2 _ F2 N2 lt
    rw [show (z.fdiv (3 ^ i)).fmod 3 = (dg z i : Int) from dg_int z i]
    refine disp_at (x := .str (oS (dg z i)) (tk + dg z i)) (News.isList N2 (.head _)) (by lia) (by have := dg_lt z i; lia) (pickO (dg_lt z i) tk) ?_
    k_steps
    exact LCg.CompEnd.intro F2 N2 _ (fun q hq => .tail _ hq) off trivial ⟨rfl, hsn _⟩
  obtain ⟨rfl, hst⟩ := hJ
  k_steps
  refine Stop.intro ?_
  rename_i D1 _ _ F3 N3 off3
  refine join_strs (News.isList N3 (.head _)) hst (fun y hy => by obtain ⟨j, _, rfl⟩ := List.mem_map.mp hy; exact oS_len _) (by simp) fun u1 k1 => ?_
  have N4 := News.sub (l' := (I, oI) :: (L + 1, oC) :: (rl, listOf rv.toArray c) :: R) N3 fun p hp => .tail _ hp
  clear N3
  clear off3
  k_steps
  refine Stop.intro ?_
  rename Fr _ _ _ _ => F
  rename News _ _ _ _ => N
  refine LCg.ListComp_U (F₀ := F) (by with_unfolding_all rfl) (by decide) (by rfl) (by decide) (by rfl) ?_
  k_steps
  refine Stop.intro ?_
  refine LCg.CompSrc.range (n := 3) (by rfl) (by k_asm) (by k_asm) (by assumption) (by first | decide | rfl) (by first | rfl | decide) (by decide) fun g2 => ?_
  refine rest_of (fun i ys news => news = (I, oI) :: (L + 1, oC) :: (rl, listOf rv.toArray c) :: R ∧ StrsAre ys ((List.range i).map fun j => wS (dg z (3 + j)))) (fun i ys news v I' oI' C' oC' D' m₂ h tk E' hi hJ hP hC2 hx FF NN off ne => ?_) (fun ys news hJ => ?_) 3 0 [] _ rfl ⟨rfl, .nil⟩
  · (first | clear F N | skip)
    obtain ⟨rfl, hst⟩ := hJ
    obtain ⟨tp, rfl⟩ := hP
    have off2 := off
    simp only [LCg.Off3] at off2
    have hsn : ∀ u, StrsAre (ys ++ [.str (wS (dg z (3 + i))) u]) ((List.range (i + 1)).map fun j => wS (dg z (3 + j))) := fun u => by
      rw [List.range_succ, List.map_append]
      exact strs_append hst (.cons _ u .nil)
    have he : (3 + (i : Int)).toNat = (3 + i) := by lia
    k_steps
    refine Stop.intro ?_
    rw [he]
    have hp3 := pow3 (i := (3 + i)) (by lia)
    refine floordiv_int hp3.1 ?_ (.inl (PyProof.noPylong_small hp3.2))
    k_steps
    refine Stop.intro ?_
    rename_i l2 _ F2 N2 lt
    rw [show (z.fdiv (3 ^ (3 + i))).fmod 3 = (dg z (3 + i) : Int) from dg_int z (3 + i)]
    refine disp_at (x := .str (wS (dg z (3 + i))) (tk + dg z (3 + i))) (News.isList N2 (.head _)) (by lia) (by have := dg_lt z (3 + i); lia) (pickW (dg_lt z (3 + i)) tk) ?_
    k_steps
    exact LCg.CompEnd.intro F2 N2 _ (fun q hq => .tail _ hq) off trivial ⟨rfl, hsn _⟩
  obtain ⟨rfl, hst2⟩ := hJ
  k_steps
  refine Stop.intro ?_
  rename_i D2 _ _ F5 N5 off5
  refine join_strs (News.isList N5 (.head _)) hst2 (fun y hy => by obtain ⟨j, _, rfl⟩ := List.mem_map.mp hy; exact wS_len _) (by simp) fun u2 k2 => ?_
  have N6 := News.sub (l' := (I, oI) :: (L + 1, oC) :: (rl, listOf rv.toArray c) :: R) N5 fun p hp => .tail _ hp
  clear N5
  k_steps
  refine Stop.intro ?_
  rename_i D _ F7 N7 lt7
  refine append_K F7 N7 (Upd.tail (Nat.ne_of_gt lt7.2.2.1) (Upd.tail hI.1 (Upd.tail hI.2 (Upd.head hR)))) (fun h8 F8 N8 => ?_) (by have : sizeLine = 16777216 := rfl; simp; lia)
  rw [List.push_toArray] at N8
  clear F7 N7
  k_steps
  refine hQ _ _ _ D u1 u2 F8 ⟨rfl, trivial⟩ (News.sub N8 fun p hp => ?_) ⟨Nat.ne_of_lt lt7.1, Nat.ne_of_lt lt7.2.1, Nat.ne_of_lt lt7.2.2.1⟩
  simp only [List.mem_cons] at hp ⊢
  rcases hp with h | h | h | h | h
  · exact .inr (.inl h)
  · exact .inr (.inr (.inl h))
  · exact .inr (.inr (.inr (.inl h)))
  · exact .inl h
  · exact .inr (.inr (.inr (.inr h)))
theorem News.swap2 {g h : Heap} {L : Addr} {a b : Addr × Obj} {l : List (Addr × Obj)} (N : News g L h (a :: b :: l)) : News g L h (b :: a :: l) := News.sub N fun p hp => by
  simp only [List.mem_cons] at hp ⊢
  rcases hp with h | h | h <;> (repeat first | exact h | exact .inl h | exact .inl (.inl h) | exact .inl (.inr h) | refine .inr ?_)
theorem ints_get : ∀ {vs : List Value} {zs : List Int} {t : Nat} {v : Value}, IntsAre vs zs → vs[t]? = some v → ∃ z, zs[t]? = some z ∧ ∃ u, v = .int z u
  | _, _, t, v, .nil, h => by simp at h
  | _, _, 0, v, .cons z u hi, h => by
    simp only [List.getElem?_cons_zero, Option.some.injEq] at h
    exact ⟨z, rfl, u, h.symm⟩
  | _, _, t + 1, v, .cons z u hi, h => by
    simp only [List.getElem?_cons_succ] at h ⊢
    exact ints_get hi h
inductive IsRv (h : List (Addr × Obj)) (v : Value) (z : Int) : Prop
  | mk (a : Addr) (u1 u2 : Tok) (e : v = .ref a) (hm : (a, ({ cls := .type "tuple", data := .seq #[.str (ownS z) u1, .str (wordS z) u2] } : Obj)) ∈ h)
noncomputable def RV (h : List (Addr × Obj)) : List Value → List Int → Prop := All2 (IsRv h)
local macro_rules | `(tactic| walk_at $s:str) => stopAt "exec For Name Name|pyIter ref|storeName" s
/-- what holds between the turns -/
inductive LrJ (L rl : Addr) (zs : List Int) (t : Nat) (m' : Str → Option Value) (n' : List (Addr × Obj)) : Prop
  | mk (oC : Obj) (rv : List Value) (nt : List (Addr × Obj)) (c : Nat) (hm : HasL m' [("rows", .ref rl)]) (ho : ∃ v, oC.data = .cell v) (e : n' = (L + 1, oC) :: (rl, listOf (List.toArray rv) c) :: nt) (h1 : ∀ r ∈ nt, r.1 ≠ rl ∧ r.1 ≠ L + 1) (h2 : RV nt rv (zs.take t)) (h3 : rv.length = t) (h4 : t ≤ zs.length)
theorem lrows {w : World} {dp un : Nat} {fr : Option (List Env)} {gd : Option (List Code)} {s : Shared} {R : Result → Shared → Prop} {g : Heap} {mg mb : Str → Option Value} {l : Addr} {vs : List Value} {zs : List Int}
    (hkp : ∀ b o, g.get? b = some o → s.heap.get? b = some o) (X : (K w.params).In g) (T : TopRead q (looseW q loose) mg mb g) (hd : dp < 400) (hl : s.heap.IsList l vs.toArray) (hz : IntsAre vs zs) (hn : zs.length < 100)
    (hRes : ∀ h' tk rl rv c, (∀ b o, s.heap.get? b = some o → h'.get? b = some o) → s.heap.get? rl = none → h'.get? rl = some (listOf (List.toArray rv) c) → All2 (fun v z => ∃ a u1 u2, v = .ref a ∧ h'.get? a = some ({ cls := .type "tuple", data := .seq #[.str (ownS z) u1, .str (wordS z) u2] } : Obj) ∧ s.heap.get? a = none) rv zs → R (.ok (.ret (.ref rl))) { s with heap := h', toks := tk }) :
    codeAny (model pw w) (AR dp un fr gd) (.call (.ref 267) ⟨[.ref l], []⟩) R s := by
  refine enterC [("numbers", .ref l)] hkp X T (by k_is) (by k_is) (Nat.lt_trans hd (by decide)) rfl rfl (by decide +kernel) ?_ rfl rfl rfl
  clear X T
  intro L h₁ tk₁ cells X T F N Y
  obtain ⟨oC, rfl, hoC⟩ := CellsAre.one Y
  clear Y
  have em0 := ov_of (l := [("numbers", .ref l)]) (m := bindL (envOfC (Str.ofString "_law_rows") (scopeAt (top 10)) L 267 (Value.ref 266)).kindOf [(Str.ofString "numbers", Value.ref l)] fun _ => none) ⟨rfl, trivial⟩
  rw [em0] at F
  change wpAny (model pw w) ((AR dp un fr gd).deeper (lrEnv L)) (execs _ (lrEnv L)) _ _ _
  conv in execs _ _ => arg 1; whnf
  delta lrEnv
  conv in (occs := *) envX _ _ _ _ _ _ => all_goals (arg 2; whnf)
  k_steps
  refine Stop.intro ?_
  rename_i rl _ F1 N1 lt1
  refine storeX_L F1 N1 fun h2 F2 N2 => ?_
  clear F1 N1
  k_steps
  refine Stop.intro ?_
  refine For_invT s.heap ?_ (by intro x; rfl)
  k_steps
  refine Stop.intro ?_
  obtain ⟨ol, hol, hol2⟩ := id hl
  refine loopListT (kl := []) (news := (L + 1, oC) :: (rl, listOf #[] 0) :: []) rfl (.inl ⟨ol, hol⟩) (hl.at fun o e => F2.keep _ _ e) F2 (News.swap2 N2) (fun p hp o ho => nomatch ho) (LrJ L rl zs)
    ⟨oC, [], [], 0, ⟨rfl, trivial⟩, ⟨_, hoC⟩, rfl, (fun r hr => nomatch hr), .nil, rfl, Nat.zero_le _⟩ ?_ ?_
  · rintro t v m₁ news₁ s₁ I oI hv ⟨oC', rv, nt, c, hm', ⟨v0, hoC'⟩, rfl, hnt, hrv, hlen, htl⟩ hdis hlt F₁ N₁
    have hvl : vs[t]? = some v := by simpa using hv
    obtain ⟨z, hzt, u, rfl⟩ := ints_get hz hvl
    have N₂ : News s.heap L s₁.heap ((I, oI) :: (L + 1, oC') :: (rl, listOf (List.toArray rv) c) :: nt) := N₁
    have hLI : I ≠ L + 1 := (hdis _ (.head _) _ (.head _)).symm
    have hLr : L + 1 ≠ rl := Nat.ne_of_lt lt1
    k_steps
    refine Stop.intro ?_
    refine storeX_C (g := fun o' => (I, oI) :: (L + 1, o') :: (rl, listOf (List.toArray rv) c) :: nt) F₁ N₂ (c := L + 1) (o := oC') (by rfl) (UpdF.tail hLI (UpdF.head fun p hp => ?_)) hoC' fun h3 o3 F3 N3 hd3 => ?_
    · rcases List.mem_cons.mp hp with rfl | hp
      · exact hLr.symm
      · exact (hnt p hp).2
    clear F₁ N₁ N₂
    refine lrow_turn (z := z) (t := u) (rv := rv) (c := c) (R := nt) X T ⟨(hdis _ (.tail _ (.head _)) _ (.head _)).symm, hLr⟩ (fun r hr => (hnt r hr).1) (by lia) (fun h' tk' m' D u1 u2 F' hm2 N' hD => ?_) hd3 F3 hm' N3
    refine TurnT.intro (news' := (L + 1, o3) :: (rl, listOf (rv ++ [Value.ref D]).toArray (c + 1)) :: (D, { cls := .type "tuple", data := .seq #[.str (ownS z) u1, .str (wordS z) u2] }) :: nt) F' N' (fun p hp o ho => ?_) ⟨o3, rv ++ [.ref D], _ :: nt, c + 1, hm2, ⟨_, hd3⟩, rfl, fun r hr => ?_, ?_, by simp [hlen], by have := (List.getElem?_eq_some_iff.mp hzt).1; lia⟩
    · rw [List.mem_singleton.mp ho]
      simp only [List.mem_cons] at hp
      rcases hp with rfl | rfl | rfl | hp
      · exact hLI.symm
      · exact hdis (rl, listOf (List.toArray rv) c) (.tail _ (.head _)) _ (.head _)
      · exact hD.1.symm
      · exact hdis p (.tail _ (.tail _ hp)) _ (.head _)
    · rcases List.mem_cons.mp hr with rfl | hr
      · exact ⟨hD.2.2.symm, hD.2.1.symm⟩
      · exact hnt r hr
    · rw [List.take_add_one, hzt]
      exact forall2_join (hrv.imp fun _ _ h => by obtain ⟨a, u1, u2, e, hm⟩ := h; exact ⟨a, u1, u2, e, .tail _ hm⟩) (.cons ⟨D, u1, u2, rfl, .head _⟩ .nil)
  · rintro h' tk m' news' F' N' _ ⟨oC', rv, nt, c, hm', hoC', rfl, hnt, hrv, hlen, htl⟩
    have em' := ov_of hm'
    rw [em'] at F'
    have hvz : vs.length = zs.length := hz.length
    rw [show vs.toArray.size = zs.length by simp [hvz], List.take_length] at hrv
    dsimp only
    k_steps
    refine hRes h' _ rl rv c (fun b o e => F'.keep b o e) ?_ (N' _ (.tail _ (.head _))).1 (hrv.imp fun _ _ h => by obtain ⟨a, u1, u2, e, hm⟩ := h; exact ⟨a, u1, u2, e, (N' _ (.tail _ (.tail _ hm))).1, (N' _ (.tail _ (.tail _ hm))).2.2⟩)
    exact (N' _ (.tail _ (.head _))).2.2
end Mine
end
section
open PySem PySem.W PyProof.Rows PySem.Calls PySem.Spec
set_option Elab.async false
set_option maxRecDepth 1000000
set_option maxHeartbeats 8000000
namespace Mine
theorem regRU (P : Params) : K P = [] ∨ PySem.Challenge.rw_kl0396_01.name = PySem.Challenge.rw_kl0396_01.name := by
  k_fill
  exact .inr rfl
local macro_rules | `(tactic| walk_at $s:str) => stopAt "exec While|call builtin:len|subscriptTail|compareOp Eq ref ref" s
/-! ## _law_run -/
noncomputable abbrev rowO (p : Str × Str) (u1 u2 : Tok) : Obj := { cls := .type "tuple", data := .seq #[.str p.1 u1, .str p.2 u2] }
inductive IsRw (h : Heap) (v : Value) (p : Str × Str) : Prop
  | mk (a : Addr) (u1 u2 : Tok) (e : v = .ref a) (ho : h.get? a = some (rowO p u1 u2))
noncomputable def RW (h : Heap) : List Value → List (Str × Str) → Prop := All2 (IsRw h)
theorem RW.keeps {h h' : Heap} {l m} (x : RW h l m) (hk : ∀ b o, h.get? b = some o → h'.get? b = some o) : RW h' l m := x.imp fun _ _ h => by obtain ⟨a, u1, u2, e, ho⟩ := h; exact ⟨a, u1, u2, e, hk _ _ ho⟩
noncomputable def blank (p : Str × Str) : Bool := p.1 == "" && p.2 == ""
/-- the end of the run: from e on over blank rows -/
noncomputable def rend (rs : List (Str × Str)) : Nat → Nat → Nat
  | 0, e => e
  | n + 1, e => match rs[e]? with
    | some p => if blank p = true then rend rs n (e + 1) else e
    | none => e
noncomputable def lrun (rs : List (Str × Str)) (r : Nat) : Nat := (rs.getD r ("", "")).2.length + rend rs rs.length (r + 1) - r
theorem rend_s {rs : List (Str × Str)} {n e : Nat} {p : Str × Str} (h : rs[e]? = some p) : rend rs (n + 1) e = if blank p = true then rend rs n (e + 1) else e := by
  show (match rs[e]? with | some p => if blank p = true then rend rs n (e + 1) else e | none => e) = _
  rw [h]
theorem rend_e {rs : List (Str × Str)} {n e : Nat} (h : rs[e]? = none) : rend rs (n + 1) e = e := by
  show (match rs[e]? with | some p => if blank p = true then rend rs n (e + 1) else e | none => e) = _
  rw [h]
theorem rend_le {rs : List (Str × Str)} : ∀ k e, e ≤ rs.length → rend rs k e ≤ rs.length
  | 0, e, h => h
  | k + 1, e, h => by
    cases hp : rs[e]? with
    | some p =>
      rw [rend_s hp]
      by_cases hb : blank p = true
      · rw [if_pos hb]; exact rend_le k (e + 1) (List.getElem?_eq_some_iff.mp hp).1
      · rw [if_neg hb]; exact h
    | none => rw [rend_e hp]; exact h
theorem rend_ge {rs : List (Str × Str)} : ∀ k e, e ≤ rend rs k e
  | 0, e => Nat.le_refl _
  | k + 1, e => by
    cases hp : rs[e]? with
    | some p =>
      rw [rend_s hp]
      by_cases hb : blank p = true
      · rw [if_pos hb]; exact Nat.le_of_succ_le (rend_ge (rs := rs) k (e + 1))
      · rw [if_neg hb]; exact Nat.le_refl _
    | none => rw [rend_e hp]; exact Nat.le_refl _
/-- a row held against ('', '') -/
theorem eq_blank {w : World} {A : Around} {E : Value → Shared → Prop} {s : Shared} {a b : Addr} {p : Str × Str} {u1 u2 v1 v2 : Tok} {Q : Value → Shared → Prop} (ha : s.heap.get? a = some (rowO p u1 u2)) (hb : s.heap.get? b = some (rowO ("", "") v1 v2)) (hu : A.units < cLine)
    (h : Q (.bool (blank p)) s) : wpAny (model pw w) A (compareOp .Eq (.ref a) (.ref b)) Q E s := by
  refine PySem.SeqAt.eq_tupleAt (e := fun j => if j = 0 then p.1 == "" else p.2 == "") ⟨_, ha, rfl, _, rfl⟩ ⟨_, hb, rfl, _, rfl⟩ hu (fun j h1 h2 => ?_) ?_
  · have h1 : j < 2 := h1
    obtain rfl | rfl : j = 0 ∨ j = 1 := by lia
    · exact PySem.SeqAt.EqAt.str_str _ _ _ _
    · exact PySem.SeqAt.EqAt.str_str _ _ _ _
  · have : ((List.range (min (#[Value.str p.1 u1, Value.str p.2 u2] : Array Value).size (#[Value.str "" v1, Value.str "" v2] : Array Value).size)).all (fun j => if j = 0 then p.1 == "" else p.2 == "") && (#[Value.str p.1 u1, Value.str p.2 u2] : Array Value).size == (#[Value.str "" v1, Value.str "" v2] : Array Value).size) = blank p := by
      show ((List.range 2).all _ && true) = _
      simp [blank, List.range_succ]
    rw [this]; exact h
/-- what holds between the turns -/
inductive RuJ (rs : List (Str × Str)) (rl : Addr) (r : Nat) (tr : Tok) (n : Nat) (m' : Str → Option Value) (n' : List (Addr × Obj)) : Prop
  | mk (e0 : n' = []) (e k : Nat) (u : Tok) (en : n = rs.length - e) (h1 : r + 1 ≤ e) (h2 : e ≤ rs.length) (h3 : rs.length + r + 1 ≤ k + e) (h4 : rend rs rs.length (r + 1) = rend rs k e) (hm : HasL m' [("end", .int (e : Nat) u), ("rows", .ref rl), ("r", .int r tr)])
theorem lrunW {w : World} {dp un : Nat} {fr : Option (List Env)} {gd : Option (List Code)} {s : Shared} {R : Result → Shared → Prop} {g : Heap} {mg mb : Str → Option Value} {rl : Addr} {rv : List Value} {rs : List (Str × Str)} {r : Nat} {tr : Tok}
    (hkp : ∀ b o, g.get? b = some o → s.heap.get? b = some o) (X : (K w.params).In g) (T : TopRead q (looseW q loose) mg mb g) (hd : dp < 400) (hl : s.heap.IsList rl rv.toArray) (hw : RW s.heap rv rs) (hr : r < rs.length) (hn : rs.length < 100) (hu : un < 400) (hsm : ∀ p ∈ rs, p.2.cps.size < 1000)
    (hRes : ∀ h' tk u, (∀ b o, s.heap.get? b = some o → h'.get? b = some o) → R (.ok (.ret (.int (lrun rs r) u))) { s with heap := h', toks := tk }) :
    codeAny (model pw w) (AR dp un fr gd) (.call (.ref 274) ⟨[.ref rl, .int r tr], []⟩) R s := by
  have N : Led g s.heap [] := fun r hr => nomatch hr
  refine enterL [("rows", .ref rl), ("r", .int r tr)] hkp X T N (by k_is) (by k_is) (Nat.lt_trans hd (by decide)) (by first | exact BindsTo.of_eq rfl | exact binds_K (X.keeps hkp) rfl (by k_is) rfl rfl rfl) (locs rfl) ?_ (by decide) rfl rfl rfl
  clear X T N
  intro g' L h₁ hin hof hno X T F N hlt
  conv in execs _ _ => arg 1; whnf
  conv in (occs := *) envX _ _ _ _ _ _ => all_goals (arg 2; whnf)
  (try k_fold)
  have hgg : ∀ b o, s.heap.get? b = some o → g'.get? b = some o := fun b o e => hin b o e fun hm => nomatch hm
  have hw' := hw.keeps hgg
  have hl' := hl.at fun o e => hgg _ o e
  have hvn := hw.len
  k_steps
  refine Stop.intro ?_
  rename Fr _ _ _ _ => F1
  rename News _ _ _ _ => N1
  refine While_inv (n₀ := rs.length - (r + 1)) (RuJ rs rl r tr) F1 N1
    ⟨rfl, r + 1, rs.length, _, rfl, Nat.le_refl _, hr, by lia, rfl, ⟨rfl, rfl, rfl, trivial⟩⟩ ?_
  rintro n m₁ n₁ h₁ tk₁ F N ⟨rfl, e, k, u, rfl, he1, he2, hk, hre, hm⟩
  clear F1 N1
  have em := ov_of hm
  rw [em] at F
  k_steps
  refine Stop.intro ?_
  refine Calls.call_len_list (hl'.at fun o e => F.keep _ o e) (by simp; lia) ?_
  have hsz : rv.toArray.size = rv.length := by simp
  k_steps
  · have hel : e < rv.length := by lia
    obtain ⟨pe, hpe, ae, v1, v2, hpea, hoe⟩ := All2.at hw' (i := e) (x := rv[e]'hel) (List.getElem?_eq_getElem hel)
    refine disp_at (x := .ref ae) (hl'.at fun o e => Fr.keep (by k_asm) _ o e) (by lia) (by lia) (by rw [← hpea]; simp [hel]) ?_
    k_steps
    refine Stop.intro ?_
    rename Fr _ _ _ _ => F3
    rename News _ _ _ _ => N3
    refine eq_blank (F3.keep _ _ hoe) (N3 _ (.head _)).1 (by show un + _ < 9900; lia) ?_
    obtain ⟨k', rfl⟩ : ∃ k', k = k' + 1 := ⟨k - 1, by lia⟩
    have hst : rend rs (k' + 1) e = if blank pe = true then rend rs k' (e + 1) else e := rend_s hpe
    cases hb : blank pe with
    | true =>
      rw [hb, if_pos rfl] at hst
      k_steps
      rename Fr _ _ _ _ => F4
      exact WhileStep.intro (n' := rs.length - (e + 1)) (news₂ := []) F4 (fun p hp => nomatch hp) (by lia) ⟨rfl, e + 1, k', _, rfl, by lia, by lia, by lia, hre.trans hst, ⟨rfl, rfl, rfl, trivial⟩⟩
    | false =>
      rw [hb, if_neg Bool.false_ne_true] at hst
      k_steps
      refine Stop.intro ?_
      obtain ⟨p, hp, a, u1, u2, hpa, hoa⟩ := All2.at hw' (i := r) (x := rv[r]'(by lia)) (List.getElem?_eq_getElem (by lia))
      refine disp_at (x := .ref a) (hl'.at fun o e => Fr.keep (by k_asm) _ o e) (by lia) (by lia) (by rw [← hpa]; simp [show r < rv.length by lia]) ?_
      k_steps
      refine Stop.intro ?_
      refine tup_at (j := 1) ⟨_, Fr.keep (by k_asm) _ _ hoa, rfl, _, rfl⟩ (by decide) (by decide) (by rfl) (by rfl) ?_
      k_steps
      refine Stop.intro ?_
      refine len_str (hsm p (List.mem_of_getElem? hp)) fun t2 k2 => ?_
      k_steps
      have hrun : ((p.2.cps.size : Int) + (e : Int) - (r : Int)) = (lrun rs r : Int) := by
        have h1 : rs.getD r ("", "") = p := by rw [List.getD_eq_getElem?_getD, hp]; rfl
        unfold lrun
        rw [h1, hre.trans hst]
        show ((p.2.cps.size : Int) + (e : Int) - (r : Int)) = ((p.2.cps.size + e - r : Nat) : Int)
        lia
      rw [hrun]
      exact hRes _ _ _ fun b o eo => Fr.keep (by k_asm) b o (hgg b o eo)
  · have hst : rend rs k e = e := by
      have h1 : rs[e]? = none := List.getElem?_eq_none (by lia)
      cases k with
      | zero => rfl
      | succ k => exact rend_e h1
    obtain ⟨p, hp, a, u1, u2, hpa, hoa⟩ := All2.at hw' (i := r) (x := rv[r]'(by lia)) (List.getElem?_eq_getElem (by lia))
    refine disp_at (x := .ref a) (hl'.at fun o e => Fr.keep (by k_asm) _ o e) (by lia) (by lia) (by rw [← hpa]; simp [show r < rv.length by lia]) ?_
    k_steps
    refine Stop.intro ?_
    refine tup_at (j := 1) ⟨_, Fr.keep (by k_asm) _ _ hoa, rfl, _, rfl⟩ (by decide) (by decide) (by rfl) (by rfl) ?_
    k_steps
    refine Stop.intro ?_
    refine len_str (hsm p (List.mem_of_getElem? hp)) fun t2 k2 => ?_
    k_steps
    have hrun : ((p.2.cps.size : Int) + (e : Int) - (r : Int)) = (lrun rs r : Int) := by
      have h1 : rs.getD r ("", "") = p := by rw [List.getD_eq_getElem?_getD, hp]; rfl
      unfold lrun
      rw [h1, hre.trans hst]
      show ((p.2.cps.size : Int) + (e : Int) - (r : Int)) = ((p.2.cps.size + e - r : Nat) : Int)
      lia
    rw [hrun]
    exact hRes _ _ _ fun b o eo => Fr.keep (by k_asm) b o (hgg b o eo)
end Mine
end
section
open PySem PySem.W PyProof.Rows PySem.Calls PySem.Spec
set_option Elab.async false
set_option maxRecDepth 1000000
set_option maxHeartbeats 8000000
namespace Mine
section
variable {w : World} {A : Around} {E : Value → Shared → Prop} {s : Shared} {env : Env} {g : Heap} {x : Str} {body : List Stmt} {Q : Flow → Shared → Prop} {m : Str → Option Value} {news : List (Addr × Obj)}
theorem str_of_is {k : Str} {v : Value} (h : (strKind pw w).is k v = true) : ∃ u, v = .str k u := by
  cases v with
  | str y u =>
    have h : (y == k) = true := h
    exact ⟨u, by rw [eq_of_beq h]⟩
  | _ => exact absurd (show false = true from h) Bool.false_ne_true
/-- for x in d.keys(), d a dict of the ledger -/
theorem loopKeys {d V : Addr} {od : Obj} {kvs : List (Str × Value)} (hh : A.handled = none) (hv : KdlKeysView s.heap V d) (F : Fr g env.locals s.heap m) (N : News g env.locals s.heap ((d, od) :: news)) (hkn : ∀ p ∈ news, p.1 ≠ d) (hod : od.IsDictOf (strKind pw w) kvs)
    (J : Nat → (Str → Option Value) → List (Addr × Obj) → Prop) (h0 : J 0 m news)
    (step : ∀ i k y u m₁ news₁ h tk I oI, kvs[i]? = some (k, y) → J i m₁ news₁ → (∀ p ∈ news₁, ∀ o ∈ [(I, oI), (d, od)], p.1 ≠ o.1) → Fr g env.locals h (fun y => if y = x then some (.str k u) else m₁ y) → News g env.locals h ((I, oI) :: (d, od) :: news₁) →
      wpAny (model pw w) A (execs body env) (TurnEnd g env.locals { s with heap := h, toks := tk } [(I, oI), (d, od)] (J (i + 1)) Q) E { s with heap := h, toks := tk })
    (done : ∀ h' tk m' news', Fr g env.locals h' m' → News g env.locals h' ((d, od) :: news') → (∀ p ∈ news', p.1 ≠ d) → J kvs.length m' news' → Q .next { s with heap := h', toks := tk }) :
    wpAny (model pw w) A (pyIter (.ref V)) (fun it s₂ => LoopAtV pw w A g env x body Q E it s₂) E s := by
  obtain ⟨es, ep, hx, hdt, hk, hp, hn⟩ := hod
  have hdA : s.heap.DictAt (strKind pw w) d kvs ep := ⟨od, es, (N _ (.head _)).1, hx, hdt, hk, hp, hn⟩
  refine kdl_pyIter_keys hv hdA ?_
  obtain ⟨e1, e2⟩ := above_new F
  have hne : d ≠ s.heap.objs.size := Nat.ne_of_lt (Heap.lt_size (N _ (.head _)).1)
  refine loop1 (kl := [(d, od)]) (Walks.dictKeys hh s.heap.objs.size d hne kvs ep) (fun b hb => ?_) (.head _) (fun i h hi => by obtain ⟨⟨o, ho, _⟩, _⟩ := hi; exact ⟨o, ho⟩) e1 e2 (fun p hp => Nat.ne_of_lt (Heap.lt_size (N p hp).1))
    ⟨⟨_, Heap.get?_push_size _ rfl, rfl, rfl⟩, hdA.at' fun o e => Heap.get?_push_of_some _ e⟩ (F.push _) (fun p hp => ⟨Heap.get?_push_of_some _ (N p hp).1, (N p hp).2⟩) (fun p hp o ho => by rw [List.mem_singleton.mp ho]; exact hkn p hp) J h0 ?_ ?_
  · rcases List.mem_cons.mp hb with rfl | hb
    · exact .inl rfl
    · rw [List.mem_singleton.mp hb]; exact .inr (.inr ⟨_, .head _⟩)
  · rintro i v m₁ news₁ h tk oI hi ⟨k, y, hky, his⟩ hJ hoff F₁ N₁
    obtain ⟨u, rfl⟩ := str_of_is his
    exact step i k y u m₁ news₁ h tk _ oI hky hJ hoff F₁ N₁
  · intro h' tk m' news' F' N' hd hJ
    exact done h' tk m' news' F' N' (fun p hp => hd p hp _ (.head _)) hJ
end
theorem SetJ.setOf {w : World} {h : Heap} {a : Addr} {es : Array (Int × Value)} {ep : Nat} {t : SetTable} {ks : List Str} (ho : h.get? a = some (setObj es ep t)) (hJ : SetJ w es t ks) (hsz : es.size ≤ 1000) : h.SetOf (strKind pw w) a (fun k => decide (k ∈ ks)) es.size :=
  ⟨_, es, ep, t, ho, ⟨rfl, rfl, rfl⟩, rfl, hJ.el, fun k => by rw [decide_eq_true_eq]; exact hJ.mem k, by have : scanBound = 4096 := rfl; lia, hJ.fit, rfl⟩
noncomputable abbrev chJ (i : Nat) : Stmt := (bodyAt (chSt 5)).getD i (chSt 0)
/-- the junk among the first rows -/
noncomputable def jks (rs : List CRow) : List Str := (rs.filter fun r => jkc r.c).map fun r => ⟨#[r.c]⟩
theorem two_le : ∀ {l : List Nat}, l.Nodup → l ⊆ [32, 9] → l.length ≤ 2
  | [], _, _ => by simp
  | [a], _, _ => by simp
  | [a, b], _, _ => by simp
  | a :: b :: c :: l, hn, hs => by
    have ha := hs (.head _)
    have hb := hs (.tail _ (.head _))
    have hc := hs (.tail _ (.tail _ (.head _)))
    simp only [List.mem_cons, List.not_mem_nil, or_false] at ha hb hc
    simp only [List.nodup_cons, List.mem_cons, not_or] at hn
    lia
theorem jks_le {rs : List CRow} (hn : (rs.map (·.c)).Nodup) : (jks rs).length ≤ 2 := by
  unfold jks
  rw [List.length_map]
  have h1 : ((rs.filter fun r => jkc r.c).map (·.c)).Nodup := List.Nodup.sublist (List.Sublist.map _ List.filter_sublist) hn
  have h2 : ((rs.filter fun r => jkc r.c).map (·.c)) ⊆ [32, 9] := fun c hc => by
    obtain ⟨r, hr, rfl⟩ := List.mem_map.mp hc
    have := (List.mem_filter.mp hr).2
    unfold jkc at this
    simpa using this
  have h3 : ((rs.filter fun r => jkc r.c).map (·.c)).length ≤ 2 := two_le h1 h2
  simpa using h3
end Mine
end
section
open PySem PySem.W PyProof.Rows PySem.Calls PySem.Spec
set_option Elab.async false
set_option maxRecDepth 1000000
set_option maxHeartbeats 8000000
namespace Mine
theorem regSP (P : Params) : K P = [] ∨ PySem.Challenge.rw_kl0396_01.name = PySem.Challenge.rw_kl0396_01.name := by
  k_fill
  exact .inr rfl
local macro_rules | `(tactic| walk_at $s:str) => stopAt "exec While" s
local macro_rules | `(tactic| walk_at $s:str) => stopAt "call builtin:len|call ref|subscriptTail|call builtin:list.append|subscriptTail Name Name str int" s
/-! ## _law_spots -/
/-- how far own and laid agree, from off on -/
noncomputable def offW (own laid : Str) : Nat → Nat → Nat
  | 0, o => o
  | k + 1, o => if o < own.cps.size ∧ ch own o = ch laid o then offW own laid k (o + 1) else o
theorem offW_s {own laid : Str} {k o : Nat} : offW own laid (k + 1) o = if o < own.cps.size ∧ ch own o = ch laid o then offW own laid k (o + 1) else o := rfl
noncomputable def offC (own mg : Str) : Nat := offW own (mg ++ own) own.cps.size 0
noncomputable def spotsN (rs : List (Str × Str)) (mg : Str) : Nat → List Nat × Nat × Nat
  | 0 => ([], 0, 0)
  | r + 1 =>
    let st := spotsN rs mg r
    let p := rs.getD r ("", "")
    (if p.2 = "" then st.1 else st.1 ++ [st.2.1 + if lrun rs r ≤ st.2.2 then offC p.1 mg else 0], st.2.1 + (p.1.cps.size + p.2.cps.size) + 1, if p.1 ++ p.2 = "" then st.2.2 else lrun rs r)
theorem spotsN_s {rs : List (Str × Str)} {mg : Str} {r : Nat} : spotsN rs mg (r + 1) = (if (rs.getD r ("", "")).2 = "" then (spotsN rs mg r).1 else (spotsN rs mg r).1 ++ [(spotsN rs mg r).2.1 + if lrun rs r ≤ (spotsN rs mg r).2.2 then offC (rs.getD r ("", "")).1 mg else 0], (spotsN rs mg r).2.1 + ((rs.getD r ("", "")).1.cps.size + (rs.getD r ("", "")).2.cps.size) + 1, if (rs.getD r ("", "")).1 ++ (rs.getD r ("", "")).2 = "" then (spotsN rs mg r).2.2 else lrun rs r) := rfl
noncomputable abbrev spSt (i : Nat) : Stmt := (bodyAt (top 12)).getD i (top 0)
noncomputable abbrev spEnv (L : Addr) : Env := envX "_law_spots" (scopeAt (top 12)) L 281 (.ref 280) []
noncomputable abbrev spLL (sl rl : Addr) (mg : Str) (pl ah : Nat) (t1 t2 tm : Tok) : List (Str × Value) := [("spots", .ref sl), ("place", .int pl t1), ("ahead", .int ah t2), ("rows", .ref rl), ("margin", .str mg tm)]
noncomputable abbrev swLL (own word mg laid : Str) (sl rl : Addr) (r run pl ah o : Nat) (v1 v2 tr tn tl to t1 t2 tm : Tok) : List (Str × Value) := ("off", .int o to) :: ("laid", .str laid tl) :: ("own", .str own v1) :: ("word", .str word v2) :: ("run", .int run tn) :: ("r", .int r tr) :: spLL sl rl mg pl ah t1 t2 tm
noncomputable abbrev spW : Stmt := (bodyAt ((bodyAt (spSt 1)).getD 2 (top 0))).getD 1 (top 0)
/-- what holds between the turns -/
inductive SwJ (own word mgn : Str) (sl rl : Addr) (r run pl ah : Nat) (v1 v2 tr tn tl t1 t2 tm : Tok) (led : List (Addr × Obj)) (n : Nat) (m' : Str → Option Value) (n' : List (Addr × Obj)) : Prop
  | mk (e : n' = led) (o k : Nat) (u : Tok) (en : n = own.cps.size - o) (h1 : o ≤ own.cps.size) (h2 : own.cps.size ≤ k + o) (h3 : run ≤ ah → offC own mgn = offW own (mgn ++ own) k o) (h4 : ¬ run ≤ ah → o = 0) (hm : HasL m' (swLL own word mgn (mgn ++ own) sl rl r run pl ah o v1 v2 tr tn tl u t1 t2 tm))
theorem spots_while {w : World} {dp un : Nat} {fr : Option (List Env)} {gd : Option (List Code)} {s : Shared} {g : Heap} {mg mb : Str → Option Value} {L sl rl : Addr} {led : List (Addr × Obj)} {m : Str → Option Value} {r run pl ah : Nat} {own word mgn : Str} {v1 v2 tr tn tl to t1 t2 tm : Tok} {Q : Flow → Shared → Prop}
    (X : (K w.params).In g) (T : TopRead q (looseW q loose) mg mb g) (hs1 : own.cps.size < 100) (hmg : mgn.cps.size < 100)
    (hQ : ∀ h' tk m' to', Fr g L h' m' → HasL m' (swLL own word mgn (mgn ++ own) sl rl r run pl ah (if run ≤ ah then offC own mgn else 0) v1 v2 tr tn tl to' t1 t2 tm) → News g L h' led → Q .next { s with heap := h', toks := tk })
    (F : Fr g L s.heap m) (hm : HasL m (swLL own word mgn (mgn ++ own) sl rl r run pl ah 0 v1 v2 tr tn tl to t1 t2 tm)) (N : News g L s.heap led) :
    wpAny (model pw w) ((AR dp un fr gd).deeper (spEnv L)) (exec spW (spEnv L)) Q (fun _ _ => False) s := by
  conv in exec _ _ => arg 1; whnf
  delta spEnv
  conv in (occs := *) envX _ _ _ _ _ _ => all_goals (arg 2; whnf)
  have hls : (mgn ++ own).cps.size = mgn.cps.size + own.cps.size := by show (mgn.cps ++ own.cps).size = _; simp
  refine While_inv (n₀ := own.cps.size) (SwJ own word mgn sl rl r run pl ah v1 v2 tr tn tl t1 t2 tm led) F N
    ⟨rfl, 0, own.cps.size, to, rfl, Nat.zero_le _, Nat.le_refl _, fun _ => rfl, fun _ => rfl, hm⟩ ?_
  clear hm F N
  rintro n m₁ n₁ h₁ tk₁ F N ⟨rfl, o, k, u, rfl, ho, hk, hof, ho0, hm⟩
  have em := ov_of hm
  rw [em] at F
  have stop : (run ≤ ah → offW own (mgn ++ own) k o = o) → ∀ h₂ tk₂ m₂, Fr g L h₂ m₂ → HasL m₂ (swLL own word mgn (mgn ++ own) sl rl r run pl ah o v1 v2 tr tn tl u t1 t2 tm) → News g L h₂ n₁ → Q .next { s with heap := h₂, toks := tk₂ } := fun hst h₂ tk₂ m₂ F₂ hm₂ N₂ => by
    have e : (if run ≤ ah then offC own mgn else 0) = o := by
      by_cases h : run ≤ ah
      · rw [if_pos h, hof h, hst h]
      · rw [if_neg h, ho0 h]
    have := hQ h₂ tk₂ m₂ u F₂
    rw [e] at this
    exact this hm₂ N₂
  k_steps
  · refine Stop.intro ?_
    refine len_str (Nat.lt_trans hs1 (by decide)) fun tq kq => ?_
    k_steps
    · refine Stop.intro ?_
      refine str_at o (by lia) (by lia) (Nat.lt_trans hs1 (by decide)) fun tq kq => ?_
      k_steps
      refine Stop.intro ?_
      refine str_at o (by lia) (by lia) (by lia) fun tq kq => ?_
      have hcmp : ((⟨#[ch own o]⟩ : Str) == ⟨#[ch (mgn ++ own) o]⟩) = decide (ch own o = ch (mgn ++ own) o) := by
        rw [Bool.eq_iff_iff, beq_iff_eq, decide_eq_true_eq]
        constructor
        · intro e; injection e with e; simpa using e
        · intro e; rw [e]
      obtain ⟨k', rfl⟩ : ∃ k', k = k' + 1 := ⟨k - 1, by lia⟩
      have hst : offW own (mgn ++ own) (k' + 1) o = if o < own.cps.size ∧ ch own o = ch (mgn ++ own) o then offW own (mgn ++ own) k' (o + 1) else o := rfl
      k_steps
      · rename Fr _ _ _ _ => F2
        rename News _ _ _ _ => N2
        have hc : ch own o = ch (mgn ++ own) o := by
          have h1 : ((⟨#[ch own o]⟩ : Str) == ⟨#[ch (mgn ++ own) o]⟩) = true := by assumption
          rw [hcmp] at h1; simpa using h1
        rw [if_pos ⟨by lia, hc⟩] at hst
        exact WhileStep.intro (n' := own.cps.size - (o + 1)) F2 N2 (by lia) ⟨rfl, o + 1, k', _, rfl, by lia, by lia, fun h => (hof h).trans hst, fun h => absurd (by lia) h, ⟨rfl, rfl, rfl, rfl, rfl, rfl, rfl, rfl, rfl, rfl, rfl, trivial⟩⟩
      · have hc : ¬ ch own o = ch (mgn ++ own) o := by
          have h1 : ((⟨#[ch own o]⟩ : Str) == ⟨#[ch (mgn ++ own) o]⟩) = false := by assumption
          rw [hcmp] at h1; simpa using h1
        rw [if_neg fun h => hc h.2] at hst
        exact stop (fun _ => hst) _ _ _ F ⟨rfl, rfl, rfl, rfl, rfl, rfl, rfl, rfl, rfl, rfl, rfl, trivial⟩ N
    · refine stop (fun _ => ?_) _ _ _ F ⟨rfl, rfl, rfl, rfl, rfl, rfl, rfl, rfl, rfl, rfl, rfl, trivial⟩ N
      cases k with
      | zero => rfl
      | succ k => rw [offW_s, if_neg (by lia)]
  · exact stop (fun h => absurd h (by lia)) _ _ _ F ⟨rfl, rfl, rfl, rfl, rfl, rfl, rfl, rfl, rfl, rfl, rfl, trivial⟩ N
theorem spots_turn {w : World} {dp un : Nat} {fr : Option (List Env)} {gd : Option (List Code)} {s : Shared} {g : Heap} {mg mb : Str → Option Value} {L sl rl I : Addr} {oI : Obj} {m : Str → Option Value} {sv rv : List Value} {c r pl ah : Nat} {rs : List (Str × Str)} {mgn : Str} {tr t1 t2 tm : Tok} {Q : Flow → Shared → Prop}
    (X : (K w.params).In g) (T : TopRead q (looseW q loose) mg mb g) (hd : dp < 390) (hu : un < 300) (hl : g.IsList rl rv.toArray) (hw : RW g rv rs) (hr : r < rs.length) (hn : rs.length < 100) (hI : I ≠ sl) (hsv : sv.length < 1000) (hsm : ∀ p ∈ rs, p.1.cps.size < 100 ∧ p.2.cps.size < 100) (hmg : mgn.cps.size < 100)
    (hQ : ∀ h' tk m' sv' c' pl' ah' t1 t2, Fr g L h' m' → HasL m' (spLL sl rl mgn pl' ah' t1 t2 tm) → News g L h' [(I, oI), (sl, listOf sv'.toArray c')] →
      (let p := rs.getD r ("", ""); (if p.2 = "" then sv' = sv else ∃ u, sv' = sv ++ [.int ((pl + if lrun rs r ≤ ah then offC p.1 mgn else 0 : Nat) : Int) u]) ∧ pl' = pl + (p.1.cps.size + p.2.cps.size) + 1 ∧ ah' = if p.1 ++ p.2 = "" then ah else lrun rs r) → Q .next { s with heap := h', toks := tk })
    (F : Fr g L s.heap m) (hm : HasL m (("r", .int r tr) :: spLL sl rl mgn pl ah t1 t2 tm)) (N : News g L s.heap [(I, oI), (sl, listOf sv.toArray c)]) :
    wpAny (model pw w) ((AR dp un fr gd).deeper (spEnv L)) (execs (bodyAt (spSt 1)) (spEnv L)) Q (fun _ _ => False) s := by
  conv in execs _ _ => arg 1; whnf
  delta spEnv
  conv in (occs := *) envX _ _ _ _ _ _ => all_goals (arg 2; whnf)
  have em := ov_of hm
  rw [em] at F
  have hvn := hw.len
  have hrv : r < rv.length := by lia
  obtain ⟨p, hp, a, u1, u2, hpa, hoa⟩ := All2.at hw (i := r) (x := rv[r]'hrv) (List.getElem?_eq_getElem hrv)
  have hpp : rs.getD r ("", "") = p := by rw [List.getD_eq_getElem?_getD, hp]; rfl
  rw [hpp] at hQ
  dsimp only at hQ
  obtain ⟨hs1, hs2⟩ := hsm p (List.mem_of_getElem? hp)
  k_steps
  refine Stop.intro ?_
  refine disp_at (x := .ref a) (hl.at fun o e => F.keep _ o e) (by lia) (by lia) (by rw [← hpa]; simp [hrv]) ?_
  k_steps
  refine Stop.intro ?_
  refine unpackN_ F N ⟨_, F.keep _ _ hoa, rfl, _, rfl⟩ rfl (by rfl) (by rfl) fun h2 F2 N2 => ?_
  clear F N
  k_steps
  refine Stop.intro ?_
  rename Fr _ _ _ _ => F3
  rename News _ _ _ _ => N3
  refine wpAny_call ?_
  show codeAny _ (AR _ _ _ _) _ _ _
  refine lrunW F3.keep X T (by show dp + 1 < 400; lia) (hl.at fun o e => F3.keep _ o e) (hw.keeps F3.keep) hr hn (by show un + _ < 400; lia) (fun p hp => Nat.lt_trans (hsm p hp).2 (by decide)) fun h4 tk4 u4 hk4 => ?_
  have F4 := F3.kept hk4
  have N4 : News g L h4 [(I, oI), (sl, listOf sv.toArray c)] := fun p hp => ⟨hk4 _ _ (N3 p hp).1, (N3 p hp).2⟩
  clear F3 N3
  have hcat : (p.1 ++ p.2).cps.size = p.1.cps.size + p.2.cps.size := by show (p.1.cps ++ p.2.cps).size = _; simp
  dsimp only
  k_steps
  · have hw0 : p.2 ≠ "" := by
      have h1 : (p.2 != Str.ofString "") = true := by assumption
      simpa using h1
    refine Stop.intro ?_
    rename Fr _ _ _ _ => F7
    rename News _ _ _ _ => N7
    refine spots_while (own := p.1) (word := p.2) (mgn := mgn) (run := lrun rs r) (r := r) (pl := pl) (ah := ah) (sl := sl) (rl := rl) X T hs1 hmg (fun h8 tk8 m8 to8 F8 hm8 N8 => ?_) F7 ⟨rfl, rfl, rfl, rfl, rfl, rfl, rfl, rfl, rfl, rfl, rfl, trivial⟩ N7
    clear F7 N7
    have em8 := ov_of hm8
    rw [em8] at F8
    have N8' : News g L h8 [(I, oI), (sl, listOf sv.toArray c)] := News.sub N8 fun q hq => .tail _ hq
    clear N8
    dsimp only
    k_steps
    refine Stop.intro ?_
    rename Fr _ _ _ _ => FA
    rename News _ _ _ _ => NA
    refine append_K FA NA (Upd.tail hI (Upd.head fun q hq => nomatch hq)) (fun h9 F9 N9 => ?_) (by have : sizeLine = 16777216 := rfl; simp; lia)
    rw [List.push_toArray] at N9
    k_steps
    · refine Stop.intro ?_
      refine len_str (by lia) fun tq kq => ?_
      k_steps
      rename Fr _ _ _ _ => F9
      rename News _ _ _ _ => N9
      refine hQ _ _ _ (sv ++ [_]) _ (pl + ((p.1 ++ p.2).cps.size + 1)) _ _ _ F9 ⟨rfl, rfl, rfl, rfl, rfl, trivial⟩ N9 ⟨?_, by lia, ?_⟩
      · rw [if_neg hw0]; exact ⟨_, rfl⟩
      · have hne : p.1 ++ p.2 ≠ "" := by
          have h1 : (p.1 ++ p.2 != Str.ofString "") = true := by assumption
          simpa using h1
        rw [if_neg hne]
    · refine Stop.intro ?_
      refine len_str (by lia) fun tq kq => ?_
      k_steps
      rename Fr _ _ _ _ => F9
      rename News _ _ _ _ => N9
      refine hQ _ _ _ (sv ++ [_]) _ (pl + ((p.1 ++ p.2).cps.size + 1)) _ _ _ F9 ⟨rfl, rfl, rfl, rfl, rfl, trivial⟩ N9 ⟨?_, by lia, ?_⟩
      · rw [if_neg hw0]; exact ⟨_, rfl⟩
      · have hne : p.1 ++ p.2 = "" := by
          have h1 : (p.1 ++ p.2 != Str.ofString "") = false := by assumption
          simpa using h1
        rw [if_pos hne]
  · have hw0 : p.2 = "" := by
      have h1 : (p.2 != Str.ofString "") = false := by assumption
      simpa using h1
    refine Stop.intro ?_
    refine len_str (by lia) fun tq kq => ?_
    k_steps
    rename Fr _ _ _ _ => F9
    rename News _ _ _ _ => N9
    refine hQ _ _ _ (sv) _ (pl + ((p.1 ++ p.2).cps.size + 1)) _ _ _ F9 ⟨rfl, rfl, rfl, rfl, rfl, trivial⟩ N9 ⟨?_, by lia, ?_⟩
    · rw [if_pos hw0]
    · have hne : p.1 ++ p.2 ≠ "" := by
        have h1 : (p.1 ++ p.2 != Str.ofString "") = true := by assumption
        simpa using h1
      rw [if_neg hne]
  · have hw0 : p.2 = "" := by
      have h1 : (p.2 != Str.ofString "") = false := by assumption
      simpa using h1
    refine Stop.intro ?_
    refine len_str (by lia) fun tq kq => ?_
    k_steps
    rename Fr _ _ _ _ => F9
    rename News _ _ _ _ => N9
    refine hQ _ _ _ (sv) _ (pl + ((p.1 ++ p.2).cps.size + 1)) _ _ _ F9 ⟨rfl, rfl, rfl, rfl, rfl, trivial⟩ N9 ⟨?_, by lia, ?_⟩
    · rw [if_pos hw0]
    · have hne : p.1 ++ p.2 = "" := by
        have h1 : (p.1 ++ p.2 != Str.ofString "") = false := by assumption
        simpa using h1
      rw [if_pos hne]
local macro_rules | `(tactic| walk_at $s:str) => stopAt "exec For Name Call|exec For Name Call Name cons nil|exec For Name Call cons nil|pyIter ref" s
theorem ints_append {vs ws : List Value} {ns ms : List Int} (h1 : IntsAre vs ns) (h : IntsAre ws ms) : IntsAre (vs ++ ws) (ns ++ ms) := by
  induction h1 with
  | nil => exact h
  | cons y t _ ih => exact .cons y t ih
theorem spotsN_len (rs : List (Str × Str)) (mgn : Str) : ∀ r, (spotsN rs mgn r).1.length ≤ r
  | 0 => Nat.le_refl _
  | r + 1 => by
    have := spotsN_len rs mgn r
    rw [spotsN_s]
    dsimp only
    split
    · lia
    · simp only [List.length_append, List.length_cons, List.length_nil]; lia
theorem lspots {w : World} {dp un : Nat} {fr : Option (List Env)} {gd : Option (List Code)} {s : Shared} {R : Result → Shared → Prop} {g : Heap} {mg mb : Str → Option Value} {rl : Addr} {rv : List Value} {rs : List (Str × Str)} {mgn : Str} {tm : Tok}
    (hkp : ∀ b o, g.get? b = some o → s.heap.get? b = some o) (X : (K w.params).In g) (T : TopRead q (looseW q loose) mg mb g) (hd : dp < 389) (hu : un < 200) (hl : s.heap.IsList rl rv.toArray) (hw : RW s.heap rv rs) (hn : rs.length < 100) (hsm : ∀ p ∈ rs, p.1.cps.size < 100 ∧ p.2.cps.size < 100) (hmg : mgn.cps.size < 100)
    (hRes : ∀ h' tk D sl sv c u, (∀ b o, s.heap.get? b = some o → h'.get? b = some o) → s.heap.get? D = none → s.heap.get? sl = none → h'.get? D = some ({ cls := .type "tuple", data := .seq #[.ref sl, .int ((spotsN rs mgn rs.length).2.1 : Nat) u] } : Obj) → h'.get? sl = some (listOf (List.toArray sv) c) → IntsAre sv ((spotsN rs mgn rs.length).1.map Int.ofNat) → R (.ok (.ret (.ref D))) { s with heap := h', toks := tk }) :
    codeAny (model pw w) (AR dp un fr gd) (.call (.ref 281) ⟨[.ref rl, .str mgn tm], []⟩) R s := by
  have N : Led g s.heap [] := fun r hr => nomatch hr
  refine enterL [("rows", .ref rl), ("margin", .str mgn tm)] hkp X T N (by k_is) (by k_is) (Nat.lt_trans hd (by decide)) (by first | exact BindsTo.of_eq rfl | exact binds_K (X.keeps hkp) rfl (by k_is) rfl rfl rfl) (locs rfl) ?_ (by decide) rfl rfl rfl
  clear X T N
  intro g' L h₁ hin hof hno X T F N hlt
  have hgg : ∀ b o, s.heap.get? b = some o → g'.get? b = some o := fun b o e => hin b o e fun hm => nomatch hm
  have hw' := hw.keeps hgg
  have hl' := hl.at fun o e => hgg _ o e
  have hvn := hw.len
  have hsz : rv.toArray.size = rv.length := by simp
  conv in execs _ _ => arg 1; whnf
  conv in (occs := *) envX _ _ _ _ _ _ => all_goals (arg 2; whnf)
  (try k_fold)
  k_steps
  refine Stop.intro ?_
  rename_i sl _ _ D0 _ ltD _ _ _ _ F1 N1
  refine For_invVF F1 (by rfl) (by rfl) ?_
  k_steps
  refine Stop.intro ?_
  refine Calls.call_len_list (hl'.at fun o e => Fr.keep (by k_asm) _ o e) (by lia) ?_
  k_steps
  refine Stop.intro ?_
  rename IsRange _ _ _ _ _ _ _ _ => hR
  rename Fr _ _ _ _ => F2
  rename News _ _ _ _ => N2
  rw [hsz, hvn] at hR
  refine loopRange (news := [(sl, listOf #[] 0)]) rfl hR (by decide) (by decide) (by lia) (by lia) F2 (News.sub N2 fun p hp => .tail _ hp)
    (fun t m' n' => ∃ sv c t1 t2, n' = [(sl, listOf (List.toArray sv) c)] ∧ HasL m' (spLL sl rl mgn (spotsN rs mgn t).2.1 (spotsN rs mgn t).2.2 t1 t2 tm) ∧ IntsAre sv ((spotsN rs mgn t).1.map Int.ofNat)) ⟨[], 0, _, _, rfl, ⟨rfl, rfl, rfl, rfl, rfl, trivial⟩, .nil⟩ ?_ ?_
  · rintro i tv m₁ news₁ h tk I oI hi ⟨sv, c, t1, t2, rfl, hm', hsv⟩ hdis F₁ N₁
    rw [show (0 : Int) + (i : Int) = (i : Int) from Int.zero_add _] at F₁
    have hlen := spotsN_len rs mgn i
    have hsl := hsv.length
    rw [List.length_map] at hsl
    refine spots_turn (r := i) (tr := tv) (c := c) (I := I) (oI := oI) (sv := sv) (rl := rl) (rs := rs) (mgn := mgn) (pl := (spotsN rs mgn i).2.1) (ah := (spotsN rs mgn i).2.2) (t1 := t1) (t2 := t2) (tm := tm) X T (by lia) (by lia) hl' hw' (by lia) hn (hdis _ (.head _) _ (.head _)).symm (by lia) hsm hmg (fun h' tk' m' sv' c' pl' ah' t1' t2' F' hm2 N' hst => ?_) F₁ ⟨rfl, hm'.1, hm'.2.1, hm'.2.2.1, hm'.2.2.2.1, hm'.2.2.2.2.1, trivial⟩ N₁
    obtain ⟨hs1, hs2, hs3⟩ := hst
    refine TurnEnd.intro (news' := [(sl, listOf (List.toArray sv') c')]) F' N' (fun p hp o ho => ?_) ⟨sv', c', t1', t2', rfl, ?_, ?_⟩
    · rw [List.mem_singleton.mp hp, List.mem_singleton.mp ho]
      exact hdis _ (.head _) _ (.head _)
    · rw [hs2, hs3] at hm2
      exact hm2
    · show IntsAre sv' (List.map Int.ofNat (if (rs.getD i ("", "")).2 = "" then (spotsN rs mgn i).1 else (spotsN rs mgn i).1 ++ [(spotsN rs mgn i).2.1 + if lrun rs i ≤ (spotsN rs mgn i).2.2 then offC (rs.getD i ("", "")).1 mgn else 0]))
      by_cases hw0 : (rs.getD i ("", "")).2 = ""
      · rw [if_pos hw0] at hs1 ⊢
        rw [hs1]; exact hsv
      · rw [if_neg hw0] at hs1 ⊢
        obtain ⟨u, rfl⟩ := hs1
        rw [List.map_append]
        exact ints_append hsv (.cons _ u .nil)
  · rintro h' tk m' news' F' N' ⟨sv, c, t1, t2, rfl, hm', hsv⟩
    have em' := ov_of hm'
    rw [em'] at F'
    rw [show ((rs.length : Int) - 0).toNat = rs.length by lia] at F' hsv em' hm'
    k_steps
    rename Fr _ _ _ _ => F9
    rename News _ _ _ _ => N9
    have hnone : ∀ a, g'.get? a = none → s.heap.get? a = none := fun a e => by
      cases e2 : s.heap.get? a with
      | none => rfl
      | some o => rw [hgg _ _ e2] at e; cases e
    exact hRes _ _ _ sl sv c _ (fun b o e => F9.keep b o (hgg b o e)) (hnone _ (N9 _ (.head _)).2.2) (hnone _ (N9 _ (.tail _ (.head _))).2.2) (N9 _ (.head _)).1 (N9 _ (.tail _ (.head _))).1 hsv
end Mine
end
section
open PySem PySem.W PyProof.Rows PySem.Calls PySem.Spec
set_option Elab.async false
set_option maxRecDepth 1000000
set_option maxHeartbeats 8000000
namespace Mine
theorem regCO (P : Params) : K P = [] ∨ PySem.Challenge.rw_kl0396_01.name = PySem.Challenge.rw_kl0396_01.name := by
  k_fill
  exact .inr rfl
local macro_rules | `(tactic| walk_at $s:str) => stopAt "call builtin:list.append" s
/-! ## _law_codes -/
noncomputable def codesN (size more kept shift : Nat) : List Nat → List Opc
  | [] => []
  | spot :: l => (if kept < spot then [("equal", kept, spot, kept + shift, spot + shift)] else []) ++ ((if spot < size then [("insert", spot, spot, spot + shift, spot + shift + more)] else []) ++ codesN size more spot (shift + more) l)
theorem codesN_nil {size more kept shift : Nat} : codesN size more kept shift [] = [] := rfl
theorem codesN_cons {size more kept shift spot : Nat} {l : List Nat} : codesN size more kept shift (spot :: l) = (if kept < spot then [("equal", kept, spot, kept + shift, spot + shift)] else []) ++ ((if spot < size then [("insert", spot, spot, spot + shift, spot + shift + more)] else []) ++ codesN size more spot (shift + more) l) := rfl
noncomputable abbrev coSt (i : Nat) : Stmt := (bodyAt (top 13)).getD i (top 0)
noncomputable abbrev coEnv (L : Addr) : Env := envX "_law_codes" (scopeAt (top 13)) L 288 (.ref 287) []
noncomputable abbrev coLL (cl : Addr) (size more kept shift : Nat) (t1 t2 t3 t4 : Tok) : List (Str × Value) := [("codes", .ref cl), ("kept", .int kept t1), ("shift", .int shift t2), ("size", .int size t3), ("more", .int more t4)]
theorem coS2 {g : Heap} {L : Addr} {h : Heap} {a b c I A : Addr × Obj} {R : List (Addr × Obj)} (N : News g L h (a :: b :: c :: I :: A :: R)) : News g L h (I :: A :: ([b, c] ++ R)) := fun r hr => N r (by simp only [List.cons_append, List.nil_append, List.mem_cons] at hr ⊢; rcases hr with h | h | h | h | h <;> (repeat first | exact h | exact .inl h | exact .inl (.inl h) | exact .inl (.inr h) | refine .inr ?_))
theorem coS1 {g : Heap} {L : Addr} {h : Heap} {a b I A : Addr × Obj} {R : List (Addr × Obj)} (N : News g L h (a :: b :: I :: A :: R)) : News g L h (I :: A :: ([b] ++ R)) := fun r hr => N r (by simp only [List.cons_append, List.nil_append, List.mem_cons] at hr ⊢; rcases hr with h | h | h | h <;> (repeat first | exact h | exact .inl h | exact .inl (.inl h) | exact .inl (.inr h) | refine .inr ?_))
theorem codes_turn {w : World} {dp un : Nat} {fr : Option (List Env)} {gd : Option (List Code)} {s : Shared} {g : Heap} {mg mb : Str → Option Value} {L cl I : Addr} {oI : Obj} {m : Str → Option Value} {R : List (Addr × Obj)} {cv : List Value} {c size more kept shift spot : Nat} {t0 t1 t2 t3 t4 : Tok} {Q : Flow → Shared → Prop}
    (X : (K w.params).In g) (T : TopRead q (looseW q loose) mg mb g) (hI : I ≠ cl) (hR : ∀ r ∈ R, r.1 ≠ cl) (hlen : cv.length < 900)
    (hQ : ∀ h' tk m' nt vs c' t1 t2, Fr g L h' m' → HasL m' (coLL cl size more spot (shift + more) t1 t2 t3 t4) → News g L h' ((I, oI) :: (cl, listOf (cv ++ vs).toArray c') :: (nt ++ R)) → (∀ r ∈ nt, r.1 ≠ cl ∧ r.1 ≠ I ∧ ∀ p ∈ R, p.1 ≠ r.1) →
      OV nt vs ((if kept < spot then [("equal", kept, spot, kept + shift, spot + shift)] else []) ++ (if spot < size then [("insert", spot, spot, spot + shift, spot + shift + more)] else [])) → vs.length ≤ 2 → Q .next { s with heap := h', toks := tk })
    (F : Fr g L s.heap m) (hm : HasL m (("spot", .int spot t0) :: coLL cl size more kept shift t1 t2 t3 t4)) (N : News g L s.heap ((I, oI) :: (cl, listOf cv.toArray c) :: R)) :
    wpAny (model pw w) ((AR dp un fr gd).deeper (coEnv L)) (execs (bodyAt (coSt 1)) (coEnv L)) Q (fun _ _ => False) s := by
  conv in execs _ _ => arg 1; whnf
  delta coEnv
  conv in (occs := *) envX _ _ _ _ _ _ => all_goals (arg 2; whnf)
  have em := ov_of hm
  rw [em] at F
  k_steps
  · rename_i D1 _ F1 N1 lt1
    refine Stop.intro ?_
    refine append_K F1 N1 (Upd.tail (Nat.ne_of_gt lt1.2.1) (Upd.tail hI (Upd.head hR))) (fun h2 F2 N2 => ?_) (by have : sizeLine = 16777216 := rfl; simp; lia)
    rw [List.push_toArray] at N2
    clear F1 N1
    k_steps
    · rename_i D2 _ F3 N3 lt2
      refine Stop.intro ?_
      refine append_K F3 N3 (Upd.tail (Nat.ne_of_gt lt2.2.2.1) (Upd.tail (Nat.ne_of_gt lt1.2.1) (Upd.tail hI (Upd.head hR)))) (fun h4 F4 N4 => ?_) (by have : sizeLine = 16777216 := rfl; simp; lia)
      rw [List.push_toArray, List.append_assoc] at N4
      clear F3 N3
      k_steps
      rename Fr _ _ _ _ => F5
      rename News _ _ _ _ => N5
      refine hQ _ _ _ _ [.ref D1, .ref D2] _ _ _ F5 ⟨rfl, rfl, rfl, rfl, rfl, trivial⟩ (coS2 N5) (fun r hr => ?_) ?_ (by simp)
      · simp only [List.mem_cons, List.not_mem_nil, or_false] at hr
        rcases hr with rfl | rfl
        · exact ⟨Nat.ne_of_gt lt2.2.2.1, Nat.ne_of_gt lt2.2.1, fun p hp => Nat.ne_of_lt (allLt_all _ lt2.2.2.2 p hp)⟩
        · exact ⟨Nat.ne_of_gt lt1.2.1, Nat.ne_of_gt lt1.1, fun p hp => Nat.ne_of_lt (allLt_all _ lt1.2.2 p hp)⟩
      · rw [if_pos (by lia), if_pos (by lia)]
        exact .cons ⟨D1, _, _, _, _, _, rfl, .tail _ (.head _)⟩ (.cons ⟨D2, _, _, _, _, _, rfl, .head _⟩ .nil)
    · rename Fr _ _ _ _ => F5
      rename News _ _ _ _ => N5
      refine hQ _ _ _ _ [.ref D1] _ _ _ F5 ⟨rfl, rfl, rfl, rfl, rfl, trivial⟩ (coS1 N5) (fun r hr => ?_) ?_ (by simp)
      · rw [List.mem_singleton.mp hr]
        exact ⟨Nat.ne_of_gt lt1.2.1, Nat.ne_of_gt lt1.1, fun p hp => Nat.ne_of_lt (allLt_all _ lt1.2.2 p hp)⟩
      · rw [if_pos (by lia), if_neg (by lia)]
        exact .cons ⟨D1, _, _, _, _, _, rfl, .head _⟩ .nil
  · rename_i D1 _ F1 N1 lt1
    refine Stop.intro ?_
    refine append_K F1 N1 (Upd.tail (Nat.ne_of_gt lt1.2.1) (Upd.tail hI (Upd.head hR))) (fun h2 F2 N2 => ?_) (by have : sizeLine = 16777216 := rfl; simp; lia)
    rw [List.push_toArray] at N2
    clear F1 N1
    k_steps
    rename Fr _ _ _ _ => F5
    rename News _ _ _ _ => N5
    refine hQ _ _ _ _ [.ref D1] _ _ _ F5 ⟨rfl, rfl, rfl, rfl, rfl, trivial⟩ (coS1 N5) (fun r hr => ?_) ?_ (by simp)
    · rw [List.mem_singleton.mp hr]
      exact ⟨Nat.ne_of_gt lt1.2.1, Nat.ne_of_gt lt1.1, fun p hp => Nat.ne_of_lt (allLt_all _ lt1.2.2 p hp)⟩
    · rw [if_neg (by lia), if_pos (by lia)]
      exact .cons ⟨D1, _, _, _, _, _, rfl, .head _⟩ .nil
  · rename Fr _ _ _ _ => F5
    rename News _ _ _ _ => N5
    refine hQ _ _ _ [] [] _ _ _ F5 ⟨rfl, rfl, rfl, rfl, rfl, trivial⟩ (by rw [List.append_nil]; exact News.sub N5 fun r hr => .tail _ hr) (fun r hr => nomatch hr) ?_ (by simp)
    rw [if_neg (by lia), if_neg (by lia)]
    exact .nil
local macro_rules | `(tactic| walk_at $s:str) => stopAt "exec For Name BinOp|pyIter ref|binaryOp Add ref ref" s
/-- what holds between the turns -/
inductive CoJ (cl : Addr) (size more : Nat) (t3 t4 : Tok) (l : List Nat) (t : Nat) (m' : Str → Option Value) (n' : List (Addr × Obj)) : Prop
  | mk (cv : List Value) (nt : List (Addr × Obj)) (acc : List Opc) (c kept shift : Nat) (t1 t2 : Tok) (hm : HasL m' (coLL cl size more kept shift t1 t2 t3 t4)) (e : n' = (cl, listOf (List.toArray cv) c) :: nt) (h1 : ∀ r ∈ nt, r.1 ≠ cl) (h2 : OV nt cv acc) (h3 : cv.length ≤ 2 * t)
      (h4 : codesN size more 0 0 l = acc ++ codesN size more kept shift (l.drop t))
theorem lcodes {w : World} {dp un : Nat} {fr : Option (List Env)} {gd : Option (List Code)} {s : Shared} {R : Result → Shared → Prop} {g : Heap} {mg mb : Str → Option Value} {sl : Addr} {sv : List Value} {sp : List Nat} {size more : Nat} {t3 t4 : Tok}
    (hkp : ∀ b o, g.get? b = some o → s.heap.get? b = some o) (X : (K w.params).In g) (T : TopRead q (looseW q loose) mg mb g) (hd : dp < 389) (hl : s.heap.IsList sl sv.toArray) (hz : IntsAre sv (sp.map Int.ofNat)) (hn : sp.length < 100)
    (hRes : ∀ h' tk A ans c, (∀ b o, s.heap.get? b = some o → h'.get? b = some o) → s.heap.get? A = none → h'.get? A = some (listOf (List.toArray ans) c) → All2 (NewOp s.heap h') ans (codesN size more 0 0 (sp ++ [size])) → R (.ok (.ret (.ref A))) { s with heap := h', toks := tk }) :
    codeAny (model pw w) (AR dp un fr gd) (.call (.ref 288) ⟨[.ref sl, .int size t3, .int more t4], []⟩) R s := by
  have N : Led g s.heap [] := fun r hr => nomatch hr
  refine enterL [("spots", .ref sl), ("size", .int size t3), ("more", .int more t4)] hkp X T N (by k_is) (by k_is) (Nat.lt_trans hd (by decide)) (by first | exact BindsTo.of_eq rfl | exact binds_K (X.keeps hkp) rfl (by k_is) rfl rfl rfl) (locs rfl) ?_ (by decide) rfl rfl rfl
  clear X T N
  intro g' L h₁ hin hof hno X T F N hlt
  have hgg : ∀ b o, s.heap.get? b = some o → g'.get? b = some o := fun b o e => hin b o e fun hm => nomatch hm
  have hl' := hl.at fun o e => hgg _ o e
  conv in execs _ _ => arg 1; whnf
  conv in (occs := *) envX _ _ _ _ _ _ => all_goals (arg 2; whnf)
  (try k_fold)
  k_steps
  refine Stop.intro ?_
  rename_i cl _ _ D0 _ ltD _ _ _ _ F1 N1
  refine For_invVF F1 (by rfl) (by rfl) ?_
  k_steps
  refine Stop.intro ?_
  rename_i Lz _ F2 N2 ltz
  refine kmk_add_ints F2 N2 (hl'.at fun o e => F2.keep _ o e) (News.isList N2 (.head _)) hz (ws := [_]) (.cons (size : Int) _ .nil) (fun D us h3 F3 N3 hlt3 hus => ?_) (by have : sizeLine = 16777216 := rfl; simp; lia)
  clear F2 N2
  k_steps
  refine Stop.intro ?_
  have hul : us.length = sp.length + 1 := by have := hus.length; simpa using this
  have hus' : IntsAre us ((sp ++ [size]).map Int.ofNat) := by rw [List.map_append]; exact hus
  have hcD : cl ≠ D := Nat.ne_of_lt (hlt3 (cl, listOf #[] 0) (by simp))
  refine loopList (kl := [(D, listOf (List.toArray us) 0)]) (news := [(cl, listOf #[] 0)]) rfl (.inr ⟨_, .head _⟩) (News.isList N3 (.head _)) F3 (News.sub N3 fun p hp => ?_) (fun p hp o ho => ?_)
    (CoJ cl size more t3 t4 (sp ++ [size])) ⟨[], [], [], 0, 0, 0, _, _, ⟨rfl, rfl, rfl, rfl, rfl, trivial⟩, rfl, (fun r hr => nomatch hr), .nil, Nat.zero_le _, rfl⟩ ?_ ?_
  · simp only [List.cons_append, List.nil_append, List.mem_cons, List.not_mem_nil, or_false] at hp ⊢
    rcases hp with h | h <;> (repeat first | exact h | exact .inl h | exact .inl (.inl h) | exact .inl (.inr h) | refine .inr ?_)
  · rw [List.mem_singleton.mp hp, List.mem_singleton.mp ho]; exact hcD
  · rintro t v m₁ news₁ h tk I oI hv ⟨cv, nt, acc, c, kept, shift, t1, t2, hm', rfl, hnt, hov, hcl, heq⟩ hdis hlt F₁ N₁
    have hvu : us[t]? = some v := by simpa using hv
    obtain ⟨z, hzt, u, rfl⟩ := ints_get hus' hvu
    obtain ⟨spot, hsp, rfl⟩ : ∃ spot, (sp ++ [size])[t]? = some spot ∧ z = (spot : Int) := by
      rw [List.getElem?_map] at hzt
      cases e : (sp ++ [size])[t]? with
      | none => rw [e] at hzt; cases hzt
      | some spot => rw [e] at hzt; exact ⟨spot, rfl, by cases hzt; rfl⟩
    have htl : t < (sp ++ [size]).length := (List.getElem?_eq_some_iff.mp hsp).1
    have htl2 : t < sp.length + 1 := by simpa using htl
    have hdr : (sp ++ [size]).drop t = spot :: (sp ++ [size]).drop (t + 1) := by
      rw [List.drop_eq_getElem_cons htl, (List.getElem?_eq_some_iff.mp hsp).2]
    rw [hdr] at heq
    have hcI := hdis _ (.head _)
    have N₂ : News g' L h ((I, oI) :: (cl, listOf (List.toArray cv) c) :: ((D, listOf (List.toArray us) 0) :: nt)) := News.sub N₁ fun p hp => by
      simp only [List.cons_append, List.nil_append, List.mem_cons] at hp ⊢
      rcases hp with h | h | h | h <;> (repeat first | exact h | exact .inl h | exact .inl (.inl h) | exact .inl (.inr h) | refine .inr ?_)
    refine codes_turn (spot := spot) (size := size) (more := more) (kept := kept) (shift := shift) (cl := cl) (I := I) (cv := cv) (c := c) (R := (D, listOf (List.toArray us) 0) :: nt) (t0 := u) (t1 := t1) (t2 := t2) (t3 := t3) (t4 := t4) X T (hcI _ (.head _)).symm (fun r hr => ?_) (by lia) (fun h' tk' m' nt' vs c' t1' t2' F' hm2 N' hnt' hov' hl2 => ?_) F₁ ⟨rfl, hm'.1, hm'.2.1, hm'.2.2.1, hm'.2.2.2.1, hm'.2.2.2.2.1, trivial⟩ N₂
    · rcases List.mem_cons.mp hr with rfl | hr
      · exact hcD.symm
      · exact hnt r hr
    · refine TurnEnd.intro (news' := (cl, listOf (List.toArray (cv ++ vs)) c') :: (nt' ++ nt)) F' (News.sub N' fun p hp => ?_) (fun p hp o ho => ?_) ⟨cv ++ vs, nt' ++ nt, acc ++ ((if kept < spot then [("equal", kept, spot, kept + shift, spot + shift)] else []) ++ (if spot < size then [("insert", spot, spot, spot + shift, spot + shift + more)] else [])), c', spot, shift + more, t1', t2', hm2, rfl, fun r hr => ?_, forall2_join (OV.more hov fun r hr => List.mem_append_right _ hr) (OV.more hov' fun r hr => List.mem_append_left _ hr), ?_, ?_⟩
      · simp only [List.cons_append, List.nil_append, List.mem_cons, List.mem_append] at hp ⊢
        rcases hp with h | h | h | h | h <;> (repeat first | exact h | exact .inl h | exact .inl (.inl h) | exact .inl (.inr h) | refine .inr ?_)
      · rcases List.mem_cons.mp hp with rfl | hp
        · exact hdis (cl, listOf (List.toArray cv) c) (.head _) o ho
        · rcases List.mem_append.mp hp with hp | hp
          · rcases List.mem_cons.mp ho with rfl | ho
            · exact (hnt' p hp).2.1
            · rw [List.mem_singleton.mp ho]
              exact ((hnt' p hp).2.2 _ (.head _)).symm
          · exact hdis p (.tail _ hp) o ho
      · rcases List.mem_append.mp hr with hr | hr
        · exact (hnt' r hr).1
        · exact hnt r hr
      · simp only [List.length_append]; lia
      · rw [heq]; simp only [codesN_cons, List.append_assoc]
  · rintro h' tk m' news' F' N' hd' ⟨cv, nt, acc, c, kept, shift, t1, t2, hm', rfl, hnt, hov, hcl, heq⟩
    have em' := ov_of hm'
    rw [em'] at F'
    rw [show (List.toArray us).size = (sp ++ [size]).length by simp [hul], List.drop_length, codesN_nil, List.append_nil] at heq
    k_steps
    have hnone : ∀ b, g'.get? b = none → s.heap.get? b = none := fun b hb => by
      cases e2 : s.heap.get? b with
      | none => rfl
      | some o =>
        have := hgg _ _ e2
        rw [hb] at this; cases this
    refine hRes _ _ cl cv c (fun b o e => F'.keep b o (hgg b o e)) (hnone _ (N' (cl, listOf (List.toArray cv) c) (.tail _ (.head _))).2.2) (N' (cl, listOf (List.toArray cv) c) (.tail _ (.head _))).1 ?_
    rw [heq]
    exact hov.imp fun _ _ h => by
      obtain ⟨a, t0, t1, t2, t3, t4, e, hm⟩ := h
      exact ⟨a, t0, t1, t2, t3, t4, e, (N' _ (.tail _ (.tail _ hm))).1, hnone _ (N' _ (.tail _ (.tail _ hm))).2.2⟩
end Mine
end
section
set_option maxRecDepth 100000
namespace Mine
open PySem
/-! ## the blocks of the whole -/
theorem rec_inv {a b : Str} {jk : Nat → Bool} {p : Piece} {bl : List Blk} (h : RecP a b jk p bl) :
    (∃ i j, FLM a b jk p.1 p.2.1 p.2.2.1 p.2.2.2 i j 0 ∧ bl = []) ∨ ∃ i j k l r, FLM a b jk p.1 p.2.1 p.2.2.1 p.2.2.2 i j k ∧ 0 < k ∧ (p.1 < i ∧ p.2.2.1 < j → RecP a b jk (p.1, i, p.2.2.1, j) l) ∧ (¬ (p.1 < i ∧ p.2.2.1 < j) → l = []) ∧
      (i + k < p.2.1 ∧ j + k < p.2.2.2 → RecP a b jk (i + k, p.2.1, j + k, p.2.2.2) r) ∧ (¬ (i + k < p.2.1 ∧ j + k < p.2.2.2) → r = []) ∧ bl = l ++ (i, j, k) :: r := by
  cases h with
  | nil hf => exact .inl ⟨_, _, hf, rfl⟩
  | node hf hk h1 h2 h3 h4 => exact .inr ⟨_, _, _, _, _, hf, hk, h1, h2, h3, h4, rfl⟩
theorem ar_z {x m : Nat} (h : ¬ x < m) : m - x = 0 := Nat.sub_eq_zero_of_le (Nat.not_lt.mp h)
theorem ar_s {x m y d : Nat} (h1 : m < y) (h2 : x ≤ m) (h : y - x = d) : m - x < d := h ▸ Nat.sub_lt_sub_right h2 h1
theorem ar_t {x m y d : Nat} (h1 : m < y) (h2 : x ≤ m) (h : y - x = d) : y - (m + 1) < d := h ▸ Nat.sub_lt_sub_left (Nat.lt_of_le_of_lt h2 h1) (Nat.lt_succ_of_le h2)
theorem ar_u {x m : Nat} (h : x ≤ m) : x + (m - x) = m := Nat.add_sub_cancel' h
theorem ar_v {x m y : Nat} (h1 : m < y) (h : x ≤ m) : m - x + (y - m) = y - x := (Nat.add_comm _ _).trans (Nat.sub_add_sub_cancel (Nat.le_of_lt h1) h)
theorem ar_w {m y : Nat} (h : m < y) : y - m = (y - (m + 1)) + 1 := (Nat.succ_pred_eq_of_pos (Nat.sub_pos_of_lt h)).symm
/-- where each piece of rows x to y has its longest match at the block of a row, the blocks are those of the rows -/
theorem rec_pin {a b : Str} {jk : Nat → Bool} {n : Nat} {B : Nat → Blk} (A A' D D' : Nat → Nat)
    (h : ∀ x y, x < y → y ≤ n → ∃ m, x ≤ m ∧ m < y ∧ (∀ i j k, FLM a b jk (A x) (A' y) (D x) (D' y) i j k → (i, j, k) = B m) ∧ 0 < (B m).2.2 ∧ (B m).1 = A' m ∧ (B m).2.1 = D' m ∧ (B m).1 + (B m).2.2 = A (m + 1) ∧ (B m).2.1 + (B m).2.2 = D (m + 1) ∧
      (x < m ↔ A x < A' m ∧ D x < D' m) ∧ (m + 1 < y ↔ A (m + 1) < A' y ∧ D (m + 1) < D' y)) :
    ∀ d x y, y - x = d → x < y → y ≤ n → ∀ bl, RecP a b jk (A x, A' y, D x, D' y) bl → bl = (List.range' x (y - x)).map B := by
  intro d
  induction d using Nat.strongRecOn with
  | ind d ih =>
    intro x y hd hxy hyn bl hr
    obtain ⟨m, m1, m2, hf, hk, b1, b2, b3, b4, c1, c2⟩ := h x y hxy hyn
    rcases rec_inv hr with ⟨i, j, hF, rfl⟩ | ⟨i, j, k, l, r, hF, hk', h1, h2, h3, h4, rfl⟩
    · have := hf _ _ _ hF
      rw [← this] at hk
      exact absurd hk (Nat.lt_irrefl 0)
    · have e := hf _ _ _ hF
      have ei : i = (B m).1 := by rw [← e]
      have ej : j = (B m).2.1 := by rw [← e]
      have ek : k = (B m).2.2 := by rw [← e]
      dsimp only at h1 h2 h3 h4
      have hl : l = (List.range' x (m - x)).map B := by
        by_cases hc : x < m
        · have := h1 (by rw [ei, ej, b1, b2]; exact c1.mp hc)
          rw [ei, ej, b1, b2] at this
          exact ih (m - x) (ar_s m2 m1 hd) x m rfl hc (Nat.le_trans (Nat.le_of_lt m2) hyn) l this
        · rw [h2 (by rw [ei, ej, b1, b2]; exact fun z => hc (c1.mpr z)), ar_z hc]
          rfl
      have hrr : r = (List.range' (m + 1) (y - (m + 1))).map B := by
        by_cases hc : m + 1 < y
        · have := h3 (by rw [ei, ej, ek, b3, b4]; exact c2.mp hc)
          rw [ei, ej, ek, b3, b4] at this
          exact ih (y - (m + 1)) (ar_t m2 m1 hd) (m + 1) y rfl hc hyn r this
        · rw [h4 (by rw [ei, ej, ek, b3, b4]; exact fun z => hc (c2.mpr z)), ar_z hc]
          rfl
      rw [hl, hrr, e, ← List.map_cons, ← List.map_append]
      congr 1
      have e1 : List.range' x (y - x) = List.range' x (m - x) ++ List.range' m (y - m) := by
        have := List.range'_append_1 (s := x) (m := m - x) (n := y - m)
        rw [ar_u m1, ar_v m2 m1] at this
        exact this.symm
      rw [e1, ar_w m2, List.range'_succ]
section
variable {T L : Str} {jk : Nat → Bool} {n : Nat} {o c mu wd tp lp off : Nat → Nat}
noncomputable def blkT (n : Nat) (c mu tp lp off : Nat → Nat) (r : Nat) : Blk := (tp r + oo n c off r, lp r + mu r + oo n c off r, tp (r + 1) + oo n c off (r + 1) - (tp r + oo n c off r))
noncomputable def swB (b : Blk) : Blk := (b.2.1, b.1, b.2.2)
theorem ar_S {t o c q z : Nat} (h : q ≤ o) (hc : 0 < c) : t + q < t + o + c + z := Nat.lt_of_lt_of_le (Nat.lt_of_le_of_lt (Nat.add_le_add_left h t) (Nat.lt_add_of_pos_right hc)) (Nat.le_add_right _ _)
theorem ar_T {t o c q z l : Nat} (h : q ≤ o) : l + q + (t + o + c + z - (t + q)) = l + o + c + z := by
  obtain ⟨d, rfl⟩ := Nat.exists_eq_add_of_le h
  simp only [Nat.add_assoc, Nat.add_sub_add_left, Nat.add_sub_cancel_left]
theorem ar_G {a u q o c b z : Nat} (h : q ≤ o) (hc : 0 < c) (h2 : a + u + o + c ≤ b) : a + q < b + z := by lia
theorem Lay.bef (h : Lay T L jk n o c mu wd tp lp off) {x y : Nat} (e : x < y) (hy : y ≤ n) : tp x + oo n c off x < tp y + oo n c off y ∧ lp x + oo n c off x < lp y + mu y + oo n c off y := by
  have hx := Nat.lt_of_lt_of_le e hy
  have q := oo_le h hx
  have cx := h.cpos hx
  exact ⟨ar_G (a := tp x) (u := 0) q cx (h.tlt e hy), ar_G q cx (Nat.le_trans (h.llt e hy) (Nat.le_add_right _ _))⟩
theorem Lay.len (h : Lay T L jk n o c mu wd tp lp off) {m : Nat} (hm : m < n) : 0 < (blkT n c mu tp lp off m).2.2 ∧ tp m + oo n c off m + (blkT n c mu tp lp off m).2.2 = tp (m + 1) + oo n c off (m + 1) ∧ lp m + mu m + oo n c off m + (blkT n c mu tp lp off m).2.2 = lp (m + 1) + oo n c off (m + 1) := by
  have h1 := oo_le h hm
  unfold blkT
  dsimp only
  rw [h.tps m hm, h.lps m hm]
  exact ⟨Nat.sub_pos_of_lt (ar_S h1 (h.cpos hm)), ar_T h1, ar_T h1⟩
theorem Lay.facts (h : Lay T L jk n o c mu wd tp lp off) {x y m : Nat} (hy : y ≤ n) (hm : FMax c x y m) :
    0 < (blkT n c mu tp lp off m).2.2 ∧ (blkT n c mu tp lp off m).1 + (blkT n c mu tp lp off m).2.2 = tp (m + 1) + oo n c off (m + 1) ∧ (blkT n c mu tp lp off m).2.1 + (blkT n c mu tp lp off m).2.2 = lp (m + 1) + oo n c off (m + 1) ∧
      (x < m ↔ tp x + oo n c off x < tp m + oo n c off m ∧ lp x + oo n c off x < lp m + mu m + oo n c off m) ∧ (m + 1 < y ↔ tp (m + 1) + oo n c off (m + 1) < tp y + oo n c off y ∧ lp (m + 1) + oo n c off (m + 1) < lp y + mu y + oo n c off y) := by
  obtain ⟨m1, m2, _, _⟩ := hm
  have hmn : m < n := Nat.lt_of_lt_of_le m2 hy
  obtain ⟨g1, g2, g3⟩ := h.len hmn
  refine ⟨g1, g2, g3, ⟨fun e => h.bef e (Nat.le_of_lt hmn), fun e => Nat.lt_of_le_of_ne m1 fun e2 => ?_⟩, ⟨fun e => h.bef e hy, fun e => Nat.lt_of_le_of_ne m2 fun e2 => ?_⟩⟩
  · subst e2; exact Nat.lt_irrefl _ e.1
  · subst e2; exact Nat.lt_irrefl _ e.1
theorem ar_R {x y : Nat} (h : x < y) : x + (y - x - 1) + 1 = y := by
  rw [Nat.add_assoc, Nat.sub_add_cancel (Nat.sub_pos_of_lt h)]; exact Nat.add_sub_cancel' (Nat.le_of_lt h)
theorem Lay.blocks (h : Lay T L jk n o c mu wd tp lp off) (bl : List Blk) (hr : RecP T L jk (0, T.cps.size, 0, L.cps.size) bl) : bl = (List.range' 0 n).map (blkT n c mu tp lp off) := by
  have ho : oo n c off 0 = 0 := by unfold oo; rw [if_neg]; lia
  have hn := h.npos
  have := rec_pin (B := blkT n c mu tp lp off) (n := n) (a := T) (b := L) (jk := jk) (fun x => tp x + oo n c off x) (fun y => tp y + oo n c off y) (fun x => lp x + oo n c off x) (fun y => lp y + mu y + oo n c off y) (fun x y hxy hy => by
    obtain ⟨m, hm⟩ := FMax.ex c x (y - x - 1)
    rw [ar_R hxy] at hm
    obtain ⟨f1, f2, f3, f4, f5⟩ := h.facts hy hm
    refine ⟨m, hm.1, hm.2.1, fun i j k hf => ?_, f1, rfl, rfl, f2, f3, f4, f5⟩
    obtain ⟨rfl, rfl, e3⟩ := h.flm hy hm hf
    unfold blkT
    rw [← e3, Nat.add_sub_cancel_left]) n 0 n (by lia) hn (Nat.le_refl _) bl (by
      rw [h.tp0, h.lp0, ho, oo_n, h.mun, h.tn, h.ln]; exact hr)
  exact this
theorem Lay.blocks' (h : Lay T L jk n o c mu wd tp lp off) (bl : List Blk) (hr : RecP L T jk (0, L.cps.size, 0, T.cps.size) bl) : bl = (List.range' 0 n).map fun r => swB (blkT n c mu tp lp off r) := by
  have ho : oo n c off 0 = 0 := by unfold oo; rw [if_neg]; lia
  have hn := h.npos
  have := rec_pin (B := fun r => swB (blkT n c mu tp lp off r)) (n := n) (a := L) (b := T) (jk := jk) (fun x => lp x + oo n c off x) (fun y => lp y + mu y + oo n c off y) (fun x => tp x + oo n c off x) (fun y => tp y + oo n c off y) (fun x y hxy hy => by
    obtain ⟨m, hm⟩ := FMax.ex c x (y - x - 1)
    rw [ar_R hxy] at hm
    obtain ⟨f1, f2, f3, f4, f5⟩ := h.facts hy hm
    refine ⟨m, hm.1, hm.2.1, fun i j k hf => ?_, f1, rfl, rfl, f3, f2, f4.trans and_comm, f5.trans and_comm⟩
    obtain ⟨rfl, rfl, e3⟩ := h.flm' hy hm hf
    unfold swB blkT
    dsimp only
    rw [← e3, Nat.add_sub_cancel_left]) n 0 n (by lia) hn (Nat.le_refl _) bl (by
      rw [h.tp0, h.lp0, ho, oo_n, h.mun, h.tn, h.ln]; exact hr)
  exact this
theorem Lay.rise (h : Lay T L jk n o c mu wd tp lp off) {r q : Nat} (hr : r < q) (hq : q < n) : tp r + oo n c off r < tp q + oo n c off q ∧ lp r + mu r + oo n c off r < lp q + mu q + oo n c off q := by
  have hr' := Nat.lt_trans hr hq
  exact ⟨(h.bef hr (Nat.le_of_lt hq)).1, ar_G (a := lp r + mu r) (u := 0) (oo_le h hr') (h.cpos hr') (Nat.le_trans (h.llt hr (Nat.le_of_lt hq)) (Nat.le_add_right _ _))⟩
/-! ## merged, and told as codes -/
theorem mrg_swap : ∀ (l : List Blk) (i j k : Nat), mrg j i k (l.map swB) = (mrg i j k l).map swB
  | [], i, j, k => by simp only [mrg_nil, List.map_nil]; split <;> rfl
  | b :: l, i, j, k => by
    simp only [List.map_cons, mrg_cons, swB]
    by_cases e : i + k = b.1 ∧ j + k = b.2.1
    · rw [if_pos e, if_pos ⟨e.2, e.1⟩]; exact mrg_swap l _ _ _
    · rw [if_neg e, if_neg fun z => e ⟨z.2, z.1⟩, List.map_append]
      rw [mrg_swap l b.1 b.2.1 b.2.2]
      congr 1
      split <;> rfl
noncomputable def swO (p : Opc) : Opc := (if p.1 = "insert" then "delete" else if p.1 = "delete" then "insert" else p.1, p.2.2.2.1, p.2.2.2.2, p.2.1, p.2.2.1)
theorem opc_swap : ∀ (l : List Blk) (i j : Nat), opc j i (l.map swB) = (opc i j l).map swO
  | [], i, j => rfl
  | b :: l, i, j => by
    simp only [List.map_cons, opc_cons, swB, List.map_append]
    rw [opc_swap l]
    congr 1
    · unfold opcTag
      by_cases e1 : i < b.1 <;> by_cases e2 : j < b.2.1
      · rw [if_pos ⟨e2, e1⟩, if_pos ⟨e1, e2⟩]; simp [swO]
      · rw [if_neg (fun z => e2 z.1), if_neg e2, if_pos e1, if_neg (fun z => e2 z.2), if_pos e1]; simp [swO]
      · rw [if_neg (fun z => e1 z.2), if_pos e2, if_neg (fun z => e1 z.1), if_neg e1, if_pos e2]; simp [swO]
      · rw [if_neg (fun z => e2 z.1), if_neg e2, if_neg e1, if_neg (fun z => e1 z.1), if_neg e1, if_neg e2]; simp
    · congr 1
      split
      · rfl
      · simp [swO]
/-- the spots of the rows from r on -/
noncomputable def spR (n : Nat) (c mu tp off : Nat → Nat) (r : Nat) : Nat → List Nat
  | 0 => []
  | d + 1 => (if 0 < mu r then [tp r + oo n c off r] else []) ++ spR n c mu tp off (r + 1) d
theorem spR_0 {n : Nat} {c mu tp off : Nat → Nat} {r : Nat} : spR n c mu tp off r 0 = [] := rfl
theorem spR_s {n : Nat} {c mu tp off : Nat → Nat} {r d : Nat} : spR n c mu tp off r (d + 1) = (if 0 < mu r then [tp r + oo n c off r] else []) ++ spR n c mu tp off (r + 1) d := rfl
theorem Lay.tell (h : Lay T L jk n o c mu wd tp lp off) {M : Nat} (hmu : ∀ r, r < n → mu r = 0 ∨ mu r = M) :
    ∀ d r, r + d = n → ∀ i0 j0 i1 k1 sh, 0 < k1 → i1 + k1 = tp r + oo n c off r → i1 + sh + k1 = lp r + oo n c off r →
      opc i0 j0 (mrg i1 (i1 + sh) k1 ((List.range' r d).map (blkT n c mu tp lp off)) ++ [(tp n, lp n, 0)]) = opcTag i0 i1 j0 (i1 + sh) ++ codesN (tp n) M i1 sh (spR n c mu tp off r d ++ [tp n]) := by
  intro d
  induction d with
  | zero =>
    intro r hr i0 j0 i1 k1 sh hk h1 h2
    obtain rfl : r = n := by lia
    rw [oo_n] at h1 h2
    simp only [List.range'_zero, List.map_nil, mrg_nil, spR_0, List.nil_append, codesN_nil, codesN_cons]
    rw [if_neg (by lia), if_pos (by lia), if_neg (Nat.lt_irrefl _)]
    simp only [List.cons_append, List.nil_append, opc_nil, opc_cons, List.append_nil]
    rw [if_neg (by lia), show opcTag (i1 + k1) (tp r) (i1 + sh + k1) (lp r) = [] by unfold opcTag; rw [if_neg (by lia), if_neg (by lia), if_neg (by lia)]]
    simp only [List.nil_append, if_true, List.append_nil]
    rw [show i1 + k1 = tp r by lia, show i1 + sh + k1 = tp r + sh by lia]
  | succ d ih =>
    intro r hr i0 j0 i1 k1 sh hk h1 h2
    have hrn : r < n := by lia
    rw [List.range'_succ, List.map_cons]
    have hb : blkT n c mu tp lp off r = (tp r + oo n c off r, lp r + mu r + oo n c off r, (blkT n c mu tp lp off r).2.2) := rfl
    have hk2 : tp r + oo n c off r + (blkT n c mu tp lp off r).2.2 = tp (r + 1) + oo n c off (r + 1) ∧ 0 < (blkT n c mu tp lp off r).2.2 := ⟨(h.len hrn).2.1, (h.len hrn).1⟩
    generalize (blkT n c mu tp lp off r).2.2 = kr at hb hk2
    rw [hb]
    have lpr := h.lps r hrn
    have tpr := h.tps r hrn
    simp only [mrg_cons, spR_s]
    by_cases hm : mu r = 0
    · rw [if_pos (by lia), if_neg (by lia), List.nil_append]
      exact ih (r + 1) (by lia) i0 j0 i1 (k1 + kr) sh (by lia) (by lia) (by lia)
    · have hmM : mu r = M := by have := hmu r hrn; lia
      rw [if_neg (by lia), if_neg (by lia), if_pos (by lia)]
      simp only [List.cons_append, List.nil_append, opc_cons, codesN_cons]
      have e1 := ih (r + 1) (by lia) (i1 + k1) (i1 + sh + k1) (tp r + oo n c off r) kr (sh + M) (by lia) (by lia) (by lia)
      rw [show tp r + oo n c off r + (sh + M) = lp r + mu r + oo n c off r by lia] at e1
      have h3 := oo_le h hrn
      have h4 := h.tlt hrn (Nat.le_refl n)
      have h5 := h.cpos hrn
      rw [e1, if_neg (show ¬ k1 = 0 by lia), if_pos (show i1 < tp r + oo n c off r by lia), if_pos (show tp r + oo n c off r < tp n by lia)]
      rw [show opcTag (i1 + k1) (tp r + oo n c off r) (i1 + sh + k1) (lp r + mu r + oo n c off r) = [("insert", tp r + oo n c off r, tp r + oo n c off r, tp r + oo n c off r + sh, tp r + oo n c off r + sh + M)] by
        unfold opcTag; rw [if_neg (by lia), if_neg (by lia), if_pos (by lia)]
        rw [show i1 + k1 = tp r + oo n c off r by lia, show i1 + sh + k1 = tp r + oo n c off r + sh by lia, show lp r + mu r + oo n c off r = tp r + oo n c off r + sh + M by lia]]
      rw [show i1 + k1 = tp r + oo n c off r by lia, show i1 + sh + k1 = tp r + oo n c off r + sh by lia]
theorem Lay.codes (h : Lay T L jk n o c mu wd tp lp off) {M : Nat} (hmu : ∀ r, r < n → mu r = 0 ∨ mu r = M) (h0 : 0 < mu 0) :
    opc 0 0 (mrg 0 0 0 ((List.range' 0 n).map (blkT n c mu tp lp off)) ++ [(T.cps.size, L.cps.size, 0)]) = codesN T.cps.size M 0 0 (spR n c mu tp off 0 n ++ [T.cps.size]) := by
  have hn := h.npos
  rw [← h.tn, ← h.ln]
  obtain ⟨d, rfl⟩ : ∃ d, n = d + 1 := ⟨n - 1, by lia⟩
  have ho : oo (d + 1) c off 0 = 0 := by unfold oo; rw [if_neg]; lia
  have hM : mu 0 = M := by have := hmu 0 hn; lia
  rw [List.range'_succ, List.map_cons]
  have hb : blkT (d + 1) c mu tp lp off 0 = (0, M, (blkT (d + 1) c mu tp lp off 0).2.2) := by unfold blkT; rw [ho, h.tp0, h.lp0, hM]; simp
  have lpr := h.lps 0 hn
  have tpr := h.tps 0 hn
  have h5 := h.cpos hn
  have htn := h.tlt hn (Nat.le_refl _)
  rw [h.tp0] at tpr htn
  rw [h.lp0] at lpr
  have hk2 : (blkT (d + 1) c mu tp lp off 0).2.2 = tp 1 + oo (d + 1) c off 1 ∧ 0 < (blkT (d + 1) c mu tp lp off 0).2.2 := by
    unfold blkT; dsimp only; rw [ho, h.tp0]; simp only [Nat.zero_add] at tpr ⊢; lia
  generalize (blkT (d + 1) c mu tp lp off 0).2.2 = kr at hb hk2
  rw [hb]
  simp only [mrg_cons, spR_s]
  rw [if_neg (by lia), if_pos h0, h.tp0, ho]
  have e1 := h.tell hmu d 1 (by lia) 0 0 0 kr M (by lia) (by lia) (by simp only [Nat.zero_add] at tpr lpr; lia)
  rw [Nat.zero_add] at e1
  simp only [Nat.zero_add, List.nil_append, List.cons_append, codesN_cons, Nat.lt_irrefl, if_false, if_true]
  rw [e1, if_pos (by lia)]
  rw [show opcTag 0 0 0 M = [("insert", 0, 0, 0, M)] by unfold opcTag; rw [if_neg (by lia), if_neg (by lia), if_pos (by lia)]]
end
end Mine
end
section
open PySem PySem.W PyProof.Rows PySem.Calls PySem.Spec PySem.Builtin PySem.Builtin.Str PySem.StrLaws
set_option Elab.async false
set_option maxRecDepth 1000000
set_option maxHeartbeats 8000000
namespace Mine
theorem nobr : Unicode.isLineBreak 32 = false ∧ Unicode.isLineBreak 9 = false ∧ Unicode.isLineBreak 97 = false ∧ Unicode.isLineBreak 98 = false := by decide +kernel
theorem br10 : Unicode.isLineBreak 10 = true := by decide +kernel
noncomputable def RowLn (r : Str) : Prop := ∃ b : List Nat, r.cps.toList = b ++ [10] ∧ ∀ c ∈ b, Unicode.isLineBreak c = false
noncomputable def spansOf : Nat → List Str → List (Nat × Nat × Nat)
  | _, [] => []
  | i, r :: rs => (i, i + r.length - 1, i + r.length) :: spansOf (i + r.length) rs
theorem spansOf_nil {i : Nat} : spansOf i [] = [] := rfl
theorem spansOf_cons {i : Nat} {r : Str} {rs : List Str} : spansOf i (r :: rs) = (i, i + r.length - 1, i + r.length) :: spansOf (i + r.length) rs := rfl
theorem getD_of_drop {x : Str} {cur c : Nat} {l : List Nat} (h : x.cps.toList.drop cur = c :: l) : x.cps.getD cur 0 = c ∧ x.cps.toList.drop (cur + 1) = l := by
  have h1 : x.cps.toList[cur]? = some c := by
    have := congrArg (fun t => t[0]?) h
    simpa using this
  constructor
  · rw [Array.getD_eq_getD_getElem?]
    rw [Array.getElem?_toList] at h1
    rw [h1]; rfl
  · rw [← List.drop_drop, h]; rfl
theorem ln_run (x : Str) : ∀ (b : List Nat) (cur start k : Nat) (rest : List Nat) (ls : Array (Nat × Nat × Nat)), x.cps.toList.drop cur = b ++ 10 :: rest → (∀ c ∈ b, Unicode.isLineBreak c = false) → start ≤ cur →
    Id.run (forIn (m := Id) (List.range' cur (b.length + 1 + k)) ((ls, start) : LsSt) (lsBody x)) = Id.run (forIn (m := Id) (List.range' (cur + b.length + 1) k) ((ls.push (start, cur + b.length, cur + b.length + 1), cur + b.length + 1) : LsSt) (lsBody x))
  | [], cur, start, k, rest, ls, h, _, hs => by
    obtain ⟨hc, _⟩ := getD_of_drop (show x.cps.toList.drop cur = 10 :: rest from h)
    rw [show ([] : List Nat).length + 1 + k = k + 1 from by simp; lia, List.range'_succ, List.forIn_cons]
    have e : lsBody x cur (ls, start) = pure (ForInStep.yield (ls.push (start, cur, cur + 1), cur + 1)) := by
      unfold lsBody lsNext
      rw [hc, br10]
      simp [hs]
    rw [e]
    rfl
  | c :: b, cur, start, k, rest, ls, h, hb, hs => by
    obtain ⟨hc, hd⟩ := getD_of_drop (show x.cps.toList.drop cur = c :: (b ++ 10 :: rest) from h)
    rw [show (c :: b).length + 1 + k = (b.length + 1 + k) + 1 from by simp; lia, List.range'_succ, List.forIn_cons]
    have e : lsBody x cur (ls, start) = pure (ForInStep.yield (ls, start)) := by
      unfold lsBody
      rw [hc, hb c (.head _)]
      simp
    rw [e]
    have ih := ln_run x b (cur + 1) start k rest ls hd (fun d hd => hb d (.tail _ hd)) (by lia)
    rw [show cur + (c :: b).length = cur + 1 + b.length from by simp; lia]
    exact ih
theorem rows_run (x : Str) : ∀ (rs : List Str) (cur : Nat) (ls : Array (Nat × Nat × Nat)), x.cps.toList.drop cur = rs.flatMap (fun r => r.cps.toList) → (∀ r ∈ rs, RowLn r) →
    Id.run (forIn (m := Id) (List.range' cur (rs.flatMap (fun r => r.cps.toList)).length) ((ls, cur) : LsSt) (lsBody x)) = (ls ++ (spansOf cur rs).toArray, cur + (rs.flatMap (fun r => r.cps.toList)).length)
  | [], cur, ls, h, _ => by simp [spansOf_nil]
  | r :: rs, cur, ls, h, hr => by
    obtain ⟨b, hb, hnb⟩ := hr r (.head _)
    have hlen : r.length = b.length + 1 := by
      show r.cps.size = _
      rw [← Array.length_toList, hb]; simp
    have h2 : x.cps.toList.drop cur = b ++ 10 :: rs.flatMap (fun r => r.cps.toList) := by
      rw [h, List.flatMap_cons, hb]; simp
    have e := ln_run x b cur cur (rs.flatMap (fun r => r.cps.toList)).length _ ls h2 hnb (Nat.le_refl _)
    rw [List.flatMap_cons, List.length_append, hb, List.length_append, List.length_singleton, e]
    have h3 : x.cps.toList.drop (cur + b.length + 1) = rs.flatMap (fun r => r.cps.toList) := by
      rw [show cur + b.length + 1 = cur + (b.length + 1) from by lia, ← List.drop_drop, h2]
      simp
    rw [rows_run x rs _ _ h3 fun r hr' => hr r (.tail _ hr')]
    simp only [spansOf_cons, hlen]
    refine Prod.ext ?_ (by simp only; lia)
    simp
    rfl
theorem spans_cat {rs : List Str} (hr : ∀ r ∈ rs, RowLn r) : lineSpans (cat rs) = spansOf 0 rs := by
  rw [ls_eq]
  have e := rows_run (cat rs) rs 0 #[] (by simp [cat]) hr
  have hl : (cat rs).length = (rs.flatMap fun r => r.cps.toList).length := by simp [cat, Str.length]
  rw [hl, e]
  unfold lsEnd
  rw [hl]
  simp
noncomputable def cutsK (x : Str) : List (Nat × Nat) := (lineSpans x).map fun (i, _, k) => (i, k)
theorem cuts_rows (x : Str) : ∀ (rs : List Str) (cur : Nat), x.cps.toList.drop cur = rs.flatMap (fun r => r.cps.toList) → (((spansOf cur rs).map fun (i, _, k) => (i, k)).map fun (p : Nat × Nat) => strSub x p.1 p.2) = rs
  | [], _, _ => rfl
  | r :: rs, cur, h => by
    have h3 : x.cps.toList.drop (cur + r.length) = rs.flatMap (fun r => r.cps.toList) := by
      rw [← List.drop_drop, h, List.flatMap_cons]
      show (r.cps.toList ++ _).drop r.cps.size = _
      rw [← Array.length_toList, List.drop_left]
    have ih := cuts_rows x rs (cur + r.length) h3
    simp only [spansOf_cons, List.map_cons]
    rw [ih]
    congr 1
    show (⟨x.cps.extract cur (cur + r.length)⟩ : Str) = r
    have : (x.cps.extract cur (cur + r.length)).toList = r.cps.toList := by
      rw [Array.toList_extract, List.extract_eq_take_drop, h, List.flatMap_cons, show cur + r.length - cur = r.cps.toList.length from by rw [Array.length_toList]; show _ = r.length; lia]
      exact List.take_left
    cases r
    simp only [Str.mk.injEq]
    exact Array.toList_inj.mp this
theorem splitK_tree (x : Str) (t : Tok) : «str.splitlines» ⟨[.str x t, .bool true], []⟩ = (do
    if (true && cutsK x == [(0, x.length)]) = true then (do rule "str.splitlines.same-object"; ret (← newList [.str x t]))
    else ret (← newList (← (cutsK x).mapM fun (i, j) => mkStr (strSub x i j)))) := rfl
theorem meets_splitK (x : Str) (t : Tok) (hsz : x.length ≤ sizeLine) (hsz2 : (cutsK x).length ≤ sizeLine) : Meets («str.splitlines» ⟨[.str x t, .bool true], []⟩) (fun A R s =>
    if (cutsK x == [(0, x.length)]) = true then listOfItself x t A R s
    else R (.ok (.ret (.ref s.heap.objs.size))) { s with toks := s.toks + (cutsK x).length, heap := s.heap.push { cls := .type "list", data := .seq (strsFrom s.toks ((cutsK x).map fun (p : Nat × Nat) => strSub x p.1 p.2)).toArray } }) := by
  refine .of_wp fun prog w A R s h => ?_
  rw [splitK_tree x t]
  revert h
  cases cutsK x == [(0, x.length)]
  · intro h
    show wpAny _ _ (do ret (← newList (← (cutsK x).mapM fun (i, j) => mkStr (strSub x i j)))) _ _ s
    exact wpAny_bind (wpAny_mapM_mkStr_of (fun (p : Nat × Nat) => strSub x p.1 p.2) (fun p => Nat.le_trans (strSub_length_le ..) hsz) _ _ _ (wpAny_bind (wpAny_newList (wpAny_pure ⟨_, rfl, h⟩) (by rw [strsFrom_length, List.length_map]; exact hsz2))))
  · intro h
    show wpAny _ _ (do rule "str.splitlines.same-object"; ret (← newList [.str x t])) _ _ s
    exact wpAny_bind (wpAny_rule (wpAny_bind (wpAny_newList (wpAny_pure ⟨_, rfl, h⟩) (by show 1 ≤ sizeLine; decide))))
theorem spans_len : ∀ (rs : List Str) (i : Nat), (spansOf i rs).length = rs.length
  | [], _ => rfl
  | _ :: rs, i => congrArg (· + 1) (spans_len rs _)
theorem splitK {w : World} {A : Around} {E : Value → Shared → Prop} {s : Shared} {rs : List Str} {t : Tok} {g : Heap} {L : Addr} {m : Str → Option Value} {news : List (Addr × Obj)} {Q : Value → Shared → Prop}
    (hF : Fr g L s.heap m) (hN : News g L s.heap news) (hr : ∀ r ∈ rs, RowLn r) (hsz : (cat rs).length ≤ 10000) (hn : rs.length ≤ 10000)
    (h : ∀ l h' k D, l.map (·.1) = rs → Fr g L h' m → News g L h' ((D, listOf (strValues l).toArray 0) :: news) → AllLt D news → Q (.ref D) { s with heap := h', toks := k }) :
    wpAny (model pw w) A (call (.builtin "str.splitlines") [.str (cat rs) t, .bool true]) Q E s := by
  have hz : sizeLine = 16777216 := rfl
  have hcl : cutsK (cat rs) = (spansOf 0 rs).map fun (i, _, k) => (i, k) := by unfold cutsK; rw [spans_cat hr]
  have hcr : ((cutsK (cat rs)).map fun (p : Nat × Nat) => strSub (cat rs) p.1 p.2) = rs := by
    rw [hcl]; exact cuts_rows (cat rs) rs 0 (by simp [cat])
  refine call_meets F.slot_str_splitlines (typeIs_str _ _ _) F.entry_str_splitlines (F.args_str_splitlines_2 _ _) (meets_splitK (cat rs) t (by lia) (by rw [hcl, List.length_map, spans_len]; lia)) ?_
  have hlt : AllLt s.heap.objs.size news := allLt_of fun p hp => Heap.lt_size (hN p hp).1
  cases hw : cutsK (cat rs) == [(0, (cat rs).length)]
  · simp only [Bool.false_eq_true, if_false]
    rw [strsFrom_eq]
    exact h (numbered s.toks ((cutsK (cat rs)).map fun (p : Nat × Nat) => strSub (cat rs) p.1 p.2)) _ _ _ ((numbered_texts _ _).trans hcr) (Fr.pushS hF _) (News.push hF hN _) hlt
  · simp only [if_true]
    refine h [(cat rs, t)] _ s.toks _ ?_ (Fr.pushS hF _) (News.push hF hN _) hlt
    refine Eq.trans ?_ hcr
    rw [eq_of_beq hw]
    show [cat rs] = [strSub (cat rs) 0 (cat rs).length]
    have : strSub (cat rs) 0 (cat rs).length = cat rs := by
      unfold strSub
      show (⟨(cat rs).cps.extract 0 (cat rs).cps.size⟩ : Str) = _
      rw [Array.extract_size]
    rw [this]
end Mine
end
section
open PySem PySem.W PyProof.Rows PySem.Calls PySem.Spec
set_option Elab.async false
set_option maxRecDepth 1000000
set_option maxHeartbeats 8000000
namespace Mine
theorem regLM (P : Params) : K P = [] ∨ PySem.Challenge.rw_kl0396_01.name = PySem.Challenge.rw_kl0396_01.name := by
  k_fill
  exact .inr rfl
/-- indent's lambda, by reference to the row -/
noncomputable def lamPB : Arguments × Expr × Scope := match bodyAt ((bodyAt (top 8)).getD 1 (top 0)) with
  | .Assign _ (.Lambda a b s _) _ :: _ => (a, b, s)
  | _ => default
noncomputable def lamA : Arguments := lamPB.1
noncomputable def lamB : Expr := lamPB.2.1
noncomputable def lamS : Scope := lamPB.2.2
noncomputable abbrev lamO (pm : Value) (c' : Addr) (ct : Value) : Obj := kla_obj (Str.ofString "<lambda>") (Str.ofString "indent" ++ Str.ofString ".<locals>." ++ Str.ofString "<lambda>") lamA lamB lamS [] pm c' ct
theorem enterLam {w : World} {A : Around} {s : Shared} {R : Result → Shared → Prop} {f : Addr} {g : Heap} {mg mb : Str → Option Value} {name qual : Str} {params : Arguments} {body : Expr} {scope : Scope} {pm ctv : Value} {c' : Addr} {args : Args} (binds : List (Str × Value))
    (hkp : ∀ b o, g.get? b = some o → s.heap.get? b = some o) (X : (K w.params).In g) (T : TopRead q (looseW q loose) mg mb g)
    (ho : s.heap.get? f = some (kla_obj name qual params body scope [] pm c' ctv)) (hcd : s.heap.CodeRec (.ref c') qual) (hroom : A.depth < recursionLimit)
    (hbind : bindArgs (kla_fn name qual params body scope [] pm (.ref c') ctv) args = pure binds) (hloc : ∀ y ∈ binds, scope.names.lookup y.1 = some .local)
    (h : ∀ g' L h₁, (∀ b o, s.heap.get? b = some o → g'.get? b = some o) → (K w.params).In g' → TopRead q (looseW q loose) mg mb g' → Fr g' L h₁ (fun y => binds.reverse.lookup y) → News g' L h₁ [] →
      wpAny (model pw w) (A.deeper (envX qual scope L f (.ref c') [])) (eval body (envX qual scope L f (.ref c') [])) (fun v s' => R (.ok (.ret v)) s') (fun _ _ => False) { s with heap := h₁, toks := s.toks + binds.length })
    (hco : scope.isCoroutine = false) (hgen : scope.isGenerator = false) (hk : scope.kind = .function) (hcell : ∀ x ∈ scope.names, x.2 ≠ .cell) :
    codeAny (model pw w) A (.call (.ref f) args) R s := by
  refine kla_callFunE hroom ho rfl hco hgen rfl hcd ?_
  rw [hbind]
  refine wpAny_pure (wpAny_newFunctionEnv hcell hloc (fun h₁ hns hsb => ⟨((T.nolimit).keeps hkp).fresh _ hsb, ?_⟩) hk)
  show codeAny _ _ (.expr body (envX qual scope s.heap.objs.size f (.ref c') [])) _ _
  have hk₁ : ∀ b o, s.heap.get? b = some o → h₁.get? b = some o := fun b o e => hsb.extBut b o (Nat.ne_of_lt (Heap.lt_size e)) (Heap.get?_push_of_some _ e)
  exact kla_codeExpr (wpAny_mono (h s.heap s.heap.objs.size h₁ (fun _ _ e => e) (X.keeps hkp) (T.keeps hkp) ⟨hns, hk₁, Nat.le_refl _⟩ (fun p hp => nomatch hp)) (fun v s' hl => hl) fun _ _ y => y.elim)
theorem lam_run {w : World} {dp un : Nat} {fr : Option (List Env)} {gd : Option (List Code)} {s : Shared} {R : Result → Shared → Prop} {f c' : Addr} {g : Heap} {mg mb : Str → Option Value} {pm ct : Value} {y : Str} {t : Tok}
    (hkp : ∀ b o, g.get? b = some o → s.heap.get? b = some o) (X : (K w.params).In g) (T : TopRead q (looseW q loose) mg mb g)
    (ho : s.heap.get? f = some (lamO pm c' ct)) (hcd : s.heap.CodeRec (.ref c') (Str.ofString "indent" ++ Str.ofString ".<locals>." ++ Str.ofString "<lambda>")) (hd : dp < 400)
    (hR : ∀ h' tk, (∀ b o, s.heap.get? b = some o → h'.get? b = some o) → R (.ok (.ret (.bool (!Txt.isspace y)))) { s with heap := h', toks := tk }) :
    codeAny (model pw w) (AR dp un fr gd) (.call (.ref f) ⟨[.str y t], []⟩) R s := by
  refine enterLam [("s", .str y t)] hkp X T ho hcd (Nat.lt_trans hd (by decide)) rfl (locs rfl) ?_ rfl rfl rfl (by decide)
  clear X T
  intro g' L h₁ hin X T F N
  conv in eval _ _ => arg 1; whnf
  conv in (occs := *) envX _ _ _ _ _ _ => all_goals (arg 2; whnf)
  (try k_fold)
  k_steps
  exact hR _ _ fun b o e => F.keep _ _ (hin b o e)
end Mine
end
section
open PySem PySem.W PyProof.Rows PySem.Calls PySem.Spec
set_option Elab.async false
set_option maxRecDepth 1000000
set_option maxHeartbeats 8000000
namespace Mine
theorem regND (P : Params) : K P = [] ∨ PySem.Challenge.rw_kl0396_01.name = PySem.Challenge.rw_kl0396_01.name := by
  k_fill
  exact .inr rfl
local macro_rules | `(tactic| walk_at $s:str) => stopAt "exec For Name Call cons nil|call builtin:str.splitlines|pyIter ref" s
noncomputable abbrev inSt (i : Nat) : Stmt := (bodyAt (top 8)).getD i (top 0)
noncomputable abbrev inEnv (L : Addr) : Env := envX "indent" (scopeAt (top 8)) L 262 (.ref 261) []
local macro_rules | `(tactic| walk_at $s:str) => stopAt "call ref|call builtin:list.append" s
theorem ind_turn {w : World} {dp un : Nat} {fr : Option (List Env)} {gd : Option (List Code)} {s : Shared} {g : Heap} {mg mb : Str → Option Value} {L ll I D f cc : Addr} {oI oD oc : Obj} {vs : Array Value} {u : Tok} {m : Str → Option Value} {pv : List Value} {c : Nat} {px y : Str} {tp ty : Tok} {pm ct : Value} {tb : Addr × Obj} {Q : Flow → Shared → Prop}
    (X : (K w.params).In g) (T : TopRead q (looseW q loose) mg mb g) (C : CodeHd g 261 257) (hd : dp < 389) (hI : I ≠ ll ∧ D ≠ ll ∧ f ≠ ll ∧ cc ≠ ll ∧ tb.1 ≠ ll) (hlen : pv.length < 900)
    (h1 : oc.data = .fields vs) (h2 : vs[1]? = some (Value.str (Str.ofString "indent" ++ Str.ofString ".<locals>." ++ Str.ofString "<lambda>") u))
    (hQ : ∀ h' tk m' c', Fr g L h' m' → HasL m' [("prefixed_lines", .ref ll), ("predicate", .ref f), ("prefix", .str px tp)] → News g L h' ((I, oI) :: (D, oD) :: (f, lamO pm cc ct) :: (cc, oc) :: tb :: (ll, listOf (pv ++ (if Txt.isspace y = true then [Value.str y ty] else [Value.str px tp, Value.str y ty])).toArray c') :: []) → Q .next { s with heap := h', toks := tk })
    (F : Fr g L s.heap m) (hm : HasL m [("line", .str y ty), ("prefixed_lines", .ref ll), ("predicate", .ref f), ("prefix", .str px tp)]) (N : News g L s.heap [(I, oI), (D, oD), (f, lamO pm cc ct), (cc, oc), tb, (ll, listOf pv.toArray c)]) :
    wpAny (model pw w) ((AR dp un fr gd).deeper (inEnv L)) (execs (bodyAt (inSt 3)) (inEnv L)) Q (fun _ _ => False) s := by
  conv in execs _ _ => arg 1; whnf
  delta inEnv
  conv in (occs := *) envX _ _ _ _ _ _ => all_goals (arg 2; whnf)
  have em := ov_of hm
  rw [em] at F
  k_steps
  refine Stop.intro ?_
  refine wpAny_call ?_
  refine lam_run (fun b o e => F.keep _ _ e) X T (N _ (.tail _ (.tail _ (.head _)))).1 ⟨cc, oc, vs, u, rfl, (N _ (.tail _ (.tail _ (.tail _ (.head _))))).1, h1, h2⟩ (show dp + 1 < 400 by lia) fun h2 tk2 hk2 => ?_
  have F2 := Fr.kept F hk2
  have N2 := News.grown N hk2
  clear F N
  have hup : ∀ o o', Upd ll o o' [(I, oI), (D, oD), (f, lamO pm cc ct), (cc, oc), tb, (ll, o)] [(I, oI), (D, oD), (f, lamO pm cc ct), (cc, oc), tb, (ll, o')] := fun o o' =>
    Upd.tail hI.1 (Upd.tail hI.2.1 (Upd.tail hI.2.2.1 (Upd.tail hI.2.2.2.1 (Upd.tail hI.2.2.2.2 (Upd.head (fun r hr => nomatch hr))))))
  k_steps
  · refine Stop.intro ?_
    rename Txt.isspace y = true => hsp
    refine append_K F2 N2 (hup _ _) (fun h4 F4 N4 => ?_) (by have : sizeLine = 16777216 := rfl; simp; lia)
    rw [List.push_toArray] at N4
    clear F2 N2
    k_steps
    rename Fr _ _ _ _ => F5
    rename News _ _ _ _ => N5
    refine hQ _ _ _ (c + 1) F5 ⟨rfl, rfl, rfl, trivial⟩ ?_
    rw [if_pos hsp]
    exact N5
  · refine Stop.intro ?_
    rename Txt.isspace y = false => hsp
    refine append_K F2 N2 (hup _ _) (fun h4 F4 N4 => ?_) (by have : sizeLine = 16777216 := rfl; simp; lia)
    rw [List.push_toArray] at N4
    clear F2 N2
    k_steps
    refine Stop.intro ?_
    refine append_K F4 N4 (hup _ _) (fun h6 F6 N6 => ?_) (by have : sizeLine = 16777216 := rfl; simp; lia)
    rw [List.push_toArray, List.append_assoc] at N6
    clear F4 N4
    k_steps
    rename Fr _ _ _ _ => F5
    rename News _ _ _ _ => N5
    refine hQ _ _ _ (c + 1 + 1) F5 ⟨rfl, rfl, rfl, trivial⟩ ?_
    rw [if_neg (by rw [hsp]; exact Bool.false_ne_true)]
    exact N5
theorem strs_get : ∀ {vs : List Value} {zs : List Str} {t : Nat} {v : Value}, StrsAre vs zs → vs[t]? = some v → ∃ z, zs[t]? = some z ∧ ∃ u, v = .str z u
  | _, _, t, v, .nil, h => by simp at h
  | _, _, 0, v, .cons z u hi, h => by
    simp only [List.getElem?_cons_zero, Option.some.injEq] at h
    exact ⟨z, rfl, u, h.symm⟩
  | _, _, t + 1, v, .cons z u hi, h => by
    simp only [List.getElem?_cons_succ] at h ⊢
    exact strs_get hi h
noncomputable def indS (px r : Str) : List Str := if Txt.isspace r = true then [r] else [px, r]
theorem ind_one {pv : List Value} {acc : List Str} {px r : Str} {tp ty : Tok} (h : StrsAre pv acc) : StrsAre (pv ++ (if Txt.isspace r = true then [Value.str r ty] else [Value.str px tp, Value.str r ty])) (acc ++ indS px r) := by
  unfold indS
  split
  · exact strs_append h (.cons _ _ .nil)
  · exact strs_append h (.cons _ _ (.cons _ _ .nil))
theorem indS_len (px r : Str) : (indS px r).length ≤ 2 := by unfold indS; split <;> simp
local macro_rules | `(tactic| walk_at $s:str) => stopAt "call builtin:str.join" s
theorem indentW {w : World} {dp un : Nat} {fr : Option (List Env)} {gd : Option (List Code)} {s : Shared} {R : Result → Shared → Prop} {g : Heap} {mg mb : Str → Option Value} {rs : List Str} {px : Str} {tt tp : Tok}
    (hkp : ∀ b o, g.get? b = some o → s.heap.get? b = some o) (X : (K w.params).In g) (T : TopRead q (looseW q loose) mg mb g) {l2 : List Str} {mean : ExcName → Option Value} (T2 : Top topProg l2 mean mg mb g) (N : Led g s.heap [(257, tabObj #[])]) (hd : dp < 389)
    (hr : ∀ r ∈ rs, RowLn r) (hl : ∀ r ∈ rs, r.length ≤ 100) (hpl : px.length ≤ 100) (hn : rs.length ≤ 90) (hsz : (cat rs).length ≤ 10000)
    (hRes : ∀ h' tk u, (∀ b o, s.heap.get? b = some o → b ≠ 257 → h'.get? b = some o) → (∃ ps, h'.get? 257 = some (tabObj ps)) → R (.ok (.ret (.str (cat (rs.flatMap (indS px))) u))) { s with heap := h', toks := tk }) :
    codeAny (model pw w) (AR dp un fr gd) (.call (.ref 262) ⟨[.str (cat rs) tt, .str px tp], []⟩) R s := by
  refine enterL [("text", .str (cat rs) tt), ("prefix", .str px tp), ("predicate", .none)] hkp X T N (by k_is) (by k_is) (Nat.lt_trans hd (by decide)) (by first | exact BindsTo.of_eq rfl | exact binds_K (X.keeps hkp) rfl (by k_is) rfl rfl rfl) (locs rfl) ?_ (by decide) rfl rfl rfl
  have N0 := N
  clear X T N
  intro g' L h₁ hin hof hno X T F N hlt
  have TT : Top topProg l2 mean mg mb g' := T2.keeps fun b o e => hin b o (hkp b o e) fun hm => by
    obtain ⟨p, hp, rfl⟩ := List.mem_map.mp hm
    rw [(N0 p hp).2] at e; cases e
  clear T2 N0
  have C : CodeHd g' 261 257 := codeHd_of_K X (by kernel_rfl)
  conv in execs _ _ => arg 1; whnf
  conv in (occs := *) envX _ _ _ _ _ _ => all_goals (arg 2; whnf)
  (try k_fold)
  k_steps
  refine Stop.intro ?_
  rename_i f cc oc vs tq ct _ _ hoc1 hoc2 lt1 lt2 _ ll _ lt3 h0 F0 N0
  refine For_invVF F0 (by rfl) (by rfl) ?_
  k_steps
  refine Stop.intro ?_
  refine splitK F0 N0 hr hsz (by lia) fun l h1 k D hl1 F1 N1 ltD => ?_
  clear F0 N0
  k_steps
  refine Stop.intro ?_
  obtain ⟨lt4, lt5, lt6⟩ : f < ll ∧ cc < ll ∧ 257 < ll := lt3
  have hDl : ll < D := ltD.1
  have hls : StrsAre (strValues l) rs := hl1 ▸ strsAre_of_values l
  have hlen : (strValues l).length = rs.length := hls.length
  refine loopList (kl := [(D, listOf (strValues l).toArray 0), (f, lamO ((mg "__name__").getD .none) cc ct), (cc, oc), (257, tabObj (#[] ++ #[rawInt ↑488, rawInt ↑20, Value.ref cc]))]) (news := [(ll, listOf #[] 0)]) rfl (.inr ⟨_, .head _⟩) (News.isList N1 (.head _)) F1 (News.sub N1 fun p hp => ?_) (fun p hp o ho => ?_)
    (fun t m' n' => ∃ pv c, HasL m' [("prefixed_lines", .ref ll), ("predicate", .ref f), ("prefix", .str px tp)] ∧ n' = [(ll, listOf (List.toArray pv) c)] ∧ StrsAre pv ((rs.take t).flatMap (indS px)) ∧ pv.length ≤ 2 * t) ⟨[], 0, ⟨rfl, rfl, rfl, trivial⟩, rfl, .nil, Nat.zero_le _⟩ ?_ ?_
  · simp only [List.cons_append, List.nil_append, List.mem_cons, List.not_mem_nil, or_false] at hp ⊢
    rcases hp with h | h | h | h | h <;> first | exact .inl h | exact .inr (.inl h) | exact .inr (.inr (.inl h)) | exact .inr (.inr (.inr (.inl h))) | exact .inr (.inr (.inr (.inr h))) | exact .inr (.inr (.inr (.inr (.inl h)))) | simp [h]
  · rw [List.mem_singleton.mp hp]
    simp only [List.mem_cons, List.not_mem_nil, or_false] at ho
    rcases ho with rfl | rfl | rfl | rfl
    · exact Nat.ne_of_lt hDl
    · exact Nat.ne_of_gt lt4
    · exact Nat.ne_of_gt lt5
    · exact Nat.ne_of_gt lt6
  · rintro t v m₁ news₁ h tk I oI hv ⟨pv, c, hm', rfl, hpv, hpl2⟩ hdis hltI F₁ N₁
    have hv' : (strValues l)[t]? = some v := by simpa using hv
    obtain ⟨r, hrt, u, rfl⟩ := strs_get hls hv'
    have htl : t < rs.length := List.getElem?_eq_some_iff.mp hrt |>.1
    have hd0 := hdis (ll, listOf (List.toArray pv) c) (.head _)
    refine ind_turn (mg := mg) (mb := mb) (g := g') (c := c) (pv := pv) (px := px) (tp := tp) (y := r) (ty := u) (I := I) (oI := oI) (D := D) (f := f) (cc := cc) (oc := oc) (vs := vs) (tb := (257, tabObj (#[] ++ #[rawInt ↑488, rawInt ↑20, Value.ref cc]))) X T C hd ⟨(hd0 _ (.head _)).symm, (hd0 _ (.tail _ (.head _))).symm, (hd0 _ (.tail _ (.tail _ (.head _)))).symm, (hd0 _ (.tail _ (.tail _ (.tail _ (.head _))))).symm, (hd0 _ (.tail _ (.tail _ (.tail _ (.tail _ (.head _)))))).symm⟩ (by lia) hoc1 hoc2 (fun h' tk' m' c' F' hm'' N' => ?_) F₁ ⟨rfl, hm'⟩ N₁
    refine TurnEnd.intro (news' := [(ll, _)]) F' N' (fun p hp o ho => ?_) ⟨_, _, hm'', rfl, ?_, ?_⟩
    · rw [List.mem_singleton.mp hp]
      exact hd0 o ho
    · rw [List.take_succ, hrt, List.flatMap_append]
      have := ind_one (px := px) (r := r) (tp := tp) (ty := u) hpv
      simpa using this
    · have : (if Txt.isspace r = true then [Value.str r u] else [Value.str px tp, Value.str r u]).length ≤ 2 := by split <;> simp
      rw [List.length_append]; lia
  · rintro h' tk m' news' F' N' _ ⟨pv, c, hm', rfl, hpv, hpl2⟩
    have em := ov_of hm'
    rw [em] at F'
    k_steps
    refine Stop.intro ?_
    have hsz2 : (strValues l).toArray.size = rs.length := by rw [List.size_toArray, hlen]
    rw [hsz2, List.take_length] at hpv
    refine join_strs (News.isList N' (.tail _ (.tail _ (.tail _ (.tail _ (.head _)))))) hpv (fun y hy => ?_) ?_ fun u k => ?_
    · obtain ⟨r, hrr, hy⟩ := List.mem_flatMap.mp hy
      unfold indS at hy
      split at hy
      · rw [List.mem_singleton.mp hy]; have := hl r hrr; lia
      · simp only [List.mem_cons, List.not_mem_nil, or_false] at hy
        rcases hy with e | e
        · rw [e]; lia
        · rw [e]; have := hl r hrr; lia
    · rw [← hpv.length]; rw [hsz2] at hpl2; lia
    · k_steps
      exact hRes _ _ _ (fun b o e hb => F'.keep _ _ (hin b o e fun hm => hb (by simpa using hm))) ⟨_, (N' _ (.tail _ (.tail _ (.tail _ (.head _))))).1⟩
end Mine
end
section
open PySem PySem.W PyProof.Rows PySem.Calls PySem.Spec
set_option Elab.async false
set_option maxRecDepth 1000000
set_option maxHeartbeats 8000000
namespace Mine
theorem regOQ (P : Params) : K P = [] ∨ PySem.Challenge.rw_kl0396_01.name = PySem.Challenge.rw_kl0396_01.name := by
  k_fill
  exact .inr rfl
local macro_rules | `(tactic| walk_at $s:str) => stopAt "exec For Tuple|setAttr ref|call ref|pyIter ref" s
/-- what holds between the turns -/
inductive GoJ (x A : Addr) (l : List Blk) (R : List (Addr × Obj)) (t : Nat) (m' : Str → Option Value) (n' : List (Addr × Obj)) : Prop
  | mk (i j : Nat) (ans : List Value) (nt : List (Addr × Obj)) (acc : List Opc) (c' : Nat) (t1 t2 : Tok) (hm : HasL m' [("i", .int (i : Nat) t1), ("j", .int (j : Nat) t2), ("answer", .ref A), ("self", .ref x)]) (e : n' = (A, listOf ans.toArray c') :: (nt ++ R))
      (h1 : ∀ r ∈ nt, r.1 ≠ A) (h2 : OV nt ans acc) (h3 : ans.length ≤ 2 * t) (h4 : opc 0 0 l = acc ++ opc i j (l.drop t))
theorem gop {w : World} {dp un : Nat} {fr : Option (List Env)} {gd : Option (List Code)} {s : Shared} {R : Result → Shared → Prop} {g : Heap} {mg mb : Str → Option Value} {x dx : Addr} {k : List Tok} {isj aj bp : Value} {a b : Str} {ta tb : Tok} {db sj : Addr} {n : Nat}
    (hkp : ∀ b o, g.get? b = some o → s.heap.get? b = some o) (X : (K w.params).In g) (T : TopRead q (looseW q loose) mg mb g)
    (N : Led g s.heap [(x, instObj 242 dx), (dx, dictOf (smEs w.params k isj a b ta tb aj .none .none (.ref db) (.ref sj) bp) n)])
    {jk : Nat → Bool} {ses : Array (Int × Value)} {sn sm : Nat} {stb : SetTable} {S : Str → Bool} (hB : B2J w g db b jk) (hsj : g.get? sj = some (setObj ses sn stb)) (hS : g.SetOf (strKind pw w) sj S sm) (hjk : ∀ v, v < b.cps.size → S ⟨#[ch b v]⟩ = jk (ch b v))
    (ha : a.cps.size < 400) (hb : b.cps.size < 400) (hd : dp < 398) (hu : un < 200) (hbl : ∀ bl, RecP a b jk (0, a.cps.size, 0, b.cps.size) bl → 2 ≤ bl.length ∧ bl.length < 64 ∧ bl.Pairwise fun x y => x.1 < y.1)
    (hRes : ∀ h' tk A ans c bl, (∀ b o, b ≠ x → b ≠ dx → s.heap.get? b = some o → h'.get? b = some o) → s.heap.get? A = none → h'.get? A = some (listOf (List.toArray ans) c) → RecP a b jk (0, a.cps.size, 0, b.cps.size) bl →
      All2 (NewOp s.heap h') ans (opc 0 0 (mrg 0 0 0 bl ++ [(a.cps.size, b.cps.size, 0)])) → R (.ok (.ret (.ref A))) { s with heap := h', toks := tk }) :
    codeAny (model pw w) (AR dp un fr gd) (.call (.ref 210) ⟨[.ref x], []⟩) R s := by
  refine enterL [("self", .ref x)] hkp X T N (by k_is) (by k_is) (Nat.lt_trans hd (by decide)) (by first | exact BindsTo.of_eq rfl | exact binds_K (X.keeps hkp) rfl (by k_is) rfl rfl rfl) (locs rfl) ?_ (by decide) rfl rfl rfl
  have hgx : g.get? x = none := (N _ (.head _)).2
  have hgd : g.get? dx = none := (N _ (.tail _ (.head _))).2
  clear X T N
  intro g' L h₁ hin hof hno X T F N hlt
  have hgg : ∀ b o, g.get? b = some o → g'.get? b = some o := fun b o e => hin b o (hkp b o e) fun hm => by
    simp only [List.map_cons, List.map_nil, List.mem_cons, List.not_mem_nil, or_false] at hm
    rcases hm with rfl | rfl
    · rw [hgx] at e; cases e
    · rw [hgd] at e; cases e
  have hsj' := hgg _ _ hsj
  have hB' := hB.keeps hgg
  have hS' := setOf_at hS hgg
  conv in execs _ _ => arg 1; whnf
  conv in (occs := *) envX _ _ _ _ _ _ => all_goals (arg 2; whnf)
  (try k_fold)
  k_steps
  refine Stop.intro ?_
  rename_i A _ F1 N1 lA
  have hxd : x ≠ dx := fun e => by
    have e1 := (N1 _ (.tail _ (.head _))).1
    have e2 := (N1 _ (.tail _ (.tail _ (.head _)))).1
    rw [e] at e1
    rw [e1] at e2; cases e2
  refine' set_dict F1 X N1 (InstAt.of_news N1 (.tail _ (.head _)) (.tail _ (.tail _ (.head _)))) ?k5 ?k6 ?k7 ?k8 ?k9 ?k10 ?k11 ?k12 ?k13 ?_
  case k5 => exact rfl
  case k6 => k_is
  case k7 => k_is
  case k8 => k_is
  case k9 => k_is
  case k10 => k_get
  case k11 => exact (show (putL _ _ _ _ _, putN _ _ _) = (smEs w.params k isj a b ta tb aj .none (.ref A) (.ref db) (.ref sj) bp, n) from by kernel_rfl)
  case k12 => exact Upd.tail (Nat.ne_of_gt lA.2) (Upd.tail hxd (Upd.head fun _ h => nomatch h))
  case k13 => exact Nat.le_of_ble_eq_true rfl
  intro h2 F2 N2
  clear F1 N1
  k_steps
  refine Stop.intro ?_
  refine For_invT g' ?_ (by intro x; rfl)
  k_steps
  refine Stop.intro ?_
  rename Fr _ _ _ _ => F3
  rename News _ _ _ _ => N3
  have hled : Led g' _ [(x, instObj 242 dx), (dx, dictOf (smEs w.params k isj a b ta tb aj .none (.ref A) (.ref db) (.ref sj) bp) n)] := fun r hr => ⟨(N3 r (.tail _ hr)).1, (N3 r (.tail _ hr)).2.2⟩
  refine wpAny_call ?_
  show codeAny _ (AR _ _ _ _) _ _ _
  refine gmb F3.keep X T hled hB' hsj' hS' hjk ha hb (by show dp + 1 < 399; lia) (by show un + _ < 300; lia) hbl fun h4 tk4 S lacc c bl hk4 hx4 hd4 hS4 hSx hSn hrec hall => ?_
  have hgx' : g'.get? x = none := (N3 _ (.tail _ (.head _))).2.2
  have hgd' : g'.get? dx = none := (N3 _ (.tail _ (.tail _ (.head _)))).2.2
  have hxL : x ≠ L := (N3 _ (.tail _ (.head _))).2.1
  have hdL : dx ≠ L := (N3 _ (.tail _ (.tail _ (.head _)))).2.1
  have F4 : Fr g' L h4 _ := ⟨F3.ns.at' fun o e => hk4 L o hxL.symm hdL.symm e, fun b o e => hk4 b o (by rintro rfl; rw [hgx'] at e; cases e) (by rintro rfl; rw [hgd'] at e; cases e) (F3.keep b o e), F3.above⟩
  obtain ⟨nw, hnw, hmv⟩ := MVl.of (g := g') (h := h4) F4.keep hall
  have hSA : S ≠ A := fun e => by
    have := (N3 _ (.head _)).1
    rw [e] at hSn; rw [hSn] at this; cases this
  have hSg : g'.get? S = none := by
    cases e : g'.get? S with
    | none => rfl
    | some o => have := F3.keep _ _ e; rw [hSn] at this; cases this
  have hSL : S ≠ L := by
    rintro rfl
    obtain ⟨oL, _, _, hL, _⟩ := F3.ns
    rw [hSn] at hL; cases hL
  have hnwL : ∀ r ∈ nw, r.1 ≠ L ∧ r.1 ≠ S ∧ r.1 ≠ A := fun r hr => by
    obtain ⟨e1, e2, d, its, e3⟩ := hnw r hr
    refine ⟨fun e => ?_, fun e => ?_, fun e => ?_⟩
    · obtain ⟨oL, _, _, hL, hc, _⟩ := F4.ns
      rw [← e, e1, e3] at hL
      cases hL; cases hc
    · rw [e, hS4] at e1
      have := (Option.some.inj e1).trans e3; cases this
    · have h5 := hk4 _ _ (Nat.ne_of_gt lA.1) (Nat.ne_of_gt lA.2) (N3 _ (.head _)).1
      rw [e] at e1
      have := (Option.some.inj (h5.symm.trans e1)).trans e3; cases this
  have N4 : News g' L h4 ((S, lstO lacc c) :: (A, listOf #[] 0) :: (x, instObj 242 dx) :: (dx, dictOf (smEs w.params k isj a b ta tb aj (.ref S) (.ref A) (.ref db) (.ref sj) bp) n) :: nw) := fun r hr => by
    rcases List.mem_cons.mp hr with rfl | hr
    · exact ⟨hS4, hSL, hSg⟩
    rcases List.mem_cons.mp hr with rfl | hr
    · exact ⟨hk4 _ _ (Nat.ne_of_gt lA.1) (Nat.ne_of_gt lA.2) (N3 _ (.head _)).1, (N3 _ (.head _)).2⟩
    rcases List.mem_cons.mp hr with rfl | hr
    · exact ⟨hx4, hxL, hgx'⟩
    rcases List.mem_cons.mp hr with rfl | hr
    · exact ⟨hd4, hdL, hgd'⟩
    · exact ⟨(hnw r hr).1, (hnwL r hr).1, (hnw r hr).2.1⟩
  clear F3 N3 hled
  have hblen := (hbl bl hrec).2.1
  have hml := mrg_len bl 0 0 0
  have hal := hall.len
  dsimp only
  k_steps
  refine Stop.intro ?_
  refine loopListT (kl := [(S, lstO lacc c)]) (items := lacc) rfl (.inr ⟨_, .head _⟩) (News.isList N4 (.head _)) F4 (news := (A, listOf #[] 0) :: (x, instObj 242 dx) :: (dx, dictOf (smEs w.params k isj a b ta tb aj (.ref S) (.ref A) (.ref db) (.ref sj) bp) n) :: nw) N4 (fun p hp o ho => ?_)
    (GoJ x A (mrg 0 0 0 bl ++ [(a.cps.size, b.cps.size, 0)]) ((x, instObj 242 dx) :: (dx, dictOf (smEs w.params k isj a b ta tb aj (.ref S) (.ref A) (.ref db) (.ref sj) bp) n) :: nw)) ⟨0, 0, [], [], [], 0, _, _, ⟨rfl, rfl, rfl, rfl, trivial⟩, rfl, by simp, .nil, by simp, by simp⟩ ?_ ?_
  · rw [List.mem_singleton.mp ho]
    simp only [List.mem_cons] at hp
    rcases hp with rfl | rfl | rfl | hp
    · exact hSA.symm
    · exact hSx.1.symm
    · exact hSx.2.symm
    · exact (hnwL p hp).2.1
  · rintro t v m₁ news₁ s₁ I oI hv ⟨i, j, ans, nt, acc, c', t1, t2, hm', rfl, hnt, hov, hal2, heq⟩ hdis hlt F₁ N₁
    obtain ⟨⟨ai, bj, sz⟩, hbk, am, d, u1, u2, u3, rfl, hor⟩ := All2.at hmv (i := t) (x := v) (by simpa using hv)
    have htl : t < (mrg 0 0 0 bl ++ [(a.cps.size, b.cps.size, 0)]).length := (List.getElem?_eq_some_iff.mp hbk).1
    have hdr : (mrg 0 0 0 bl ++ [(a.cps.size, b.cps.size, 0)]).drop t = (ai, bj, sz) :: (mrg 0 0 0 bl ++ [(a.cps.size, b.cps.size, 0)]).drop (t + 1) := by
      rw [List.drop_eq_getElem_cons htl, (List.getElem?_eq_some_iff.mp hbk).2]
    rw [hdr] at heq
    refine gop_step (ai := ai) (bj := bj) (sz := sz) (t3 := u1) (t4 := u2) (t5 := u3) (R := nt ++ ((x, instObj 242 dx) :: (dx, dictOf (smEs w.params k isj a b ta tb aj (.ref S) (.ref A) (.ref db) (.ref sj) bp) n) :: nw)) (c := c') X T ⟨(hdis _ (.head _) _ (.head _)).symm, hSA⟩ (fun r hr => ?_) ?_ ⟨d, ?_⟩ (fun h' tk m' nt' vs c'' t1 t2 F' hm'' N' hnt' hov' hl => ?_) F₁ hm' N₁
    · rcases List.mem_append.mp hr with hr | hr
      · exact hnt r hr
      · simp only [List.mem_cons] at hr
        rcases hr with rfl | rfl | hr
        · exact Nat.ne_of_lt lA.1
        · exact Nat.ne_of_lt lA.2
        · exact (hnwL r hr).2.2
    · simp only [List.length_append, List.length_cons, List.length_nil] at htl; lia
    · rcases hor with hor | hor
      · exact (N₁ _ (.tail _ (List.mem_append_right _ (.tail _ (List.mem_append_right _ (.tail _ (.tail _ hor))))))).1
      · exact F₁.keep _ _ hor
    · refine TurnT.intro (news' := (A, listOf (ans ++ vs).toArray c'') :: ((nt' ++ nt) ++ ((x, instObj 242 dx) :: (dx, dictOf (smEs w.params k isj a b ta tb aj (.ref S) (.ref A) (.ref db) (.ref sj) bp) n) :: nw))) F' (by rw [List.append_assoc]; exact N') (fun p hp o ho => ?_) ⟨_, _, ans ++ vs, nt' ++ nt, acc ++ (opcTag i ai j bj ++ (if sz = 0 then [] else [("equal", ai, ai + sz, bj, bj + sz)])), c'', t1, t2, hm'', rfl, fun r hr => ?_, forall2_join (OV.more hov fun r hr => List.mem_append_right _ hr) (OV.more hov' fun r hr => List.mem_append_left _ hr), ?_, ?_⟩
      · rcases List.mem_cons.mp hp with rfl | hp
        · exact hdis _ (.head _) o ho
        · rcases List.mem_append.mp hp with hp | hp
          · rcases List.mem_append.mp hp with hp | hp
            · rcases List.mem_cons.mp ho with rfl | ho
              · exact (hnt' p hp).2.2
              · rw [List.mem_singleton.mp ho]; exact (hnt' p hp).2.1
            · exact hdis p (.tail _ (List.mem_append_left _ hp)) o ho
          · exact hdis p (.tail _ (List.mem_append_right _ hp)) o ho
      · rcases List.mem_append.mp hr with hr | hr
        · exact (hnt' r hr).1
        · exact hnt r hr
      · simp only [List.length_append]; lia
      · rw [heq]; simp only [opc_cons, List.append_assoc]
  · rintro h' tk m' news' F' N' hd ⟨i, j, ans, nt, acc, c', t1, t2, hm', rfl, hnt, hov, hal2, heq⟩
    have em := ov_of hm'
    rw [em] at F'
    rw [Array.length_toList] at hal
    rw [hal, List.drop_length, opc_nil, List.append_nil] at heq
    dsimp only
    k_steps
    refine hRes h' _ A ans c' bl (fun b' o hbx hbd e => F'.keep b' o (hin b' o e fun hm => ?_)) ?_ (N' _ (.tail _ (.head _))).1 hrec ?_
    · simp only [List.map_cons, List.map_nil, List.mem_cons, List.not_mem_nil, or_false] at hm
      exact hm.elim hbx hbd
    · cases e : s.heap.get? A with
      | none => rfl
      | some o =>
        have h1 := hin A o e fun hm => by
          simp only [List.map_cons, List.map_nil, List.mem_cons, List.not_mem_nil, or_false] at hm
          exact hm.elim (Nat.ne_of_gt lA.1) (Nat.ne_of_gt lA.2)
        rw [(N' _ (.tail _ (.head _))).2.2] at h1; cases h1
    · rw [heq]
      refine hov.imp fun v p h => ?_
      obtain ⟨a', t0, t1, t2, t3, t4, e, hm⟩ := h
      refine ⟨a', t0, t1, t2, t3, t4, e, (N' _ (.tail _ (.tail _ (List.mem_append_left _ hm)))).1, ?_⟩
      have hN := N' _ (.tail _ (.tail _ (List.mem_append_left _ hm)))
      cases e3 : s.heap.get? a' with
      | none => rfl
      | some o =>
        have h1 := hin a' o e3 fun hm2 => by
          simp only [List.map_cons, List.map_nil, List.mem_cons, List.not_mem_nil, or_false] at hm2
          rcases hm2 with rfl | rfl
          · have e5 := hN.1
            rw [(N' _ (.tail _ (.tail _ (List.mem_append_right _ (.head _))))).1] at e5
            have h := congrArg Obj.cls (Option.some.inj e5)
            cases h
          · have e5 := hN.1
            rw [(N' _ (.tail _ (.tail _ (List.mem_append_right _ (.tail _ (.head _)))))).1] at e5
            have h := congrArg Obj.cls (Option.some.inj e5)
            injection h with h
            exact absurd h (by decide)
        rw [hN.2.2] at h1; cases h1
end Mine
end
section
open PySem PySem.W PyProof.Rows PySem.Calls PySem.Spec
set_option Elab.async false
set_option maxRecDepth 1000000
set_option maxHeartbeats 8000000
namespace Mine
theorem regJK1 (P : Params) : K P = [] ∨ PySem.Challenge.rw_kl0396_01.name = PySem.Challenge.rw_kl0396_01.name := by
  k_fill
  exact .inr rfl
local macro_rules | `(tactic| walk_at $s:str) => stopAt "getMethod ref" s
local macro_rules | `(tactic| walk_at $s:str) => stopAt "call ref|call builtin:dict.keys|call builtin:set.add|pyIter ref" s
noncomputable abbrev jkLL (x d sj : Addr) (b : Str) (tb : Tok) : List (Str × Value) := [("b2j", .ref d), ("junk", .ref sj), ("isjunk", .ref 254), ("b", .str b tb), ("self", .ref x)]
theorem junk_turn {w : World} {dp un : Nat} {fr : Option (List Env)} {gd : Option (List Code)} {s : Shared} {g : Heap} {mg mb : Str → Option Value} {L x d sj I : Addr} {oI od : Obj} {m : Str → Option Value} {R : List (Addr × Obj)} {b : Str} {c : Nat} {ks : List Str} {es : Array (Int × Value)} {ep : Nat} {t : SetTable} {u tb : Tok} {Q : Flow → Shared → Prop}
    (X : (K w.params).In g) (T : TopRead q (looseW q loose) mg mb g) (hd : dp < 400) (hJ : SetJ w es t ks) (hk : jkc c = true → ⟨#[c]⟩ ∉ ks ∧ ks.length ≤ 1) (hks : ks.length ≤ 100) (hne : I ≠ sj ∧ d ≠ sj) (hR : ∀ r ∈ R, r.1 ≠ sj)
    (hQ : ∀ h' tk m' es' ep' t', Fr g L h' m' → HasL m' (jkLL x d sj b tb) → News g L h' ((I, oI) :: (d, od) :: (sj, setObj es' ep' t') :: R) → SetJ w es' t' (ks ++ (if jkc c = true then [⟨#[c]⟩] else [])) → Q .next { s with heap := h', toks := tk })
    (F : Fr g L s.heap m) (hm : HasL m (("elt", .str ⟨#[c]⟩ u) :: jkLL x d sj b tb)) (N : News g L s.heap ((I, oI) :: (d, od) :: (sj, setObj es ep t) :: R)) :
    wpAny (model pw w) ((AR dp un fr gd).deeper (chEnv L)) (execs (bodyAt (chJ 0)) (chEnv L)) Q (fun _ _ => False) s := by
  conv in execs _ _ => arg 1; whnf
  delta chEnv
  conv in (occs := *) envX _ _ _ _ _ _ => all_goals (arg 2; whnf)
  have em := ov_of hm
  rw [em] at F
  k_steps
  refine Stop.intro ?_
  refine wpAny_call ?_
  show codeAny _ (AR _ _ _ _) _ _ _
  refine junk F.keep X T (by show dp + 1 < 500; lia) fun h2 tk2 hk2 => ?_
  have F2 := F.kept hk2
  have N2 : News g L h2 ((I, oI) :: (d, od) :: (sj, setObj es ep t) :: R) := fun p hp => ⟨hk2 _ _ (N p hp).1, (N p hp).2⟩
  clear F N
  cases hjc : jkc c with
  | false =>
    k_steps
    refine hQ _ _ _ es ep t F2 ⟨rfl, rfl, rfl, rfl, rfl, trivial⟩ N2 ?_
    rw [if_neg (by rw [hjc]; exact Bool.false_ne_true), List.append_nil]; exact hJ
  | true =>
    k_steps
    refine Stop.intro ?_
    have hS := hJ.setOf (N2 _ (.tail _ (.tail _ (.head _)))).1 (by rw [hJ.sz]; lia)
    refine getMethod_set_add hS ?_
    k_steps
    refine Stop.intro ?_
    refine add_new (N2 _ (.tail _ (.tail _ (.head _)))).1 hJ (hk hjc).1 (hk hjc).2 fun h3 es3 ep3 t3 hsb hg hJ3 => ?_
    have hnsj := N2 _ (.tail _ (.tail _ (.head _)))
    have F3 := F2.change hsb hnsj.2.1 hnsj.2.2
    have N3 : News g L h3 ([(I, oI), (d, od)] ++ (sj, setObj es3 ep3 t3) :: R) := News.setIn (own := [(I, oI), (d, od)]) N2 (fun p hp => by
      rcases List.mem_cons.mp hp with rfl | hp
      · exact hne.1
      · rw [List.mem_singleton.mp hp]; exact hne.2) hR hsb hg
    clear F2 N2
    k_steps
    refine hQ _ _ _ es3 ep3 t3 F3 ⟨rfl, rfl, rfl, rfl, rfl, trivial⟩ N3 ?_
    rw [if_pos hjc]; exact hJ3
theorem jks_snoc (rs : List CRow) (r : CRow) : jks (rs ++ [r]) = jks rs ++ (if jkc r.c = true then [⟨#[r.c]⟩] else []) := by
  unfold jks
  rw [List.filter_append, List.map_append]
  congr 1
  by_cases h : jkc r.c = true
  · simp [h]
  · simp [h]
theorem jks_mem {rs : List CRow} {c : Nat} : (⟨#[c]⟩ : Str) ∈ jks rs ↔ ∃ r ∈ rs, r.c = c ∧ jkc c = true := by
  unfold jks
  simp only [List.mem_map, List.mem_filter]
  constructor
  · rintro ⟨r, ⟨hr, hj⟩, e⟩
    have : r.c = c := by injection e with e; simpa using e
    exact ⟨r, hr, this, this ▸ hj⟩
  · rintro ⟨r, hr, rfl, hj⟩
    exact ⟨r, ⟨hr, hj⟩, rfl⟩
theorem chain_keys {w : World} {dp un : Nat} {fr : Option (List Env)} {gd : Option (List Code)} {s : Shared} {g : Heap} {mg mb : Str → Option Value} {L x d sj : Addr} {od : Obj} {m : Str → Option Value} {R : List (Addr × Obj)} {b : Str} {rs : List CRow} {es : Array (Int × Value)} {ep : Nat} {t : SetTable} {tb : Tok} {Q : Flow → Shared → Prop}
    (X : (K w.params).In g) (T : TopRead q (looseW q loose) mg mb g) (hd : dp < 400) (hJ : SetJ w es t []) (hcn : (rs.map (·.c)).Nodup) (hod : od.IsDictOf (strKind pw w) (rkv rs)) (lo : (d == sysModules) = false) (hne : d ≠ sj) (hR : ∀ r ∈ R, r.1 ≠ sj ∧ r.1 ≠ d)
    (hQ : ∀ h' tk m' es' ep' t', Fr g L h' m' → HasL m' (jkLL x d sj b tb) → News g L h' ((d, od) :: (sj, setObj es' ep' t') :: R) → SetJ w es' t' (jks rs) → Q .next { s with heap := h', toks := tk })
    (F : Fr g L s.heap m) (hm : HasL m (jkLL x d sj b tb)) (N : News g L s.heap ((d, od) :: (sj, setObj es ep t) :: R)) :
    wpAny (model pw w) ((AR dp un fr gd).deeper (chEnv L)) (exec (chJ 0) (chEnv L)) Q (fun _ _ => False) s := by
  conv in exec _ _ => arg 1; whnf
  delta chEnv
  conv in (occs := *) envX _ _ _ _ _ _ => all_goals (arg 2; whnf)
  have em := ov_of hm
  rw [em] at F
  refine For_invVF F (by rfl) (by rfl) ?_
  k_steps
  refine Stop.intro ?_
  have hD : s.heap.DictOf (strKind pw w) d (rkv rs) := Heap.dictOf_iff.mpr ⟨od, (N _ (.head _)).1, hod⟩
  refine getMethod_builtin hD.typeIs PySem.F.plainAttrs_dict PySem.F.slot_dict_keys PySem.F.type_dict_keys hD.mapOf.noDict ?_
  k_steps
  refine Stop.intro ?_
  refine kdl_view_keys F N (.head _) hod lo fun V h2 F2 N2 hV => ?_
  rw [← em] at F2
  clear F N
  k_steps
  refine Stop.intro ?_
  refine loopKeys (news := (sj, setObj es ep t) :: R) rfl ⟨_, (N2 _ (.head _)).1, rfl, rfl⟩ F2 (News.sub N2 fun p hp => .tail _ hp) (fun p hp => ?_) hod (fun i m' n' => ∃ es' ep' t', n' = (sj, setObj es' ep' t') :: R ∧ SetJ w es' t' (jks (rs.take i)) ∧ HasL m' (jkLL x d sj b tb)) ⟨es, ep, t, rfl, hJ, hm⟩ ?_ ?_
  · rcases List.mem_cons.mp hp with rfl | hp
    · exact hne.symm
    · exact (hR p hp).2
  · rintro i k y u m₁ news₁ h tk I oI hky ⟨es', ep', t', rfl, hJ', hm'⟩ hdis F₁ N₁
    obtain ⟨r, hr, e⟩ : ∃ r, rs[i]? = some r ∧ k = ⟨#[r.c]⟩ := by
      unfold rkv at hky
      rw [List.getElem?_map] at hky
      cases e : rs[i]? with
      | none => rw [e] at hky; cases hky
      | some r => rw [e] at hky; exact ⟨r, rfl, by cases hky; rfl⟩
    subst e
    have htake : rs.take (i + 1) = rs.take i ++ [r] := by rw [List.take_add_one, hr]; rfl
    have hn1 : ((rs.take (i + 1)).map (·.c)).Nodup := List.Nodup.sublist (List.Sublist.map _ (List.take_sublist _ _)) hcn
    have hle := jks_le hn1
    refine junk_turn (x := x) (ep := ep') X T hd hJ' (fun hj => ⟨fun hm => ?_, ?_⟩) ?_ ⟨(hdis _ (.head _) _ (.head _)).symm, hne⟩ (fun r hr => (hR r hr).1) (fun h' tk m' es2 ep2 t2 F' hm2 N' hJ2 => ?_) F₁ ⟨rfl, hm'.1, hm'.2.1, hm'.2.2.1, hm'.2.2.2.1, hm'.2.2.2.2.1, trivial⟩ N₁
    · obtain ⟨q', hq', e, _⟩ := jks_mem.mp hm
      rw [htake, List.map_append, List.nodup_append] at hn1
      exact hn1.2.2 _ (List.mem_map.mpr ⟨q', hq', rfl⟩) _ (.head _) e
    · rw [htake, jks_snoc, if_pos hj, List.length_append] at hle
      simpa using hle
    · have := jks_le (rs := rs.take i) (List.Nodup.sublist (List.Sublist.map _ (List.take_sublist _ _)) hcn)
      lia
    · refine TurnEnd.intro (news' := (sj, setObj es2 ep2 t2) :: R) F' N' (fun p hp o ho => ?_) ⟨es2, ep2, t2, rfl, by rw [htake, jks_snoc]; exact hJ2, hm2⟩
      rcases List.mem_cons.mp hp with rfl | hp
      · exact hdis _ (.head _) o ho
      · exact hdis p (.tail _ hp) o ho
  · rintro h' tk m' news' F' N' _ ⟨es', ep', t', rfl, hJ', hm'⟩
    refine hQ h' tk m' es' ep' t' F' hm' N' ?_
    rw [show (rkv rs).length = rs.length by unfold rkv; simp, List.take_length] at hJ'
    exact hJ'
end Mine
end
section
open PySem PySem.W PyProof.Rows PySem.Calls PySem.Spec
set_option Elab.async false
set_option maxRecDepth 1000000
set_option maxHeartbeats 8000000
namespace Mine
theorem regJK2 (P : Params) : K P = [] ∨ PySem.Challenge.rw_kl0396_01.name = PySem.Challenge.rw_kl0396_01.name := by
  k_fill
  exact .inr rfl
local macro_rules | `(tactic| walk_at $s:str) => stopAt "pyIter ref|delItem ref" s
theorem delI {w : World} {A : Around} {E : Value → Shared → Prop} {s : Shared} {K : Type} [DecidableEq K] {knd : KeyKind pw w K} {g : Heap} {L d : Addr} {m : Str → Option Value} {own rest : List (Addr × Obj)} {kvs : List (K × Value)} {o : Obj} {k : K} {key : Value} {Q : Unit → Shared → Prop}
    (hkey : knd.is k key = true) (F : Fr g L s.heap m) (N : News g L s.heap (own ++ (d, o) :: rest)) (h1 : ∀ p ∈ own, p.1 ≠ d) (h2 : ∀ p ∈ rest, p.1 ≠ d) (hd : o.IsDictOf knd kvs) (hsz : kvs.length ≤ sizeLine) (hl : (valueAt kvs k).isSome = true)
    (h : ∀ h' o', Fr g L h' m → News g L h' (own ++ (d, o') :: rest) → o'.IsDictOf knd (without kvs k) → Q () { s with heap := h', toks := s.toks + 1 }) : wpAny (model pw w) A (delItem (.ref d) key) Q E s := by
  have hm := N (d, o) (List.mem_append_right _ (.head _))
  have hD : s.heap.DictOf knd d kvs := Heap.dictOf_iff.mpr ⟨o, hm.1, hd⟩
  unfold delItem
  try with_reducible refine wpAny_holding ?_
  refine wpAny_bind (wpAny_sequenceKey hD.typeIs (by decide) ?_)
  refine wpAny_bind (wpAny_callSpecial?_slot (name := Str.ofString "__delitem__") hD.typeIs PySem.F.slot_dict_delitem
    (call_meetsIn PySem.F.slot_dict_delitem hD.typeIs PySem.F.entry_dict_delitem (PySem.F.args_dict_delitem_2 _ _) (meets_dict_delitem_pairs knd d hkey) ⟨kvs, hD, hsz, hl, fun h' hmm hs => ?_⟩))
  obtain ⟨o', ho', hd'⟩ := Heap.dictOf_iff.mp hmm
  exact wpAny_pure (h h' o' (F.change hs hm.2.1 hm.2.2) (N.setIn h1 h2 hs ho') hd')
theorem del_turn {w : World} {dp un : Nat} {fr : Option (List Env)} {gd : Option (List Code)} {s : Shared} {g : Heap} {mg mb : Str → Option Value} {L x d sj : Addr} {od : Obj} {m : Str → Option Value} {own R : List (Addr × Obj)} {b : Str} {k : Str} {kvs : List (Str × Value)} {u tb : Tok} {Q : Flow → Shared → Prop}
    (X : (K w.params).In g) (T : TopRead q (looseW q loose) mg mb g) (hown : ∀ p ∈ own, p.1 ≠ d) (hR : ∀ r ∈ R, r.1 ≠ d) (hod : od.IsDictOf (strKind pw w) kvs) (hsz : kvs.length ≤ 1000) (hl : (valueAt kvs k).isSome = true)
    (hQ : ∀ h' tk m' od', Fr g L h' m' → HasL m' (jkLL x d sj b tb) → News g L h' (own ++ (d, od') :: R) → od'.IsDictOf (strKind pw w) (without kvs k) → Q .next { s with heap := h', toks := tk })
    (F : Fr g L s.heap m) (hm : HasL m (("elt", .str k u) :: jkLL x d sj b tb)) (N : News g L s.heap (own ++ (d, od) :: R)) :
    wpAny (model pw w) ((AR dp un fr gd).deeper (chEnv L)) (execs (bodyAt (chJ 1)) (chEnv L)) Q (fun _ _ => False) s := by
  conv in execs _ _ => arg 1; whnf
  delta chEnv
  conv in (occs := *) envX _ _ _ _ _ _ => all_goals (arg 2; whnf)
  have em := ov_of hm
  rw [em] at F
  k_steps
  refine Stop.intro ?_
  refine delI (strKind_is pw w _ _) F N hown hR hod (by have : sizeLine = 16777216 := rfl; lia) hl fun h2 od2 F2 N2 hod2 => ?_
  clear F N
  k_steps
  exact hQ _ _ _ od2 F2 ⟨rfl, rfl, rfl, rfl, rfl, trivial⟩ N2 hod2
theorem vals_of {w : World} {es : Array (Int × Value)} {t : SetTable} {ks : List Str} (hJ : SetJ w es t ks) {v : Value} (hv : v ∈ es.toList.map (·.2)) : ∃ u, v = .str (vkey v) u := by
  obtain ⟨e, he, rfl⟩ := List.mem_map.mp hv
  obtain ⟨⟨k, hk, _⟩, _⟩ := hJ.el e he
  obtain ⟨u, hu⟩ := str_of_is hk
  rw [hu]; exact ⟨u, rfl⟩
theorem valueAt_filter {rs : List CRow} {p : Str → Bool} {r : CRow} (hcn : (rs.map (·.c)).Nodup) (hr : r ∈ rs) (hp : p ⟨#[r.c]⟩ = true) : (valueAt ((rkv rs).filter fun kv => p kv.1) ⟨#[r.c]⟩).isSome = true := by
  unfold valueAt
  rw [Option.isSome_map]
  rw [List.find?_isSome]
  exact ⟨(⟨#[r.c]⟩, .ref r.l), List.mem_filter.mpr ⟨List.mem_map.mpr ⟨r, hr, rfl⟩, hp⟩, by simp⟩
noncomputable def kept (rs : List CRow) : List CRow := rs.filter fun r => !jkc r.c
theorem chain_dels {w : World} {dp un : Nat} {fr : Option (List Env)} {gd : Option (List Code)} {s : Shared} {g : Heap} {mg mb : Str → Option Value} {L x d sj : Addr} {od : Obj} {m : Str → Option Value} {R : List (Addr × Obj)} {b : Str} {rs : List CRow} {es : Array (Int × Value)} {ep : Nat} {t : SetTable} {tb : Tok} {Q : Flow → Shared → Prop}
    (X : (K w.params).In g) (T : TopRead q (looseW q loose) mg mb g) (hd : dp < 400) (hJ : SetJ w es t (jks rs)) (hcn : (rs.map (·.c)).Nodup) (hlen : rs.length ≤ 900) (hod : od.IsDictOf (strKind pw w) (rkv rs)) (hne : d ≠ sj) (hR : ∀ r ∈ R, r.1 ≠ sj ∧ r.1 ≠ d)
    (hQ : ∀ h' tk m' od' dr, Fr g L h' m' → HasL m' (jkLL x d sj b tb) → News g L h' ((d, od') :: (sj, setObj es ep t) :: R) → od'.IsDictOf (strKind pw w) (rkv (kept rs)) → Q .next { s with heap := h', toks := tk, drawn := dr })
    (F : Fr g L s.heap m) (hm : HasL m (jkLL x d sj b tb)) (N : News g L s.heap ((d, od) :: (sj, setObj es ep t) :: R)) :
    wpAny (model pw w) ((AR dp un fr gd).deeper (chEnv L)) (exec (chJ 1) (chEnv L)) Q (fun _ _ => False) s := by
  conv in exec _ _ => arg 1; whnf
  delta chEnv
  conv in (occs := *) envX _ _ _ _ _ _ => all_goals (arg 2; whnf)
  have em := ov_of hm
  rw [em] at F
  refine For_invVF F (by rfl) (by rfl) ?_
  k_steps
  refine Stop.intro ?_
  rw [← em] at F
  have hjn : (jks rs).Nodup := hJ.nd
  have hjl := jks_le hcn
  refine loopSet (ep := ep) (news := (d, od) :: R) rfl hJ (by rw [hJ.sz]; lia) F (News.sub N fun p hp => ?_) (fun p hp => ?_) (fun vs i m' n' => ∃ od', n' = (d, od') :: R ∧ od'.IsDictOf (strKind pw w) ((rkv rs).filter fun kv => decide (kv.1 ∉ (vs.take i).map vkey)) ∧ HasL m' (jkLL x d sj b tb)) (fun vs hvs => ⟨od, rfl, ?_, hm⟩) ?_ ?_
  · simp only [List.mem_cons] at hp ⊢
    rcases hp with h | h | h <;> (repeat first | exact h | exact .inl h | exact .inl (.inl h) | exact .inl (.inr h) | refine .inr ?_)
  · rcases List.mem_cons.mp hp with rfl | hp
    · exact hne
    · exact (hR p hp).1
  · rw [List.take_zero, List.map_nil, List.filter_eq_self.mpr fun _ _ => by simp]; exact hod
  · rintro vs i v m₁ news₁ h tk own dr hvs hv ⟨od', rfl, hod', hm'⟩ hso hdis F₁ N₁
    have hvm : v ∈ es.toList.map (·.2) := hvs.mem_iff.mp (List.mem_of_getElem? hv)
    obtain ⟨u, hu⟩ := vals_of hJ hvm
    have hkeys : (vs.map vkey).Perm (jks rs) := (hvs.map vkey).trans (by rw [List.map_map]; exact hJ.kp)
    have hkm : vkey v ∈ jks rs := hkeys.mem_iff.mp (List.mem_map.mpr ⟨v, List.mem_of_getElem? hv, rfl⟩)
    have hkn : (vs.map vkey).Nodup := hkeys.nodup_iff.mpr hjn
    have htake : vs.take (i + 1) = vs.take i ++ [v] := by rw [List.take_add_one, hv]; rfl
    have hnew : vkey v ∉ (vs.take i).map vkey := fun hm2 => by
      have h1 : ((vs.take (i + 1)).map vkey).Nodup := List.Nodup.sublist (List.Sublist.map _ (List.take_sublist _ _)) hkn
      rw [htake, List.map_append, List.nodup_append] at h1
      exact h1.2.2 _ hm2 _ (.head _) rfl
    obtain ⟨r, hr, hrk⟩ : ∃ r ∈ rs, vkey v = ⟨#[r.c]⟩ := by
      unfold jks at hkm
      obtain ⟨r, hr, e⟩ := List.mem_map.mp hkm
      exact ⟨r, (List.mem_filter.mp hr).1, e.symm⟩
    have F₂ : Fr g L h (fun y => if y = Str.ofString "elt" then some (.str (vkey v) u) else m₁ y) := by rw [← hu]; exact F₁
    refine del_turn (x := x) (k := vkey v) (u := u) (own := own) (R := R) X T (fun p hp => (hdis _ (.head _) p hp).symm) (fun r hr => (hR r hr).2) hod' ?_ ?_ (fun h' tk' m' od2 F' hm2 N' hod2 => ?_) F₂ ⟨rfl, hm'.1, hm'.2.1, hm'.2.2.1, hm'.2.2.2.1, hm'.2.2.2.2.1, trivial⟩ N₁
    · refine Nat.le_trans (List.length_filter_le _ _) ?_
      unfold rkv; rw [List.length_map]; lia
    · rw [hrk]
      exact valueAt_filter (p := fun k => decide (k ∉ (vs.take i).map vkey)) hcn hr (by rw [← hrk]; simpa using hnew)
    · refine TurnEnd.intro (news' := (d, od2) :: R) F' N' (fun p hp o ho => ?_) ⟨od2, rfl, ?_, hm2⟩
      · rcases List.mem_cons.mp hp with rfl | hp
        · exact hdis _ (.head _) o ho
        · exact hdis p (.tail _ hp) o ho
      · have : without ((rkv rs).filter fun kv => decide (kv.1 ∉ (vs.take i).map vkey)) (vkey v) = (rkv rs).filter fun kv => decide (kv.1 ∉ (vs.take (i + 1)).map vkey) := by
          unfold without
          rw [List.filter_filter]
          refine List.filter_congr fun kv _ => ?_
          rw [htake, List.map_append]
          by_cases e1 : kv.1 = vkey v <;> by_cases e2 : kv.1 ∈ (vs.take i).map vkey <;> simp [e1, e2]
        rw [← this]; exact hod2
  · rintro vs h' tk m' news' dr hvs F' N' hd' ⟨od', rfl, hod', hm'⟩
    refine hQ h' tk m' od' dr F' hm' (News.sub N' fun p hp => ?_) ?_
    · simp only [List.mem_cons] at hp ⊢
      rcases hp with h | h | h <;> (repeat first | exact h | exact .inl h | exact .inl (.inl h) | exact .inl (.inr h) | refine .inr ?_)
    · have hlen2 : vs.length = es.size := by rw [hvs.length_eq]; simp
      have hkeys : (vs.map vkey).Perm (jks rs) := (hvs.map vkey).trans (by rw [List.map_map]; exact hJ.kp)
      rw [← hlen2, List.take_length] at hod'
      have : ((rkv rs).filter fun kv => decide (kv.1 ∉ vs.map vkey)) = rkv (kept rs) := by
        unfold kept rkv
        rw [List.filter_map]
        congr 1
        refine List.filter_congr fun r hr => ?_
        simp only [Function.comp]
        have : (⟨#[r.c]⟩ : Str) ∈ vs.map vkey ↔ jkc r.c = true := by
          rw [hkeys.mem_iff, jks_mem]
          exact ⟨fun ⟨_, _, _, h⟩ => h, fun h => ⟨r, hr, rfl, h⟩⟩
        by_cases e : jkc r.c = true
        · rw [decide_eq_false (by rw [this]; exact not_not_intro e), e]; rfl
        · rw [decide_eq_true (by rw [this]; exact e), Bool.eq_false_iff.mpr e]; rfl
      rw [← this]; exact hod'
end Mine
end
section
open PySem PySem.W PyProof.Rows PySem.Calls PySem.Spec
set_option Elab.async false
set_option maxRecDepth 1000000
set_option maxHeartbeats 8000000
namespace Mine
theorem regTR (P : Params) : K P = [] ∨ PySem.Challenge.rw_kl0396_01.name = PySem.Challenge.rw_kl0396_01.name := by
  k_fill
  exact .inr rfl
theorem noBool_fn : typeLookup (.type "function") "__bool__" = pure none := by rw [typeLookup_type, builtinLookup_eq_fast]; kernel_rfl
theorem noLen_fn : typeLookup (.type "function") "__len__" = pure none := by rw [typeLookup_type, builtinLookup_eq_fast]; kernel_rfl
theorem truthy_fn {w : World} {A : Around} {E : Value → Shared → Prop} {s : Shared} {a : Addr} {Q : Bool → Shared → Prop} (hT : s.TypeIs (.ref a) "function") (h : Q true s) : wpAny (model pw w) A (truthy (.ref a)) Q E s := by
  unfold truthy
  first
    | refine wpAny_bind (wpAny_callSpecial?_none (name := Str.ofString "__bool__") hT noBool_fn ?_)
    | refine wpAny_bind (wpAny_pure (wpAny_bind (wpAny_callSpecial?_none (name := Str.ofString "__bool__") hT noBool_fn ?_)))
  first
    | refine wpAny_bind (wpAny_specialOf (name := Str.ofString "__len__") hT noLen_fn ?_)
    | refine wpAny_bind (wpAny_pure (wpAny_bind (wpAny_specialOf (name := Str.ofString "__len__") hT noLen_fn ?_)))
  exact wpAny_pure h
theorem type254 {w : World} {s : Shared} (X : (K w.params).In s.heap) : s.TypeIs (.ref 254) "function" := ⟨_, X 254 _ (by k_is), rfl⟩
end Mine
end
section
open PySem PySem.W PyProof.Rows PySem.Calls PySem.Spec
set_option Elab.async false
set_option maxRecDepth 1000000
set_option maxHeartbeats 8000000
namespace Mine
theorem regCH (P : Params) : K P = [] ∨ PySem.Challenge.rw_kl0396_01.name = PySem.Challenge.rw_kl0396_01.name := by
  k_fill
  exact .inr rfl
local macro_rules | `(tactic| walk_at $s:str) => stopAt "exec For Tuple" s
local macro_rules | `(tactic| walk_at $s:str) => stopAt "exec For Tuple Call|exec For Name Call|exec For Name Name|exec For Name|setAttr ref|call type:set nil nil|call builtin:len|truthy ref" s
noncomputable abbrev smE7 (P : Params) (k : List Tok) (isj av bv aj : Value) : List DictEntry :=
  [⟨PyData.keyHash P "isjunk", .str "isjunk" (k.getD 0 0), isj⟩, ⟨PyData.keyHash P "a", .str "a" (k.getD 1 0), av⟩, ⟨PyData.keyHash P "b", .str "b" (k.getD 2 0), bv⟩, ⟨PyData.keyHash P "autojunk", .str "autojunk" (k.getD 3 0), aj⟩,
   ⟨PyData.keyHash P "matching_blocks", .str "matching_blocks" (k.getD 4 0), .none⟩, ⟨PyData.keyHash P "opcodes", .str "opcodes" (k.getD 5 0), .none⟩, ⟨PyData.keyHash P "fullbcount", .str "fullbcount" (k.getD 6 0), .none⟩]
theorem News.swap {g h : Heap} {L : Addr} {a b : Addr × Obj} {l : List (Addr × Obj)} (N : News g L h (a :: b :: l)) : News g L h (b :: a :: l) := News.sub N fun p hp => by
  simp only [List.mem_cons] at hp ⊢
  rcases hp with h | h | h <;> (repeat first | exact h | exact .inl h | exact .inl (.inl h) | exact .inl (.inr h) | refine .inr ?_)
theorem b2j_of {w : World} {h : Heap} {d : Addr} {od : Obj} {b : Str} {rs : List CRow} (lo : (d == sysModules) = false) (hod : od.IsDictOf (strKind pw w) (rkv (kept rs))) (ho : h.get? d = some od) (hl : ∀ p ∈ rls rs, h.get? p.1 = some p.2) (hrs : Rows0 b b.cps.size rs) : B2J w h d b jkc := by
  have hD : h.DictOf (strKind pw w) d (rkv (kept rs)) := Heap.dictOf_iff.mpr ⟨od, ho, hod⟩
  have hkn : ((kept rs).map (·.c)).Nodup := List.Nodup.sublist (List.Sublist.map _ List.filter_sublist) hrs.rcn
  refine ⟨lo, _, hD.mapOf, fun c => ?_⟩
  by_cases hj : jkc c = true
  · refine .inr ⟨.inl hj, valueAt_none fun r hr e => ?_⟩
    have := (List.mem_filter.mp hr).2
    rw [e, hj] at this; cases this
  · rw [Bool.not_eq_true] at hj
    by_cases hc : ∃ r ∈ rs, r.c = c
    · obtain ⟨r, hr, rfl⟩ := hc
      refine .inl ⟨hj, r.l, r.vs, valueAt_some hkn (List.mem_filter.mpr ⟨hr, by rw [hj]; rfl⟩), ⟨_, hl _ (List.mem_map.mpr ⟨r, hr, rfl⟩), rfl, _, rfl⟩, hrs.rin r hr⟩
    · refine .inr ⟨.inr ?_, valueAt_none fun r hr e => hc ⟨r, (List.mem_filter.mp hr).1, e⟩⟩
      unfold poss
      rw [List.filter_eq_nil_iff]
      intro j hjm e
      obtain ⟨r, hr, e2⟩ := hrs.ral j (List.mem_range.mp hjm)
      exact hc ⟨r, hr, e2.trans (by simpa using e)⟩
theorem chain {w : World} {dp un : Nat} {fr : Option (List Env)} {gd : Option (List Code)} {s : Shared} {R : Result → Shared → Prop} {g : Heap} {mg mb : Str → Option Value} {x dx : Addr} {k : List Tok} {a b : Str} {ta tb : Tok}
    (hkp : ∀ b o, g.get? b = some o → s.heap.get? b = some o) (X : (K w.params).In g) (T : TopRead q (looseW q loose) mg mb g)
    (N : Led g s.heap [(x, instObj 242 dx), (dx, dictOf (smE7 w.params k (.ref 254) (.str a ta) (.str b tb) (.bool false)) 7)])
    (hb : b.cps.size < 400) (hd : dp < 398)
    (hRes : ∀ h' tk dr k' d sj bp es ep t S sn, (∀ b o, b ≠ x → b ≠ dx → s.heap.get? b = some o → h'.get? b = some o) → h'.get? x = some (instObj 242 dx) → h'.get? dx = some (dictOf (smEs w.params k' (.ref 254) a b ta tb (.bool false) .none .none (.ref d) (.ref sj) bp) 10) → (d ≠ x ∧ d ≠ dx) →
      B2J w h' d b jkc → h'.get? sj = some (setObj es ep t) → h'.SetOf (strKind pw w) sj S sn → (∀ v, v < b.cps.size → S ⟨#[ch b v]⟩ = jkc (ch b v)) → R (.ok (.ret .none)) { s with heap := h', toks := tk, drawn := dr }) :
    codeAny (model pw w) (AR dp un fr gd) (.call (.ref 188) ⟨[.ref x], []⟩) R s := by
  refine enterL [("self", .ref x)] hkp X T N (by k_is) (by k_is) (Nat.lt_trans hd (by decide)) (by first | exact BindsTo.of_eq rfl | exact binds_K (X.keeps hkp) rfl (by k_is) rfl rfl rfl) (locs rfl) ?_ (by decide) rfl rfl rfl
  clear X T N
  intro g' L h₁ hin hof hno X T F N hlt
  conv in execs _ _ => arg 1; whnf
  conv in (occs := *) envX _ _ _ _ _ _ => all_goals (arg 2; whnf)
  (try k_fold)
  k_steps
  refine Stop.intro ?_
  rename_i d _ od F1 N1 lo hod _ _ _ l1
  have hxd : x ≠ dx := fun e => by
    have e1 := (N1 _ (.tail _ (.head _))).1
    have e2 := (N1 _ (.tail _ (.tail _ (.head _)))).1
    rw [e] at e1
    rw [e1] at e2; cases e2
  refine' set_dict F1 X N1 (InstAt.of_news N1 (.tail _ (.head _)) (.tail _ (.tail _ (.head _)))) ?k5 ?k6 ?k7 ?k8 ?k9 ?k10 ?k11 ?k12 ?k13 ?_
  case k5 => exact rfl
  case k6 => k_is
  case k7 => k_is
  case k8 => k_is
  case k9 => k_is
  case k10 => k_get
  case k11 => k_put
  case k12 => exact Upd.tail (Nat.ne_of_gt l1.2) (Upd.tail hxd (Upd.head fun _ h => nomatch h))
  case k13 => exact Nat.le_of_ble_eq_true rfl
  intro h2 F2 N2
  clear F1 N1
  k_steps
  refine Stop.intro ?_
  rename Fr _ _ _ _ => F3
  rename News _ _ _ _ => N3
  refine chain_fill (x := x) (tb := tb) X T hb lo hod (fun r hr => ?_) (fun h4 tk4 m4 od4 rs F4 hm4 N4 hod4 hrs hdis => ?_) F3 ⟨rfl, rfl, rfl, trivial⟩ N3
  · simp only [List.mem_cons, List.not_mem_nil, or_false] at hr
    rcases hr with rfl | rfl
    · exact Nat.ne_of_lt l1.1
    · exact Nat.ne_of_lt l1.2
  have N5 := News.sub (l' := (d, od4) :: _ :: _ :: rls rs) N4 (fun p hp => by
    simp only [List.mem_cons] at hp
    rcases hp with h | h | h | h
    · rw [h]; exact .head _
    · rw [h]; exact .tail _ (List.mem_append_right _ (.head _))
    · rw [h]; exact .tail _ (List.mem_append_right _ (.tail _ (.head _)))
    · exact .tail _ (List.mem_append_left _ h))
  clear F3 N3 N4
  have em := ov_of hm4
  rw [em] at F4
  dsimp only
  k_steps
  refine Stop.intro ?_
  refine call_set ?_
  have F6 := F4.push (setObj #[] 0 (.fresh 0 0 (!byT w)))
  have N6 := N5.push F4 (setObj #[] 0 (.fresh 0 0 (!byT w)))
  have hlt6 := fun (p : Addr × Obj) hp => Heap.lt_size (N5 p hp).1
  have hrd : ∀ p ∈ rls rs, p.1 ≠ dx := fun p hp => by
    obtain ⟨r, hr, rfl⟩ := List.mem_map.mp hp
    exact ((hdis r hr).2 _ (.tail _ (.head _))).symm
  have hrx : ∀ p ∈ rls rs, p.1 ≠ d := fun p hp => by
    obtain ⟨r, hr, rfl⟩ := List.mem_map.mp hp
    exact (hdis r hr).1
  have hs1 := hlt6 _ (.head _)
  have hs2 := hlt6 _ (.tail _ (.head _))
  have hs3 := hlt6 _ (.tail _ (.tail _ (.head _)))
  have hs4 : ∀ p ∈ rls rs, p.1 < h4.objs.size := fun p hp => hlt6 _ (.tail _ (.tail _ (.tail _ hp)))
  clear F4 N5 hlt6
  k_steps
  refine Stop.intro ?_
  refine' set_dict F6 X N6 (InstAt.of_news N6 (.tail _ (.tail _ (.head _))) (.tail _ (.tail _ (.tail _ (.head _))))) ?k5 ?k6 ?k7 ?k8 ?k9 ?k10 ?k11 ?k12 ?k13 ?_
  case k5 => exact rfl
  case k6 => k_is
  case k7 => k_is
  case k8 => k_is
  case k9 => k_is
  case k10 => k_get
  case k11 => k_put
  case k12 => exact Upd.tail (Nat.ne_of_gt hs3) (Upd.tail (Nat.ne_of_gt l1.2) (Upd.tail hxd (Upd.head hrd)))
  case k13 => exact Nat.le_of_ble_eq_true rfl
  intro h2 F7 N7
  clear F6 N6
  k_steps
  refine Stop.intro ?_
  rename Fr _ _ _ _ => F8
  rename News _ _ _ _ => N8
  refine truthy_fn (type254 (X.keeps F8.keep)) ?_
  k_steps
  refine Stop.intro ?_
  generalize hsj : h4.objs.size = sj at *
  refine chain_keys (ep := 0) (x := x) (d := d) (sj := sj) (b := b) (tb := tb) (rs := rs) X T (by lia) SetJ.none hrs.rcn hod4 lo (Nat.ne_of_lt hs1) (fun r hr => ?_) (fun h9 tk9 m9 es9 ep9 t9 F9 hm9 N9 hJ9 => ?_) F8 ⟨rfl, rfl, rfl, rfl, rfl, trivial⟩ (News.swap N8)
  · simp only [List.mem_cons] at hr
    rcases hr with rfl | rfl | hr
    · exact ⟨Nat.ne_of_lt hs2, Nat.ne_of_lt l1.1⟩
    · exact ⟨Nat.ne_of_lt hs3, Nat.ne_of_lt l1.2⟩
    · exact ⟨Nat.ne_of_lt (hs4 r hr), hrx r hr⟩
  clear F8 N8
  have em9 := ov_of hm9
  dsimp only
  k_steps
  refine Stop.intro ?_
  refine chain_dels (x := x) (d := d) (sj := sj) (b := b) (tb := tb) (rs := rs) X T (by lia) hJ9 hrs.rcn (by have := hrs.rle; lia) hod4 (Nat.ne_of_lt hs1) (fun r hr => ?_) (fun h10 tk10 m10 od10 dr F10 hm10 N10 hod10 => ?_) F9 hm9 N9
  · simp only [List.mem_cons] at hr
    rcases hr with rfl | rfl | hr
    · exact ⟨Nat.ne_of_lt hs2, Nat.ne_of_lt l1.1⟩
    · exact ⟨Nat.ne_of_lt hs3, Nat.ne_of_lt l1.2⟩
    · exact ⟨Nat.ne_of_lt (hs4 r hr), hrx r hr⟩
  clear F9 N9
  have em10 := ov_of hm10
  rw [em10] at F10
  dsimp only
  k_steps
  refine Stop.intro ?_
  refine call_set ?_
  have F11 := F10.push (setObj #[] 0 (.fresh 0 0 (!byT w)))
  have N11 := N10.push F10 (setObj #[] 0 (.fresh 0 0 (!byT w)))
  have hp3 := Heap.lt_size (N10 _ (.tail _ (.tail _ (.tail _ (.head _))))).1
  clear F10 N10
  k_steps
  refine Stop.intro ?_
  refine' set_dict F11 X N11 (InstAt.of_news N11 (.tail _ (.tail _ (.tail _ (.head _)))) (.tail _ (.tail _ (.tail _ (.tail _ (.head _)))))) ?k5 ?k6 ?k7 ?k8 ?k9 ?k10 ?k11 ?k12 ?k13 ?_
  case k5 => exact rfl
  case k6 => k_is
  case k7 => k_is
  case k8 => k_is
  case k9 => k_is
  case k10 => k_get
  case k11 => k_put
  case k12 => exact Upd.tail (Nat.ne_of_gt hp3) (Upd.tail (Nat.ne_of_gt l1.2) (Upd.tail (Nat.ne_of_gt hs3) (Upd.tail hxd (Upd.head hrd))))
  case k13 => exact Nat.le_of_ble_eq_true rfl
  intro h2 F12 N12
  clear F11 N11
  k_steps
  refine Stop.intro ?_
  refine len_str (Nat.lt_trans hb (by decide)) fun t1 k1 => ?_
  k_steps
  rename Fr _ _ _ _ => F13
  rename News _ _ _ _ => N13
  refine hRes _ _ _ [k.getD 0 0, k.getD 1 0, k.getD 2 0, k.getD 3 0, k.getD 4 0, k.getD 5 0, k.getD 6 0, _, _, _] d sj _ es9 ep9 t9 _ es9.size (fun b' o hbx hbd e => F13.keep b' o (hin b' o e fun hm => ?_)) (N13 _ (.tail _ (.tail _ (.tail _ (.head _))))).1 (N13 _ (.tail _ (.tail _ (.tail _ (.tail _ (.head _)))))).1
    ⟨Nat.ne_of_gt l1.1, Nat.ne_of_gt l1.2⟩ (b2j_of lo hod10 (N13 _ (.tail _ (.head _))).1 (fun p hp => (N13 _ (.tail _ (.tail _ (.tail _ (.tail _ (.tail _ hp)))))).1) hrs) (N13 _ (.tail _ (.tail _ (.head _)))).1 (hJ9.setOf (N13 _ (.tail _ (.tail _ (.head _)))).1 (by have := jks_le hrs.rcn; rw [hJ9.sz]; lia)) fun v hv => ?_
  · simp only [List.map_cons, List.map_nil, List.mem_cons, List.not_mem_nil, or_false] at hm
    exact hm.elim hbx hbd
  · obtain ⟨r, hr, e⟩ := hrs.ral v hv
    by_cases hj : jkc (ch b v) = true
    · rw [hj, decide_eq_true_eq]; exact jks_mem.mpr ⟨r, hr, e, hj⟩
    · rw [Bool.not_eq_true] at hj
      rw [hj, decide_eq_false_iff_not]
      intro hm
      obtain ⟨_, _, _, h⟩ := jks_mem.mp hm
      rw [hj] at h; cases h
end Mine
end
section
open PySem PySem.W PyProof.Rows PySem.Calls PySem.Spec
set_option Elab.async false
set_option maxRecDepth 1000000
set_option maxHeartbeats 8000000
namespace Mine
theorem regIN (P : Params) : K P = [] ∨ PySem.Challenge.rw_kl0396_01.name = PySem.Challenge.rw_kl0396_01.name := by
  k_fill
  exact .inr rfl
local macro_rules | `(tactic| walk_at $s:str) => stopAt "call ref" s
noncomputable abbrev smE4 (P : Params) (k : List Tok) (isj av bv aj : Value) : List DictEntry :=
  [⟨PyData.keyHash P "isjunk", .str "isjunk" (k.getD 0 0), isj⟩, ⟨PyData.keyHash P "a", .str "a" (k.getD 1 0), av⟩, ⟨PyData.keyHash P "b", .str "b" (k.getD 2 0), bv⟩, ⟨PyData.keyHash P "autojunk", .str "autojunk" (k.getD 3 0), aj⟩]
noncomputable abbrev smE6 (P : Params) (k : List Tok) (isj av bv aj : Value) : List DictEntry :=
  [⟨PyData.keyHash P "isjunk", .str "isjunk" (k.getD 0 0), isj⟩, ⟨PyData.keyHash P "a", .str "a" (k.getD 1 0), av⟩, ⟨PyData.keyHash P "b", .str "b" (k.getD 2 0), bv⟩, ⟨PyData.keyHash P "autojunk", .str "autojunk" (k.getD 3 0), aj⟩,
   ⟨PyData.keyHash P "matching_blocks", .str "matching_blocks" (k.getD 4 0), .none⟩, ⟨PyData.keyHash P "opcodes", .str "opcodes" (k.getD 5 0), .none⟩]
theorem led_ne {g h : Heap} {x dx : Addr} {es : List DictEntry} {n : Nat} {l : List (Addr × Obj)} (N : Led g h ((x, instObj 242 dx) :: (dx, dictOf es n) :: l)) : x ≠ dx := fun e => by
  have e1 := (N _ (.head _)).1
  have e2 := (N _ (.tail _ (.head _))).1
  rw [e] at e1
  rw [e1] at e2; cases e2
theorem seq1 {w : World} {dp un : Nat} {fr : Option (List Env)} {gd : Option (List Code)} {s : Shared} {R : Result → Shared → Prop} {g : Heap} {mg mb : Str → Option Value} {x dx : Addr} {k : List Tok} {a : Str} {ta : Tok}
    (hkp : ∀ b o, g.get? b = some o → s.heap.get? b = some o) (X : (K w.params).In g) (T : TopRead q (looseW q loose) mg mb g)
    (N : Led g s.heap [(x, instObj 242 dx), (dx, dictOf (smE4 w.params k (.ref 254) .none .none (.bool false)) 4)]) (hd : dp < 500)
    (hRes : ∀ h' tk k', (∀ b o, b ≠ x → b ≠ dx → s.heap.get? b = some o → h'.get? b = some o) → h'.get? x = some (instObj 242 dx) → h'.get? dx = some (dictOf (smE6 w.params k' (.ref 254) (.str a ta) .none (.bool false)) 6) → R (.ok (.ret .none)) { s with heap := h', toks := tk }) :
    codeAny (model pw w) (AR dp un fr gd) (.call (.ref 174) ⟨[.ref x, .str a ta], []⟩) R s := by
  have hxd := led_ne N
  refine enterL [("self", .ref x), ("a", .str a ta)] hkp X T N (by k_is) (by k_is) (Nat.lt_trans hd (by decide)) (by first | exact BindsTo.of_eq rfl | exact binds_K (X.keeps hkp) rfl (by k_is) rfl rfl rfl) (locs rfl) ?_ (by decide) rfl rfl rfl
  clear X T N
  intro g' L h₁ hin hof hno X T F N hlt
  conv in execs _ _ => arg 1; whnf
  conv in (occs := *) envX _ _ _ _ _ _ => all_goals (arg 2; whnf)
  (try k_fold)
  k_steps
  rename Fr _ _ _ _ => F9
  rename News _ _ _ _ => N9
  exact hRes _ _ [k.getD 0 0, k.getD 1 0, k.getD 2 0, k.getD 3 0, _, _] (fun b' o hbx hbd e => F9.keep b' o (hin b' o e fun hm => by
    simp only [List.map_cons, List.map_nil, List.mem_cons, List.not_mem_nil, or_false] at hm
    exact hm.elim hbx hbd)) (N9 _ (.head _)).1 (N9 _ (.tail _ (.head _))).1
theorem seq2 {w : World} {dp un : Nat} {fr : Option (List Env)} {gd : Option (List Code)} {s : Shared} {R : Result → Shared → Prop} {g : Heap} {mg mb : Str → Option Value} {x dx : Addr} {k : List Tok} {a b : Str} {ta tb : Tok}
    (hkp : ∀ b o, g.get? b = some o → s.heap.get? b = some o) (X : (K w.params).In g) (T : TopRead q (looseW q loose) mg mb g)
    (N : Led g s.heap [(x, instObj 242 dx), (dx, dictOf (smE6 w.params k (.ref 254) (.str a ta) .none (.bool false)) 6)]) (hd : dp < 397) (hb : b.cps.size < 400)
    (hRes : ∀ h' tk dr k' d sj bp es ep t S sn, (∀ b o, b ≠ x → b ≠ dx → s.heap.get? b = some o → h'.get? b = some o) → h'.get? x = some (instObj 242 dx) → h'.get? dx = some (dictOf (smEs w.params k' (.ref 254) a b ta tb (.bool false) .none .none (.ref d) (.ref sj) bp) 10) → (d ≠ x ∧ d ≠ dx) →
      B2J w h' d b jkc → h'.get? sj = some (setObj es ep t) → h'.SetOf (strKind pw w) sj S sn → (∀ v, v < b.cps.size → S ⟨#[ch b v]⟩ = jkc (ch b v)) → R (.ok (.ret .none)) { s with heap := h', toks := tk, drawn := dr }) :
    codeAny (model pw w) (AR dp un fr gd) (.call (.ref 181) ⟨[.ref x, .str b tb], []⟩) R s := by
  have hxd := led_ne N
  have hgx : g.get? x = none := (N _ (.head _)).2
  have hgd : g.get? dx = none := (N _ (.tail _ (.head _))).2
  refine enterL [("self", .ref x), ("b", .str b tb)] hkp X T N (by k_is) (by k_is) (Nat.lt_trans hd (by decide)) (by first | exact BindsTo.of_eq rfl | exact binds_K (X.keeps hkp) rfl (by k_is) rfl rfl rfl) (locs rfl) ?_ (by decide) rfl rfl rfl
  clear X T N
  intro g' L h₁ hin hof hno X T F N hlt
  conv in execs _ _ => arg 1; whnf
  conv in (occs := *) envX _ _ _ _ _ _ => all_goals (arg 2; whnf)
  (try k_fold)
  k_steps
  refine Stop.intro ?_
  rename Fr _ _ _ _ => F9
  rename News _ _ _ _ => N9
  refine wpAny_call ?_
  show codeAny _ (AR _ _ _ _) _ _ _
  refine chain (k := [k.getD 0 0, k.getD 1 0, k.getD 2 0, k.getD 3 0, k.getD 4 0, k.getD 5 0, _]) (a := a) (b := b) (ta := ta) (tb := tb) F9.keep X T (fun r hr => ⟨(N9 r hr).1, (N9 r hr).2.2⟩) hb (by show dp + 1 < 398; lia) fun h4 tk4 dr k4 d sj bp es ep t S sn hk4 hx4 hd4 hdd4 hB4 hs4 hS4 hjk4 => ?_
  have hxL : x ≠ L := (N9 _ (.head _)).2.1
  have hdL : dx ≠ L := (N9 _ (.tail _ (.head _))).2.1
  have hgx' : g'.get? x = none := (N9 _ (.head _)).2.2
  have hgd' : g'.get? dx = none := (N9 _ (.tail _ (.head _))).2.2
  have F4 : Fr g' L h4 _ := ⟨F9.ns.at' fun o e => hk4 L o hxL.symm hdL.symm e, fun b o e => hk4 b o (by rintro rfl; rw [hgx'] at e; cases e) (by rintro rfl; rw [hgd'] at e; cases e) (F9.keep b o e), F9.above⟩
  clear F9 N9
  k_steps
  exact hRes _ _ dr k4 d sj bp es ep t S sn (fun b' o hbx hbd e => F4.keep b' o (hin b' o e fun hm => by
    simp only [List.map_cons, List.map_nil, List.mem_cons, List.not_mem_nil, or_false] at hm
    exact hm.elim hbx hbd)) hx4 hd4 hdd4 hB4 hs4 hS4 hjk4
theorem seqs {w : World} {dp un : Nat} {fr : Option (List Env)} {gd : Option (List Code)} {s : Shared} {R : Result → Shared → Prop} {g : Heap} {mg mb : Str → Option Value} {x dx : Addr} {k : List Tok} {a b : Str} {ta tb : Tok}
    (hkp : ∀ b o, g.get? b = some o → s.heap.get? b = some o) (X : (K w.params).In g) (T : TopRead q (looseW q loose) mg mb g)
    (N : Led g s.heap [(x, instObj 242 dx), (dx, dictOf (smE4 w.params k (.ref 254) .none .none (.bool false)) 4)]) (hd : dp < 396) (hb : b.cps.size < 400)
    (hRes : ∀ h' tk dr k' d sj bp es ep t S sn, (∀ b o, b ≠ x → b ≠ dx → s.heap.get? b = some o → h'.get? b = some o) → h'.get? x = some (instObj 242 dx) → h'.get? dx = some (dictOf (smEs w.params k' (.ref 254) a b ta tb (.bool false) .none .none (.ref d) (.ref sj) bp) 10) → (d ≠ x ∧ d ≠ dx) →
      B2J w h' d b jkc → h'.get? sj = some (setObj es ep t) → h'.SetOf (strKind pw w) sj S sn → (∀ v, v < b.cps.size → S ⟨#[ch b v]⟩ = jkc (ch b v)) → R (.ok (.ret .none)) { s with heap := h', toks := tk, drawn := dr }) :
    codeAny (model pw w) (AR dp un fr gd) (.call (.ref 167) ⟨[.ref x, .str a ta, .str b tb], []⟩) R s := by
  have hxd := led_ne N
  refine enterL [("self", .ref x), ("a", .str a ta), ("b", .str b tb)] hkp X T N (by k_is) (by k_is) (Nat.lt_trans hd (by decide)) (by first | exact BindsTo.of_eq rfl | exact binds_K (X.keeps hkp) rfl (by k_is) rfl rfl rfl) (locs rfl) ?_ (by decide) rfl rfl rfl
  clear X T N
  intro g' L h₁ hin hof hno X T F N hlt
  conv in execs _ _ => arg 1; whnf
  conv in (occs := *) envX _ _ _ _ _ _ => all_goals (arg 2; whnf)
  (try k_fold)
  k_steps
  refine Stop.intro ?_
  rename Fr _ _ _ _ => F9
  rename News _ _ _ _ => N9
  have hxL : x ≠ L := (N9 _ (.head _)).2.1
  have hdL : dx ≠ L := (N9 _ (.tail _ (.head _))).2.1
  have hgx' : g'.get? x = none := (N9 _ (.head _)).2.2
  have hgd' : g'.get? dx = none := (N9 _ (.tail _ (.head _))).2.2
  refine wpAny_call ?_
  show codeAny _ (AR _ _ _ _) _ _ _
  refine seq1 (k := k) F9.keep X T (fun r hr => ⟨(N9 r hr).1, (N9 r hr).2.2⟩) (by show dp + 1 < 500; lia) fun h4 tk4 k4 hk4 hx4 hd4 => ?_
  have F4 : Fr g' L h4 _ := ⟨F9.ns.at' fun o e => hk4 L o hxL.symm hdL.symm e, fun b o e => hk4 b o (by rintro rfl; rw [hgx'] at e; cases e) (by rintro rfl; rw [hgd'] at e; cases e) (F9.keep b o e), F9.above⟩
  have N4 : News g' L h4 [(x, instObj 242 dx), (dx, dictOf (smE6 w.params k4 (.ref 254) (.str a ta) .none (.bool false)) 6)] := fun r hr => by
    rcases List.mem_cons.mp hr with rfl | hr
    · exact ⟨hx4, hxL, hgx'⟩
    · rw [List.mem_singleton.mp hr]; exact ⟨hd4, hdL, hgd'⟩
  clear F9 N9
  dsimp only
  k_steps
  refine Stop.intro ?_
  refine wpAny_call ?_
  show codeAny _ (AR _ _ _ _) _ _ _
  refine seq2 (k := k4) (a := a) (ta := ta) F4.keep X T (fun r hr => ⟨(N4 r hr).1, (N4 r hr).2.2⟩) (by show dp + 1 < 397; lia) hb fun h5 tk5 dr k5 d sj bp es ep t S sn hk5 hx5 hd5 hdd5 hB5 hs5 hS5 hjk5 => ?_
  have F5 : Fr g' L h5 _ := ⟨F4.ns.at' fun o e => hk5 L o hxL.symm hdL.symm e, fun b o e => hk5 b o (by rintro rfl; rw [hgx'] at e; cases e) (by rintro rfl; rw [hgd'] at e; cases e) (F4.keep b o e), F4.above⟩
  clear F4 N4
  k_steps
  exact hRes _ _ dr k5 d sj bp es ep t S sn (fun b' o hbx hbd e => F5.keep b' o (hin b' o e fun hm => by
    simp only [List.map_cons, List.map_nil, List.mem_cons, List.not_mem_nil, or_false] at hm
    exact hm.elim hbx hbd)) hx5 hd5 hdd5 hB5 hs5 hS5 hjk5
theorem init {w : World} {dp un : Nat} {fr : Option (List Env)} {gd : Option (List Code)} {s : Shared} {R : Result → Shared → Prop} {g : Heap} {mg mb : Str → Option Value} {x dx : Addr} {a b : Str} {ta tb : Tok}
    (hkp : ∀ b o, g.get? b = some o → s.heap.get? b = some o) (X : (K w.params).In g) (T : TopRead q (looseW q loose) mg mb g)
    (N : Led g s.heap [(x, instObj 242 dx), (dx, dictOf [] 0)]) (hd : dp < 395) (hb : b.cps.size < 400)
    (hRes : ∀ h' tk dr k' d sj bp es ep t S sn, (∀ b o, b ≠ x → b ≠ dx → s.heap.get? b = some o → h'.get? b = some o) → h'.get? x = some (instObj 242 dx) → h'.get? dx = some (dictOf (smEs w.params k' (.ref 254) a b ta tb (.bool false) .none .none (.ref d) (.ref sj) bp) 10) → (d ≠ x ∧ d ≠ dx) →
      B2J w h' d b jkc → h'.get? sj = some (setObj es ep t) → h'.SetOf (strKind pw w) sj S sn → (∀ v, v < b.cps.size → S ⟨#[ch b v]⟩ = jkc (ch b v)) → R (.ok (.ret .none)) { s with heap := h', toks := tk, drawn := dr }) :
    codeAny (model pw w) (AR dp un fr gd) (.call (.ref 160) ⟨[.ref x, .ref 254, .str a ta, .str b tb, .bool false], []⟩) R s := by
  have hxd := led_ne N
  refine enterL [("self", .ref x), ("isjunk", .ref 254), ("a", .str a ta), ("b", .str b tb), ("autojunk", .bool false)] hkp X T N (by k_is) (by k_is) (Nat.lt_trans hd (by decide)) (by first | exact BindsTo.of_eq rfl | exact binds_K (X.keeps hkp) rfl (by k_is) rfl rfl rfl) (locs rfl) ?_ (by decide) rfl rfl rfl
  clear X T N
  intro g' L h₁ hin hof hno X T F N hlt
  conv in execs _ _ => arg 1; whnf
  conv in (occs := *) envX _ _ _ _ _ _ => all_goals (arg 2; whnf)
  (try k_fold)
  k_steps
  refine Stop.intro ?_
  rename Fr _ _ _ _ => F9
  rename News _ _ _ _ => N9
  have hxL : x ≠ L := (N9 _ (.head _)).2.1
  have hdL : dx ≠ L := (N9 _ (.tail _ (.head _))).2.1
  have hgx' : g'.get? x = none := (N9 _ (.head _)).2.2
  have hgd' : g'.get? dx = none := (N9 _ (.tail _ (.head _))).2.2
  refine wpAny_call ?_
  show codeAny _ (AR _ _ _ _) _ _ _
  refine seqs (k := [_, _, _, _]) (a := a) (ta := ta) F9.keep X T (fun r hr => ⟨(N9 r hr).1, (N9 r hr).2.2⟩) (by show dp + 1 < 396; lia) hb fun h5 tk5 dr k5 d sj bp es ep t S sn hk5 hx5 hd5 hdd5 hB5 hs5 hS5 hjk5 => ?_
  have F5 : Fr g' L h5 _ := ⟨F9.ns.at' fun o e => hk5 L o hxL.symm hdL.symm e, fun b o e => hk5 b o (by rintro rfl; rw [hgx'] at e; cases e) (by rintro rfl; rw [hgd'] at e; cases e) (F9.keep b o e), F9.above⟩
  clear F9 N9
  k_steps
  exact hRes _ _ dr k5 d sj bp es ep t S sn (fun b' o hbx hbd e => F5.keep b' o (hin b' o e fun hm => by
    simp only [List.map_cons, List.map_nil, List.mem_cons, List.not_mem_nil, or_false] at hm
    exact hm.elim hbx hbd)) hx5 hd5 hdd5 hB5 hs5 hS5 hjk5
end Mine
end
section
open PySem PySem.W PyProof.Rows PySem.Calls PySem.Spec
set_option Elab.async false
set_option maxRecDepth 1000000
set_option maxHeartbeats 8000000
namespace Mine
theorem regL1 (P : Params) : K P = [] ∨ PySem.Challenge.rw_kl0396_01.name = PySem.Challenge.rw_kl0396_01.name := by
  k_fill
  exact .inr rfl
local macro_rules | `(tactic| walk_at $s:str) => stopAt "eval ListComp" s
local macro_rules | `(tactic| walk_at $s:str) => stopAt "CompSrc|CompEnd|call builtin:str.join|call ref|binaryOp Add ref ref|storeName" s
noncomputable abbrev lwSt (i : Nat) : Stmt := (bodyAt (top 14)).getD i (top 0)
noncomputable abbrev lwEnv (L : Addr) : Env := envX "law" (scopeAt (top 14)) L 293 (.ref 292) (cellsFrom (L + 1) (scopeAt (top 14)).names [])
theorem news_add {g h h' : Heap} {L : Addr} {m : Str → Option Value} {news nt : List (Addr × Obj)} (F : Fr g L h m) (N : News g L h news) (hk : ∀ b o, h.get? b = some o → h'.get? b = some o) (hn : ∀ r ∈ nt, h'.get? r.1 = some r.2 ∧ h.get? r.1 = none) :
    News g L h' (news ++ nt) ∧ ∀ r ∈ nt, ∀ p ∈ news, p.1 ≠ r.1 := by
  refine ⟨fun p hp => ?_, fun r hr p hp e => ?_⟩
  · rcases List.mem_append.mp hp with hp | hp
    · exact News.grown N hk p hp
    · refine ⟨(hn p hp).1, fun e => ?_, ?_⟩
      · obtain ⟨oL, _, _, hL, _⟩ := F.ns
        have := (hn p hp).2
        rw [e, hL] at this; cases this
      · cases e2 : g.get? p.1 with
        | none => rfl
        | some o => have := F.keep _ _ e2; rw [(hn p hp).2] at this; cases this
  · have := (N p hp).1
    rw [e, (hn r hr).2] at this; cases this
theorem led_of {α : Type} {h h' : Heap} {P : α → Obj → Prop} {vs : List Value} {ps : List α} (H : All2 (fun v p => ∃ a o, v = .ref a ∧ h'.get? a = some o ∧ h.get? a = none ∧ P p o) vs ps) :
    ∃ nt : List (Addr × Obj), (∀ r ∈ nt, h'.get? r.1 = some r.2 ∧ h.get? r.1 = none) ∧ All2 (fun v p => ∃ a o, v = .ref a ∧ (a, o) ∈ nt ∧ P p o) vs ps := by
  induction H with
  | nil => exact ⟨[], fun _ hr => absurd hr List.not_mem_nil, .nil⟩
  | cons hx _ ih =>
    obtain ⟨nt, hn, ht⟩ := ih
    obtain ⟨a, o, e, h1, h2, hp⟩ := hx
    refine ⟨(a, o) :: nt, fun r hr => ?_, .cons ⟨a, o, e, .head _, hp⟩ (ht.imp fun _ _ h => h.imp fun _ h => h.imp fun _ h => ⟨h.1, .tail _ h.2.1, h.2.2⟩)⟩
    rcases List.mem_cons.mp hr with rfl | hr
    · exact ⟨h1, h2⟩
    · exact hn r hr
noncomputable def IsRow (p : Str × Str) (o : Obj) : Prop := ∃ u1 u2, o = rowO p u1 u2
noncomputable def RN (nt : List (Addr × Obj)) : List Value → List (Str × Str) → Prop := All2 fun v p => ∃ a o, v = .ref a ∧ (a, o) ∈ nt ∧ IsRow p o
noncomputable abbrev rowsOf (zs : List Int) : List (Str × Str) := ([41, 3, 58] ++ zs.take 5).map fun z => (ownS z, wordS z)
theorem all2_map {α β : Type} {R : Value → β → Prop} {f : α → β} {vs : List Value} {zs : List α} (H : All2 (fun v z => R v (f z)) vs zs) : All2 R vs (zs.map f) := by
  induction H with
  | nil => exact .nil
  | cons h _ ih => exact .cons h ih
theorem law_s0 {w : World} {dp un : Nat} {fr : Option (List Env)} {gd : Option (List Code)} {s : Shared} {g : Heap} {mg mb : Str → Option Value} {L sl : Addr} {o1 o2 : Obj} {m : Str → Option Value} {iv : List Value} {zs : List Int} {tb : Addr × Obj} {Q : Flow → Shared → Prop}
    (X : (K w.params).In g) (T : TopRead q (looseW q loose) mg mb g) (hd : dp < 380) (hl : g.IsList sl iv.toArray) (hz : IntsAre iv zs) (hn : zs.length < 70)
    (F : Fr g L s.heap m) (hm : HasL m [("script", .ref sl)]) (ho1 : ∃ v, o1.data = .cell v) (h12 : tb.1 ≠ L + 1 ∧ tb.1 ≠ L + 2)
    (hQ : ∀ h' tk m' rl rv c o1' t nt, Fr g L h' m' → HasL m' [("rows", .ref rl)] → News g L h' ((L + 1, o1') :: (L + 2, o2) :: tb :: (rl, listOf (List.toArray rv) c) :: nt) → o1'.data = .cell (some (.int zs.sum t)) → (∀ r ∈ (rl, listOf (List.toArray rv) c) :: nt, r.1 ≠ L + 1 ∧ r.1 ≠ L + 2 ∧ r.1 ≠ tb.1) → RN nt rv (rowsOf zs) → Q .next { s with heap := h', toks := tk }) (N : News g L s.heap [(L + 1, o1), (L + 2, o2), tb]) :
    wpAny (model pw w) ((AR dp un fr gd).deeper (lwEnv L)) (exec (lwSt 0) (lwEnv L)) Q (fun _ _ => False) s := by
  conv in exec _ _ => arg 1; whnf
  delta lwEnv
  conv in (occs := *) envX _ _ _ _ _ _ => all_goals (arg 2; whnf)
  have em := ov_of hm
  rw [em] at F
  k_steps
  refine Stop.intro ?_
  rename_i lt0 ws _ Fa Na hws hwl hwl2 lt1
  refine kmk_add_ints Fa Na (News.isList Na (.tail _ (.head _))) (News.isList Na (.head _)) (vs := [_, _, _]) (.cons (41 : Int) _ (.cons (3 : Int) _ (.cons (58 : Int) _ .nil))) hws (fun D us h3 F3 N3 hlt3 hus => ?_) (by have : sizeLine = 16777216 := rfl; have := hws.length; simp; lia)
  clear Fa Na
  k_steps
  refine Stop.intro ?_
  refine wpAny_call ?_
  show codeAny _ (AR _ _ _ _) _ _ _
  refine lrows F3.keep X T (by show dp + 1 < 400; lia) (News.isList N3 (.head _)) hus (by simp; lia) fun h4 tk4 rl rv c hk4 hrl hrl4 hrv => ?_
  obtain ⟨nt, hnt, hrn⟩ := led_of (P := IsRow) (all2_map (f := fun z => (ownS z, wordS z)) (R := fun v p => ∃ a o, v = .ref a ∧ h4.get? a = some o ∧ h3.get? a = none ∧ IsRow p o) (hrv.imp fun v z h => by obtain ⟨a, u1, u2, e, h1, h2⟩ := h; exact ⟨a, _, e, h1, h2, u1, u2, rfl⟩))
  obtain ⟨N4, hoff⟩ := news_add (nt := (rl, listOf (List.toArray rv) c) :: nt) F3 N3 hk4 (fun r hr => by
    rcases List.mem_cons.mp hr with rfl | hr
    · exact ⟨hrl4, hrl⟩
    · exact hnt r hr)
  have F4 := Fr.kept F3 hk4
  clear F3 N3
  have hoff1 : ∀ r ∈ (rl, listOf (List.toArray rv) c) :: nt, r.1 ≠ L + 1 ∧ r.1 ≠ L + 2 ∧ r.1 ≠ tb.1 := fun r hr => ⟨(hoff r hr (L + 1, o1) (by simp)).symm, (hoff r hr (L + 2, o2) (by simp)).symm, (hoff r hr tb (by simp)).symm⟩
  have N5 := News.sub N4 (l' := (L + 1, o1) :: (L + 2, o2) :: tb :: (rl, listOf (List.toArray rv) c) :: nt) fun p hp => by
    rcases List.mem_cons.mp hp with rfl | hp
    · exact List.mem_append_left _ (by simp)
    rcases List.mem_cons.mp hp with rfl | hp
    · exact List.mem_append_left _ (by simp)
    rcases List.mem_cons.mp hp with rfl | hp
    · exact List.mem_append_left _ (by simp)
    · exact List.mem_append_right _ hp
  clear N4
  k_steps
  refine Stop.intro ?_
  rename_i hD lt6 h6 F6 N6
  refine storeX_L F6 N6 fun h7 F7 N7 => ?_
  clear F6 N6
  k_steps
  refine Stop.intro ?_
  obtain ⟨v1, hv1⟩ := ho1
  refine storeX_C (g := fun o' => (_, _) :: (L + 1, o') :: (L + 2, o2) :: tb :: (rl, listOf (List.toArray rv) c) :: nt) F7 N7 (c := L + 1) (o := o1) (by rfl) (UpdF.tail (Nat.ne_of_gt lt6.1) (UpdF.head fun p hp => ?_)) hv1 fun h8 o8 F8 N8 hd8 => ?_
  · rcases List.mem_cons.mp hp with rfl | hp
    · exact Nat.ne_of_gt (Nat.lt_succ_self _)
    · rcases List.mem_cons.mp hp with rfl | hp
      · exact h12.1
      · exact (hoff1 p hp).1
  clear F7 N7
  k_steps
  refine hQ _ _ _ rl rv c o8 _ nt F8 ⟨rfl, trivial⟩ (News.sub N8 fun p hp => .tail _ hp) hd8 hoff1 hrn
end Mine
end
section
open PySem PySem.W PyProof.Rows PySem.Calls PySem.Spec
set_option Elab.async false
set_option maxRecDepth 1000000
set_option maxHeartbeats 8000000
namespace Mine
theorem regL2 (P : Params) : K P = [] ∨ PySem.Challenge.rw_kl0396_01.name = PySem.Challenge.rw_kl0396_01.name := by
  k_fill
  exact .inr rfl
local macro_rules | `(tactic| walk_at $s:str) => stopAt "eval ListComp|CompSrc|CompEnd|subscriptTail|call builtin:str.join|storeName" s
noncomputable def d2 (z : Int) (p : Nat) : Nat := ((z.fdiv (2 ^ p)).fmod 2).toNat
theorem d2_lt (z : Int) (p : Nat) : d2 z p < 2 := by
  unfold d2
  have h1 := Int.fmod_nonneg_of_pos (z.fdiv (2 ^ p)) (b := 2) (by decide)
  have h2 := Int.fmod_lt_of_pos (z.fdiv (2 ^ p)) (b := 2) (by decide)
  lia
theorem d2_int (z : Int) (p : Nat) : (z.fdiv (2 ^ p)).fmod 2 = (d2 z p : Int) := by
  unfold d2
  have h1 := Int.fmod_nonneg_of_pos (z.fdiv (2 ^ p)) (b := 2) (by decide)
  lia
noncomputable def mS (d : Nat) : Str := if d = 0 then " " else "\t"
theorem pickM {d : Nat} (hd : d < 2) (tk : Tok) : (#[Value.str " " tk, Value.str "\t" (tk + 1)] : Array Value)[(d : Int).toNat]? = some (.str (mS d) (tk + d)) := by
  obtain rfl | rfl : d = 0 ∨ d = 1 := by lia
  all_goals rfl
theorem mS_len (d : Nat) : (mS d).length = 1 := by unfold mS; split <;> rfl
noncomputable def mN (z : Int) : Nat := (1 + z.fmod 3).toNat
theorem mN_int (z : Int) : 1 + z.fmod 3 = (mN z : Int) ∧ 1 ≤ mN z ∧ mN z ≤ 3 := by
  unfold mN
  have h1 := Int.fmod_nonneg_of_pos z (b := 3) (by decide)
  have h2 := Int.fmod_lt_of_pos z (b := 3) (by decide)
  lia
noncomputable def marS (z : Int) : Str := cat ((List.range (mN z)).map fun j => mS (d2 z j))
theorem small_n {n : Nat} (h : n ≤ 3) : Builtin.Range.small 0 (n : Int) 1 = true ∧ Builtin.Range.rangeSize 0 (n : Int) 1 = ((n : Nat) : Int) := by
  obtain rfl | rfl | rfl | rfl : n = 0 ∨ n = 1 ∨ n = 2 ∨ n = 3 := by lia
  all_goals exact ⟨by decide, by decide⟩
local macro_rules | `(tactic| walk_at $s:str) => stopAt "binaryOp FloorDiv int int" s
local macro_rules | `(tactic| walk_at $s:str) => stopAt "no such line" s
theorem pow2 {i : Nat} (hi : i < 3) : (2 : Int) ^ i ≠ 0 ∧ ((2 : Int) ^ i).natAbs < 1073741824 := by
  obtain rfl | rfl | rfl : i = 0 ∨ i = 1 ∨ i = 2 := by lia
  all_goals decide
theorem law_s1 {w : World} {dp un : Nat} {fr : Option (List Env)} {gd : Option (List Code)} {s : Shared} {g : Heap} {mg mb : Str → Option Value} {L rl : Addr} {o1 o2 : Obj} {m : Str → Option Value} {tb : Addr × Obj} {R : List (Addr × Obj)} {z : Int} {t : Tok} {Q : Flow → Shared → Prop}
    (X : (K w.params).In g) (T : TopRead q (looseW q loose) mg mb g) (hC : o1.data = .cell (some (.int z t))) (ho2 : ∃ v, o2.data = .cell v) (hR : ∀ r ∈ tb :: R, r.1 ≠ L + 2)
    (hQ : ∀ h' tk m' o2' u, Fr g L h' m' → HasL m' [("rows", .ref rl)] → News g L h' ((L + 1, o1) :: (L + 2, o2') :: tb :: R) → o2'.data = .cell (some (.str (marS z) u)) → Q .next { s with heap := h', toks := tk })
    (F : Fr g L s.heap m) (hm : HasL m [("rows", .ref rl)]) (N : News g L s.heap ((L + 1, o1) :: (L + 2, o2) :: tb :: R)) :
    wpAny (model pw w) ((AR dp un fr gd).deeper (lwEnv L)) (exec (lwSt 1) (lwEnv L)) Q (fun _ _ => False) s := by
  conv in exec _ _ => arg 1; whnf
  delta lwEnv
  conv in (occs := *) envX _ _ _ _ _ _ => all_goals (arg 2; whnf)
  have em := ov_of hm
  rw [em] at F
  k_steps
  refine Stop.intro ?_
  refine LCg.ListComp_U (F₀ := F) (by with_unfolding_all rfl) (by decide) (by rfl) (by decide) (by rfl) ?_
  k_steps
  refine Stop.intro ?_
  obtain ⟨hnz, hn1, hn3⟩ := mN_int z
  rename IsRange _ _ _ _ _ _ _ _ => hrg
  rw [hnz] at hrg
  refine LCg.CompSrc.range (n := mN z) (by rfl) (by k_asm) (by k_asm) hrg (small_n hn3).1 (small_n hn3).2 (Nat.le_trans hn3 (by decide)) fun g2 => ?_
  refine rest_of (fun i ys news => news = (L + 1, o1) :: (L + 2, o2) :: tb :: R ∧ StrsAre ys ((List.range i).map fun j => mS (d2 z j))) (fun i ys news v I' oI' C' oC' D' m₂ h tk E' hi hJ hP hC2 hx FF NN off ne => ?_) (fun ys news hJ => ?_) (mN z) 0 [] _ (Nat.zero_add _) ⟨rfl, .nil⟩
  · (first | clear F N | skip)
    obtain ⟨rfl, hst⟩ := hJ
    obtain ⟨tp, rfl⟩ := hP
    have off2 := off
    simp only [LCg.Off3] at off2
    have hsn : ∀ u, StrsAre (ys ++ [.str (mS (d2 z i)) u]) ((List.range (i + 1)).map fun j => mS (d2 z j)) := fun u => by
      rw [List.range_succ, List.map_append]
      exact strs_append hst (.cons _ u .nil)
    have he : (0 + (i : Int)).toNat = i := by lia
    k_steps
    refine Stop.intro ?_
    rw [he]
    have hp3 := pow2 (i := i) (by lia)
    refine floordiv_int hp3.1 ?_ (.inl (PyProof.noPylong_small hp3.2))
    k_steps
    refine Stop.intro ?_
    rename_i l2 _ F2 N2 lt
    rw [show (z.fdiv (2 ^ i)).fmod 2 = (d2 z i : Int) from d2_int z i]
    refine disp_at (x := .str (mS (d2 z i)) (tk + d2 z i)) (News.isList N2 (.head _)) (by lia) (by have := d2_lt z i; lia) (pickM (d2_lt z i) tk) ?_
    k_steps
    exact LCg.CompEnd.intro F2 N2 _ (fun q hq => .tail _ hq) off trivial ⟨rfl, hsn _⟩
  obtain ⟨rfl, hst⟩ := hJ
  k_steps
  refine Stop.intro ?_
  rename_i D1 _ _ F3 N3 off3
  refine join_strs (News.isList N3 (.head _)) hst (fun y hy => by obtain ⟨j, _, rfl⟩ := List.mem_map.mp hy; rw [mS_len]; decide) (by simp; lia) fun u1 k1 => ?_
  have N4 := News.sub (l' := (L + 1, o1) :: (L + 2, o2) :: tb :: R) N3 fun p hp => .tail _ hp
  clear N3
  clear off3
  k_steps
  refine Stop.intro ?_
  obtain ⟨v2, hv2⟩ := ho2
  refine storeX_C (g := fun o' => (L + 1, o1) :: (L + 2, o') :: tb :: R) F3 N4 (c := L + 2) (o := o2) (by rfl) (UpdF.tail (Nat.ne_of_lt (Nat.lt_succ_self _)) (UpdF.head fun p hp => hR p hp)) hv2 fun h8 o8 F8 N8 hd8 => ?_
  k_steps
  exact hQ _ _ _ o8 _ F8 ⟨rfl, trivial⟩ N8 hd8
end Mine
end
section
open PySem PySem.W PyProof.Rows PySem.Calls PySem.Spec
set_option Elab.async false
set_option maxRecDepth 1000000
set_option maxHeartbeats 8000000
namespace Mine
theorem regL3 (P : Params) : K P = [] ∨ PySem.Challenge.rw_kl0396_01.name = PySem.Challenge.rw_kl0396_01.name := by
  k_fill
  exact .inr rfl
local macro_rules | `(tactic| walk_at $s:str) => stopAt "eval ListComp|SrcLP|CompEnd|call builtin:str.join" s
theorem restP_of {w : World} {A : Around} {h₀ : Heap} {L : Addr} {m : Str → Option Value} {env : Env} {elt : Expr} {x x₂ : Str} {scope : Scope} {cl : List (Str × Addr)} {s : Shared} {S : List (Addr × Obj) → Prop} {P : Nat → Value → Prop} {Fin : List Value → List (Addr × Obj) → Prop} {n : Nat}
    (J : Nat → List Value → List (Addr × Obj) → Prop)
    (step : ∀ i ys news v, i < n → J i ys news → P i v → ∃ (t : Addr) (ot : Obj) (v₁ v₂ : Value) (nt : Nat), v = .ref t ∧ (t, ot) ∈ news ∧ ot.cls = .type "tuple" ∧ ot.data = .seq #[v₁, v₂] nt ∧
      ∀ I oI C oC D m₂ h tk (E' : Value → Shared → Prop), LCg.NsObj oC m₂ → m₂ x = some v₁ → m₂ x₂ = some v₂ → Fr h₀ L h m → News h₀ L h ((I, oI) :: (C, oC) :: (D, LCg.lst ys) :: news) → LCg.Off3 I C D news → ((@Ne Nat I C) ∧ (@Ne Nat I D) ∧ (@Ne Nat C D)) →
      wpAny (model pw w) A (eval elt (compEnvC scope cl C env)) (LCg.CompEnd h₀ L m { s with heap := h, toks := tk } I oI C oC D (LCg.lst ys) S (fun y news' => J (i + 1) (ys ++ [y]) news')) E' { s with heap := h, toks := tk })
    (fin : ∀ ys news, J n ys news → Fin ys news) : ∀ k i ys news, i + k = n → J i ys news → LCp.CompRestP pw w A h₀ L m env elt x x₂ scope cl s S P Fin k i ys news
  | 0, i, ys, news, hk, hJ => LCp.CompRestP.zero (fin ys news (by rw [← hk]; exact hJ))
  | k + 1, i, ys, news, hk, hJ => LCp.CompRestP.succ fun v hP => by
    obtain ⟨t, ot, v₁, v₂, nt, h1, h2, h3, h4, h5⟩ := step i ys news v (by lia) hJ hP
    refine ⟨t, ot, v₁, v₂, nt, h1, h2, h3, h4, fun I oI C oC D m₂ h tk E' hC hx hx2 F N off ne => ?_⟩
    refine wpAny_mono (h5 I oI C oC D m₂ h tk E' hC hx hx2 F N off ne) (fun y s₂ hE => ?_) fun _ _ e => e
    obtain ⟨h', tk', news', rfl, F', N', off', hS, hj⟩ := hE
    exact ⟨h', tk', news', rfl, F', N', off', hS, restP_of J step fin k (i + 1) _ _ (by lia) hj⟩
noncomputable def lineS (p : Str × Str) : Str := p.1 ++ p.2 ++ "\n"
noncomputable def RowsOk (rs : List (Str × Str)) : Prop := ∀ p ∈ rs, (∀ c ∈ p.1.cps.toList, c = 32 ∨ c = 9) ∧ (∀ c ∈ p.2.cps.toList, c = 97 ∨ c = 98) ∧ p.1.cps.size ≤ 3 ∧ p.2.cps.size ≤ 3
theorem rn_get {nt : List (Addr × Obj)} {i : Nat} {v : Value} {rv : List Value} {rs : List (Str × Str)} (h : RN nt rv rs) (hv : rv[i]? = some v) : ∃ p a u1 u2, rs[i]? = some p ∧ v = .ref a ∧ (a, rowO p u1 u2) ∈ nt := by
  obtain ⟨p, hp, a, o, e, hm, u1, u2, rfl⟩ := All2.at h hv
  exact ⟨p, a, u1, u2, hp, e, hm⟩
theorem law_s2 {w : World} {dp un : Nat} {fr : Option (List Env)} {gd : Option (List Code)} {s : Shared} {g : Heap} {mg mb : Str → Option Value} {L rl : Addr} {c1 c2 tb : Addr × Obj} {m : Str → Option Value} {nt : List (Addr × Obj)} {rv : List Value} {rs : List (Str × Str)} {c : Nat} {Q : Flow → Shared → Prop}
    (X : (K w.params).In g) (T : TopRead q (looseW q loose) mg mb g) (hrn : RN nt rv rs) (hn : rs.length < 100) (hok : RowsOk rs)
    (hQ : ∀ h' tk m' u, Fr g L h' m' → HasL m' [("rows", .ref rl), ("text", .str (cat (rs.map lineS)) u)] → News g L h' (c1 :: c2 :: tb :: (rl, listOf (List.toArray rv) c) :: nt) → Q .next { s with heap := h', toks := tk })
    (F : Fr g L s.heap m) (hm : HasL m [("rows", .ref rl)]) (N : News g L s.heap (c1 :: c2 :: tb :: (rl, listOf (List.toArray rv) c) :: nt)) :
    wpAny (model pw w) ((AR dp un fr gd).deeper (lwEnv L)) (exec (lwSt 2) (lwEnv L)) Q (fun _ _ => False) s := by
  conv in exec _ _ => arg 1; whnf
  delta lwEnv
  conv in (occs := *) envX _ _ _ _ _ _ => all_goals (arg 2; whnf)
  have em := ov_of hm
  rw [em] at F
  have hrl : rv.length = rs.length := hrn.len
  k_steps
  refine Stop.intro ?_
  refine LCp.ListComp_P (F₀ := F) (by with_unfolding_all rfl) (by decide) (by rfl) (by decide) (by rfl) (by rfl) (by decide) ?_
  k_steps
  refine Stop.intro ?_
  refine LCp.SrcLP.ledger (by rfl) F N (.tail _ (.tail _ (.tail _ (.head _)))) (by have : sizeLine = 16777216 := rfl; simp; lia) fun g2 => ?_
  rw [show (List.toArray rv).size = rs.length by simp [hrl]]
  refine restP_of (fun i ys news => news = c1 :: c2 :: tb :: (rl, listOf (List.toArray rv) c) :: nt ∧ StrsAre ys ((rs.take i).map lineS)) (fun i ys news v hi hJ hP => ?_) (fun ys news hJ => ?_) rs.length 0 [] _ (Nat.zero_add _) ⟨rfl, .nil⟩
  · (first | clear F N | skip)
    obtain ⟨rfl, hst⟩ := hJ
    obtain ⟨p, a, u1, u2, hp, rfl, hma⟩ := rn_get hrn (show rv[i]? = some v by simpa using hP)
    refine ⟨a, _, _, _, _, rfl, .tail _ (.tail _ (.tail _ (.tail _ hma))), rfl, rfl, fun I oI C oC D m₂ h tk E' hC2 hx hx2 FF NN off ne => ?_⟩
    have off2 := off
    simp only [LCg.Off3] at off2
    have hsn : ∀ u, StrsAre (ys ++ [.str (lineS p) u]) ((rs.take (i + 1)).map lineS) := fun u => by
      rw [List.take_add_one, hp, List.map_append]
      exact strs_append hst (.cons _ u .nil)
    have hsz := hok p (List.mem_of_getElem? hp)
    have hl1 : p.1.length ≤ 3 := hsz.2.2.1
    have hl2 : p.2.length ≤ 3 := hsz.2.2.2
    k_steps
    refine Stop.intro ?_
    rename Fr _ _ _ _ => F3
    rename News _ _ _ _ => N3
    exact LCg.CompEnd.intro F3 N3 _ (fun q hq => hq) off (.inr ⟨_, .tail _ (.tail _ (.tail _ (.head _))), rfl, _, rfl⟩) ⟨rfl, hsn _⟩
  obtain ⟨rfl, hst⟩ := hJ
  rw [List.take_length] at hst
  k_steps
  refine Stop.intro ?_
  rename_i D1 _ _ F3 N3 off3
  refine join_strs (News.isList N3 (.head _)) hst (fun y hy => ?_) (by simp; lia) fun u1 k1 => ?_
  · obtain ⟨p, hp, rfl⟩ := List.mem_map.mp hy
    have := hok p hp
    show (p.1.cps ++ p.2.cps ++ _).size ≤ 1000
    rw [Array.size_append, Array.size_append]
    show _ + _ + 1 ≤ 1000
    lia
  have N4 := News.sub (l' := c1 :: c2 :: tb :: (rl, listOf (List.toArray rv) c) :: nt) N3 fun p hp => .tail _ hp
  clear N3
  clear off3
  k_steps
  rename Fr _ _ _ _ => F5
  rename News _ _ _ _ => N5
  exact hQ _ _ _ _ F5 ⟨rfl, rfl, trivial⟩ N5
end Mine
end
section
open PySem PySem.W PyProof.Rows PySem.Calls PySem.Spec
set_option Elab.async false
set_option maxRecDepth 1000000
set_option maxHeartbeats 8000000
namespace Mine
theorem regL4 (P : Params) : K P = [] ∨ PySem.Challenge.rw_kl0396_01.name = PySem.Challenge.rw_kl0396_01.name := by
  k_fill
  exact .inr rfl
local macro_rules | `(tactic| walk_at $s:str) => stopAt "call ref" s
local macro_rules | `(tactic| walk_at $s:str) => stopAt "no such line" s
theorem ln32 : Unicode.isLineBreak 32 = false ∧ Unicode.isLineBreak 9 = false ∧ Unicode.isLineBreak 97 = false ∧ Unicode.isLineBreak 98 = false := nobr
theorem line_ln {p : Str × Str} (h1 : ∀ c ∈ p.1.cps.toList, c = 32 ∨ c = 9) (h2 : ∀ c ∈ p.2.cps.toList, c = 97 ∨ c = 98) : RowLn (lineS p) := by
  refine ⟨p.1.cps.toList ++ p.2.cps.toList, ?_, fun c hc => ?_⟩
  · show (p.1.cps ++ p.2.cps ++ #[10]).toList = _
    simp
  · obtain ⟨a, b, d, e⟩ := nobr
    rcases List.mem_append.mp hc with hc | hc
    · rcases h1 c hc with rfl | rfl <;> assumption
    · rcases h2 c hc with rfl | rfl <;> assumption
theorem line_size (p : Str × Str) : (lineS p).length = p.1.cps.size + p.2.cps.size + 1 := by
  show (p.1.cps ++ p.2.cps ++ #[10]).size = _
  simp only [Array.size_append, List.size_toArray, List.length_cons, List.length_nil]
theorem cat_size : ∀ (ss : List Str), (cat ss).length = (ss.map fun r => r.cps.size).sum := by
  intro ss
  show (ss.flatMap fun s => s.cps.toList).toArray.size = _
  simp [List.length_flatMap]
theorem cat_le {ss : List Str} {b : Nat} (h : ∀ r ∈ ss, r.length ≤ b) : (cat ss).length ≤ ss.length * b := by
  rw [cat_size]
  induction ss with
  | nil => simp
  | cons r t ih =>
    have h1 := ih fun x hx => h x (.tail _ hx)
    have h2 : r.cps.size ≤ b := h r (.head _)
    simp only [List.map_cons, List.sum_cons, List.length_cons, Nat.add_mul, Nat.one_mul]
    lia
theorem law_s3 {w : World} {dp un : Nat} {fr : Option (List Env)} {gd : Option (List Code)} {s : Shared} {g : Heap} {mg mb : Str → Option Value} {L rl : Addr} {c1 : Addr × Obj} {o2 : Obj} {m : Str → Option Value} {R : List (Addr × Obj)} {rs : List (Str × Str)} {mr : Str} {u um : Tok} {Q : Flow → Shared → Prop}
    (X : (K w.params).In g) (T : TopRead q (looseW q loose) mg mb g) {l2 : List Str} {mean : ExcName → Option Value} (T2 : Top topProg l2 mean mg mb g) (hd : dp < 380) (hn : rs.length < 80) (hok : RowsOk rs) (hmr : mr.length ≤ 3)
    (hC : o2.data = .cell (some (.str mr um))) (hoff : ∀ r ∈ c1 :: (L + 2, o2) :: R, r.1 ≠ 257)
    (hQ : ∀ h' tk m' ps u', Fr g L h' m' → HasL m' [("rows", .ref rl), ("text", .str (cat (rs.map lineS)) u), ("laid", .str (cat ((rs.map lineS).flatMap (indS mr))) u')] → News g L h' (c1 :: (L + 2, o2) :: (257, tabObj ps) :: R) → Q .next { s with heap := h', toks := tk })
    (F : Fr g L s.heap m) (hm : HasL m [("rows", .ref rl), ("text", .str (cat (rs.map lineS)) u)]) (N : News g L s.heap (c1 :: (L + 2, o2) :: (257, tabObj #[]) :: R)) :
    wpAny (model pw w) ((AR dp un fr gd).deeper (lwEnv L)) (exec (lwSt 3) (lwEnv L)) Q (fun _ _ => False) s := by
  conv in exec _ _ => arg 1; whnf
  delta lwEnv
  conv in (occs := *) envX _ _ _ _ _ _ => all_goals (arg 2; whnf)
  have em := ov_of hm
  rw [em] at F
  k_steps
  refine Stop.intro ?_
  refine wpAny_call ?_
  show codeAny _ (AR _ _ _ _) _ _ _
  have hL : L ≠ 257 := (N (257, tabObj #[]) (.tail _ (.tail _ (.head _)))).2.1.symm
  have hg257 : g.get? 257 = none := (N (257, tabObj #[]) (.tail _ (.tail _ (.head _)))).2.2
  refine indentW (rs := rs.map lineS) F.keep X T T2 (fun r hr => by rw [List.mem_singleton.mp hr]; exact ⟨(N (257, tabObj #[]) (.tail _ (.tail _ (.head _)))).1, hg257⟩) (by show dp + 1 < 389; lia) (fun r hr => ?_) (fun r hr => ?_) (by lia) (by simp; lia) ?_ fun h4 tk4 u4 hk4 ⟨ps, hps⟩ => ?_
  · obtain ⟨p, hp, rfl⟩ := List.mem_map.mp hr
    exact line_ln (hok p hp).1 (hok p hp).2.1
  · obtain ⟨p, hp, rfl⟩ := List.mem_map.mp hr
    have := hok p hp
    rw [line_size]; lia
  · refine Nat.le_trans (cat_le (b := 7) fun r hr => ?_) (by simp; lia)
    obtain ⟨p, hp, rfl⟩ := List.mem_map.mp hr
    have := hok p hp
    rw [line_size]; lia
  have F4 : Fr g L h4 _ := ⟨F.ns.at' fun o e => hk4 L o e hL, fun b o e => hk4 b o (F.keep b o e) (by rintro rfl; rw [hg257] at e; cases e), F.above⟩
  have N4 : News g L h4 (c1 :: (L + 2, o2) :: (257, tabObj ps) :: R) := fun r hr => by
    simp only [List.mem_cons] at hr
    have old : ∀ r, r ∈ c1 :: (L + 2, o2) :: R → r ∈ c1 :: (L + 2, o2) :: (257, tabObj #[]) :: R → h4.get? r.1 = some r.2 ∧ r.1 ≠ L ∧ g.get? r.1 = none := fun r h1 h2 => ⟨hk4 _ _ (N r h2).1 (hoff r h1), (N r h2).2⟩
    rcases hr with rfl | rfl | rfl | hr
    · exact old _ (.head _) (.head _)
    · exact old _ (.tail _ (.head _)) (.tail _ (.head _))
    · exact ⟨hps, hL.symm, hg257⟩
    · exact old _ (.tail _ (.tail _ hr)) (.tail _ (.tail _ (.tail _ hr)))
  clear F N
  k_steps
  rename Fr _ _ _ _ => F5
  rename News _ _ _ _ => N5
  exact hQ _ _ _ ps _ F5 ⟨rfl, rfl, rfl, trivial⟩ N5
end Mine
end
section
open PySem PySem.W PyProof.Rows PySem.Calls PySem.Spec
set_option Elab.async false
set_option maxRecDepth 1000000
set_option maxHeartbeats 8000000
namespace Mine
theorem regL5 (P : Params) : K P = [] ∨ PySem.Challenge.rw_kl0396_01.name = PySem.Challenge.rw_kl0396_01.name := by
  k_fill
  exact .inr rfl
local macro_rules | `(tactic| walk_at $s:str) => stopAt "eval ListComp|SrcLP|CompEnd|call builtin:str.join|call ref" s
noncomputable def linM (mr : Str) (p : Str × Str) : Str := (if p.2 = ("" : Str) then ("" : Str) else mr) ++ p.1 ++ p.2 ++ "\n"
theorem law_s4 {w : World} {dp un : Nat} {fr : Option (List Env)} {gd : Option (List Code)} {s : Shared} {g : Heap} {mg mb : Str → Option Value} {L rl : Addr} {c1 tb : Addr × Obj} {o2 : Obj} {m : Str → Option Value} {nt : List (Addr × Obj)} {rv : List Value} {rs : List (Str × Str)} {mr : Str} {ld : Str} {um ul ut : Tok} {c : Nat} {tx : Str} {Q : Flow → Shared → Prop}
    (X : (K w.params).In g) (T : TopRead q (looseW q loose) mg mb g) (hrn : RN nt rv rs) (hn : rs.length < 100) (hok : RowsOk rs) (hmr : mr.length ≤ 3) (hC : o2.data = .cell (some (.str mr um))) (heq : ld = cat (rs.map (linM mr)))
    (hQ : ∀ h' tk m', Fr g L h' m' → HasL m' [("rows", .ref rl), ("text", .str tx ut), ("laid", .str ld ul)] → News g L h' (c1 :: (L + 2, o2) :: tb :: (rl, listOf (List.toArray rv) c) :: nt) → Q .next { s with heap := h', toks := tk })
    (F : Fr g L s.heap m) (hm : HasL m [("rows", .ref rl), ("text", .str tx ut), ("laid", .str ld ul)]) (N : News g L s.heap (c1 :: (L + 2, o2) :: tb :: (rl, listOf (List.toArray rv) c) :: nt)) :
    wpAny (model pw w) ((AR dp un fr gd).deeper (lwEnv L)) (exec (lwSt 4) (lwEnv L)) Q (fun _ _ => False) s := by
  conv in exec _ _ => arg 1; whnf
  delta lwEnv
  conv in (occs := *) envX _ _ _ _ _ _ => all_goals (arg 2; whnf)
  have em := ov_of hm
  rw [em] at F
  have hrl : rv.length = rs.length := hrn.len
  k_steps
  refine Stop.intro ?_
  refine LCp.ListComp_P (F₀ := F) (by with_unfolding_all rfl) (by decide) (by rfl) (by decide) (by rfl) (by rfl) (by decide) ?_
  k_steps
  refine Stop.intro ?_
  refine LCp.SrcLP.ledger (by rfl) F N (.tail _ (.tail _ (.tail _ (.head _)))) (by have : sizeLine = 16777216 := rfl; simp; lia) fun g2 => ?_
  rw [show (List.toArray rv).size = rs.length by simp [hrl]]
  refine restP_of (fun i ys news => news = c1 :: (L + 2, o2) :: tb :: (rl, listOf (List.toArray rv) c) :: nt ∧ StrsAre ys ((rs.take i).map (linM mr))) (fun i ys news v hi hJ hP => ?_) (fun ys news hJ => ?_) rs.length 0 [] _ (Nat.zero_add _) ⟨rfl, .nil⟩
  · (first | clear F N | skip)
    obtain ⟨rfl, hst⟩ := hJ
    obtain ⟨p, a, u1, u2, hp, rfl, hma⟩ := rn_get hrn (show rv[i]? = some v by simpa using hP)
    refine ⟨a, _, _, _, _, rfl, .tail _ (.tail _ (.tail _ (.tail _ hma))), rfl, rfl, fun I oI C oC D m₂ h tk E' hC2 hx hx2 FF NN off ne => ?_⟩
    have off2 := off
    simp only [LCg.Off3] at off2
    have hsn : ∀ u, StrsAre (ys ++ [.str (linM mr p) u]) ((rs.take (i + 1)).map (linM mr)) := fun u => by
      rw [List.take_add_one, hp, List.map_append]
      exact strs_append hst (.cons _ u .nil)
    have hsz := hok p (List.mem_of_getElem? hp)
    have hl1 : p.1.length ≤ 3 := hsz.2.2.1
    have hl2 : p.2.length ≤ 3 := hsz.2.2.2
    have hin : (rl, listOf (List.toArray rv) c) ∈ c1 :: (L + 2, o2) :: tb :: (rl, listOf (List.toArray rv) c) :: nt := .tail _ (.tail _ (.tail _ (.head _)))
    k_steps
    · refine Stop.intro ?_
      rename Fr _ _ _ _ => F3
      rename News _ _ _ _ => N3
      rename (p.2 != Str.ofString "") = true => hw
      rw [show linM mr p = mr ++ p.1 ++ p.2 ++ "\n" from by unfold linM; rw [if_neg (by simpa using hw)]] at hsn
      exact LCg.CompEnd.intro F3 N3 _ (fun q hq => hq) off (.inr ⟨_, hin, rfl, _, rfl⟩) ⟨rfl, hsn _⟩
    · refine Stop.intro ?_
      rename Fr _ _ _ _ => F3
      rename News _ _ _ _ => N3
      rename (p.2 != Str.ofString "") = false => hw
      rw [show linM mr p = "" ++ p.1 ++ p.2 ++ "\n" from by unfold linM; rw [if_pos (by simpa using hw)]] at hsn
      exact LCg.CompEnd.intro F3 N3 _ (fun q hq => hq) off (.inr ⟨_, hin, rfl, _, rfl⟩) ⟨rfl, hsn _⟩
  obtain ⟨rfl, hst⟩ := hJ
  rw [List.take_length] at hst
  k_steps
  refine Stop.intro ?_
  rename_i D1 _ _ F3 N3 off3
  refine join_strs (News.isList N3 (.head _)) hst (fun y hy => ?_) (by simp; lia) fun u1 k1 => ?_
  · obtain ⟨p, hp, rfl⟩ := List.mem_map.mp hy
    have := hok p hp
    have hmm : ((if p.2 = ("" : Str) then ("" : Str) else mr) : Str).cps.size ≤ 3 := by
      split
      · exact Nat.zero_le _
      · exact hmr
    show ((if p.2 = ("" : Str) then ("" : Str) else mr).cps ++ p.1.cps ++ p.2.cps ++ _).size ≤ 1000
    rw [Array.size_append, Array.size_append, Array.size_append]
    show _ + _ + _ + 1 ≤ 1000
    lia
  have N4 := News.sub (l' := c1 :: (L + 2, o2) :: tb :: (rl, listOf (List.toArray rv) c) :: nt) N3 fun p hp => .tail _ hp
  clear N3
  clear off3
  k_steps
  · rename (_ != _) = true => hne
    rw [heq] at hne
    simp at hne
  · rename Fr _ _ _ _ => F5
    rename News _ _ _ _ => N5
    exact hQ _ _ _ F5 ⟨rfl, rfl, rfl, trivial⟩ N5
end Mine
end
section
open PySem PySem.W PyProof.Rows PySem.Calls PySem.Spec
set_option Elab.async false
set_option maxRecDepth 1000000
set_option maxHeartbeats 8000000
namespace Mine
theorem regL7 (P : Params) : K P = [] ∨ PySem.Challenge.rw_kl0396_01.name = PySem.Challenge.rw_kl0396_01.name := by
  k_fill
  exact .inr rfl
local macro_rules | `(tactic| walk_at $s:str) => stopAt "eval ListComp" s
local macro_rules | `(tactic| walk_at $s:str) => stopAt "SrcLP|CompEnd|call builtin:str.join|call ref|pyIter ref" s
theorem rn_rw {nt : List (Addr × Obj)} {rv : List Value} {rs : List (Str × Str)} {h : Heap} (hrn : RN nt rv rs) (hn : ∀ r ∈ nt, h.get? r.1 = some r.2) : RW h rv rs := hrn.imp fun _ _ h => by obtain ⟨a, o, e, hm, u1, u2, ho⟩ := h; exact ⟨a, u1, u2, e, ho ▸ hn _ hm⟩
theorem law_s6 {w : World} {dp un : Nat} {fr : Option (List Env)} {gd : Option (List Code)} {s : Shared} {g : Heap} {mg mb : Str → Option Value} {L rl : Addr} {c1 tb : Addr × Obj} {o2 : Obj} {m : Str → Option Value} {nt : List (Addr × Obj)} {rv : List Value} {rs : List (Str × Str)} {mr : Str} {ld : Str} {um ul ut : Tok} {c : Nat} {tx : Str} {Q : Flow → Shared → Prop}
    (X : (K w.params).In g) (T : TopRead q (looseW q loose) mg mb g) (hd : dp < 380) (hu : un < 100) (hrn : RN nt rv rs) (hn : rs.length < 100) (hok : RowsOk rs) (hmr : mr.length ≤ 3) (hC : o2.data = .cell (some (.str mr um)))
    (hQ : ∀ h' tk m' sl sv c' u, Fr g L h' m' → HasL m' [("text", .str tx ut), ("laid", .str ld ul), ("spots", .ref sl), ("size", .int ((spotsN rs mr rs.length).2.1 : Nat) u)] → News g L h' (c1 :: (L + 2, o2) :: tb :: [(sl, listOf (List.toArray sv) c')]) → IntsAre sv ((spotsN rs mr rs.length).1.map Int.ofNat) → Q .next { s with heap := h', toks := tk })
    (F : Fr g L s.heap m) (hm : HasL m [("rows", .ref rl), ("text", .str tx ut), ("laid", .str ld ul)]) (N : News g L s.heap (c1 :: (L + 2, o2) :: tb :: (rl, listOf (List.toArray rv) c) :: nt)) :
    wpAny (model pw w) ((AR dp un fr gd).deeper (lwEnv L)) (exec (lwSt 6) (lwEnv L)) Q (fun _ _ => False) s := by
  conv in exec _ _ => arg 1; whnf
  delta lwEnv
  conv in (occs := *) envX _ _ _ _ _ _ => all_goals (arg 2; whnf)
  have em := ov_of hm
  rw [em] at F
  k_steps
  refine Stop.intro ?_
  refine wpAny_call ?_
  show codeAny _ (AR _ _ _ _) _ _ _
  refine lspots (rs := rs) (mgn := mr) F.keep X T (by show dp + 1 < 389; lia) (by show un + 3 < 200; lia) (News.isList N (.tail _ (.tail _ (.tail _ (.head _))))) (rn_rw hrn fun r hr => (N r (.tail _ (.tail _ (.tail _ (.tail _ hr))))).1) hn (fun p hp => by have := hok p hp; lia) (by have : mr.cps.size ≤ 3 := hmr; lia) fun h4 tk4 D sl sv c' u4 hk4 hD hsl hD4 hsl4 hsv => ?_
  obtain ⟨N4, hoff⟩ := news_add (nt := [(D, _), (sl, _)]) F (News.sub (l' := [c1, (L + 2, o2), tb]) N fun p hp => by simp only [List.mem_cons, List.not_mem_nil, or_false] at hp ⊢; rcases hp with h | h | h <;> (repeat first | exact h | exact .inl h | exact .inl (.inl h) | exact .inl (.inr h) | refine .inr ?_)) hk4 (fun r hr => by
    simp only [List.mem_cons, List.not_mem_nil, or_false] at hr
    rcases hr with rfl | rfl
    · exact ⟨hD4, hD⟩
    · exact ⟨hsl4, hsl⟩)
  have F4 := Fr.kept F hk4
  clear F N
  simp only [List.cons_append, List.nil_append] at N4
  k_steps
  rename Fr _ _ _ _ => F5
  rename News _ _ _ _ => N5
  exact hQ _ _ _ sl sv c' u4 F5 ⟨rfl, rfl, rfl, rfl, trivial⟩ (News.sub N5 fun p hp => by simp only [List.mem_cons, List.not_mem_nil, or_false] at hp ⊢; rcases hp with h | h | h | h <;> (repeat first | exact h | exact .inl h | exact .inl (.inl h) | exact .inl (.inr h) | refine .inr ?_)) hsv
noncomputable def IsOpc (p : Opc) (o : Obj) : Prop := ∃ t0 t1 t2 t3 t4, o = opcO p t0 t1 t2 t3 t4
theorem opc_led {h h' : Heap} {vs : List Value} {ps : List Opc} (H : All2 (NewOp h h') vs ps) : All2 (fun v p => ∃ a o, v = .ref a ∧ h'.get? a = some o ∧ h.get? a = none ∧ IsOpc p o) vs ps := H.imp fun _ _ h => by obtain ⟨a, t0, t1, t2, t3, t4, e, h1, h2⟩ := h; exact ⟨a, _, e, h1, h2, t0, t1, t2, t3, t4, rfl⟩
noncomputable def ON (nt : List (Addr × Obj)) : List Value → List Opc → Prop := All2 fun v p => ∃ a o, v = .ref a ∧ (a, o) ∈ nt ∧ IsOpc p o
theorem law_s7 {w : World} {dp un : Nat} {fr : Option (List Env)} {gd : Option (List Code)} {s : Shared} {g : Heap} {mg mb : Str → Option Value} {L sl : Addr} {c1 tb : Addr × Obj} {o2 : Obj} {m : Str → Option Value} {sv : List Value} {sp : List Nat} {size : Nat} {mr : Str} {ld : Str} {um ul ut uz : Tok} {c : Nat} {tx : Str} {Q : Flow → Shared → Prop}
    (X : (K w.params).In g) (T : TopRead q (looseW q loose) mg mb g) (hd : dp < 380) (hsv : IntsAre sv (sp.map Int.ofNat)) (hn : sp.length < 100) (hmr : mr.length ≤ 3) (hC : o2.data = .cell (some (.str mr um)))
    (hQ : ∀ h' tk m' dl dv c' nt, Fr g L h' m' → HasL m' [("text", .str tx ut), ("laid", .str ld ul), ("due", .ref dl)] → News g L h' (tb :: (dl, listOf (List.toArray dv) c') :: nt) → (∀ r ∈ (dl, listOf (List.toArray dv) c') :: nt, tb.1 ≠ r.1) → ON nt dv (codesN size mr.length 0 0 (sp ++ [size])) → Q .next { s with heap := h', toks := tk })
    (F : Fr g L s.heap m) (hm : HasL m [("text", .str tx ut), ("laid", .str ld ul), ("spots", .ref sl), ("size", .int size uz)]) (N : News g L s.heap (c1 :: (L + 2, o2) :: tb :: [(sl, listOf (List.toArray sv) c)])) :
    wpAny (model pw w) ((AR dp un fr gd).deeper (lwEnv L)) (exec (lwSt 7) (lwEnv L)) Q (fun _ _ => False) s := by
  conv in exec _ _ => arg 1; whnf
  delta lwEnv
  conv in (occs := *) envX _ _ _ _ _ _ => all_goals (arg 2; whnf)
  have em := ov_of hm
  rw [em] at F
  k_steps
  refine Stop.intro ?_
  refine wpAny_call ?_
  show codeAny _ (AR _ _ _ _) _ _ _
  rename Fr _ _ _ _ => F1
  rename News _ _ _ _ => N1
  refine lcodes (sp := sp) (size := size) (more := mr.length) F1.keep X T (by show dp + 1 < 389; lia) (News.isList N1 (.tail _ (.tail _ (.tail _ (.head _))))) hsv hn fun h4 tk4 dl dv c' hk4 hdl hdl4 hdv => ?_
  obtain ⟨nt, hnt, hrn⟩ := led_of (P := IsOpc) (opc_led hdv)
  obtain ⟨N4, hoff⟩ := news_add (nt := (dl, _) :: nt) F1 (News.sub (l' := [tb]) N1 fun p hp => by rw [List.mem_singleton.mp hp]; exact .tail _ (.tail _ (.head _))) hk4 (fun r hr => by
    rcases List.mem_cons.mp hr with rfl | hr
    · exact ⟨hdl4, hdl⟩
    · exact hnt r hr)
  have F4 := Fr.kept F1 hk4
  clear F1 N1
  simp only [List.cons_append, List.nil_append] at N4
  k_steps
  rename Fr _ _ _ _ => F5
  rename News _ _ _ _ => N5
  exact hQ _ _ _ dl dv c' nt F5 ⟨rfl, rfl, rfl, trivial⟩ N5 (fun r hr => hoff r hr _ (.head _)) hrn
end Mine
end
section
set_option maxRecDepth 100000
namespace Mine
open PySem
/-! ## rows, gathered into runs -/
noncomputable abbrev Grp := Str × Str × Nat
noncomputable def grp : List (Str × Str) → Nat × List Grp
  | [] => (0, [])
  | p :: l => if blank p = true then ((grp l).1 + 1, (grp l).2) else (0, (p.1, p.2, (grp l).1 + 1) :: (grp l).2)
theorem grp_cons (p : Str × Str) (l : List (Str × Str)) : grp (p :: l) = if blank p = true then ((grp l).1 + 1, (grp l).2) else (0, (p.1, p.2, (grp l).1 + 1) :: (grp l).2) := rfl
noncomputable def gT (q : Grp) : List Nat := q.1.cps.toList ++ (q.2.1.cps.toList ++ List.replicate q.2.2 10)
noncomputable def gL (mr : Str) (q : Grp) : List Nat := (if q.2.1 = "" then [] else mr.cps.toList) ++ gT q
noncomputable def gC (q : Grp) : Nat := q.2.1.cps.size + q.2.2
theorem blank_iff (p : Str × Str) : blank p = true ↔ p.1 = "" ∧ p.2 = "" := by
  unfold blank; rw [Bool.and_eq_true, beq_iff_eq, beq_iff_eq]
theorem cat_list (ss : List Str) : (cat ss).cps.toList = ss.flatMap fun s => s.cps.toList := by unfold cat; simp
theorem line_list (p : Str × Str) : (lineS p).cps.toList = p.1.cps.toList ++ (p.2.cps.toList ++ [10]) := by
  show (p.1.cps ++ p.2.cps ++ #[10]).toList = _
  simp
theorem linM_list (mr : Str) (p : Str × Str) : (linM mr p).cps.toList = (if p.2 = "" then [] else mr.cps.toList) ++ (p.1.cps.toList ++ (p.2.cps.toList ++ [10])) := by
  show ((if p.2 = ("" : Str) then ("" : Str) else mr).cps ++ p.1.cps ++ p.2.cps ++ #[10]).toList = _
  split <;> simp [show ("" : Str).cps = #[] from rfl]
theorem text_grp : ∀ rs : List (Str × Str), (cat (rs.map lineS)).cps.toList = List.replicate (grp rs).1 10 ++ (grp rs).2.flatMap gT := by
  intro rs
  rw [cat_list]
  induction rs with
  | nil => rfl
  | cons p l ih =>
    rw [List.map_cons, List.flatMap_cons, ih, line_list]
    rw [grp_cons]
    split
    · rename_i h
      obtain ⟨h1, h2⟩ := (blank_iff p).mp h
      rw [h1, h2, List.replicate_succ]
      rfl
    · rw [List.flatMap_cons]
      simp [gT, List.replicate_succ]
theorem laid_grp (mr : Str) : ∀ rs : List (Str × Str), (cat (rs.map (linM mr))).cps.toList = List.replicate (grp rs).1 10 ++ (grp rs).2.flatMap (gL mr) := by
  intro rs
  rw [cat_list]
  induction rs with
  | nil => rfl
  | cons p l ih =>
    rw [List.map_cons, List.flatMap_cons, ih, linM_list]
    rw [grp_cons]
    by_cases h : blank p = true
    · rw [if_pos h]
      obtain ⟨h1, h2⟩ := (blank_iff p).mp h
      rw [h1, h2, if_pos rfl, List.replicate_succ]
      rfl
    · rw [if_neg h, List.flatMap_cons]
      simp [gT, gL, List.replicate_succ]
theorem rend_grp (rs : List (Str × Str)) : ∀ k e, rs.length ≤ k + e → rend rs k e = e + (grp (rs.drop e)).1
  | 0, e, h => by
    rw [List.drop_eq_nil_of_le (by lia)]
    rfl
  | k + 1, e, h => by
    by_cases he : e < rs.length
    · rw [rend_s (List.getElem?_eq_getElem he), List.drop_eq_getElem_cons he]
      rw [grp_cons]
      split
      · rw [rend_grp rs k (e + 1) (by lia)]; lia
      · rfl
    · rw [rend_e (List.getElem?_eq_none (by lia)), List.drop_eq_nil_of_le (by lia)]
      rfl
theorem lrun_grp {rs : List (Str × Str)} {r : Nat} : lrun rs r = (rs.getD r ("", "")).2.cps.size + 1 + (grp (rs.drop (r + 1))).1 := by
  unfold lrun
  rw [rend_grp rs rs.length (r + 1) (by lia)]
  show (rs.getD r ("", "")).2.cps.size + _ - r = _
  lia
/-- the spots, from the front on -/
noncomputable def spL (mg : Str) : List (Str × Str) → Nat → Nat → List Nat × Nat
  | [], pl, _ => ([], pl)
  | p :: l, pl, ah =>
    let st := spL mg l (pl + (p.1.cps.size + p.2.cps.size) + 1) (if p.1 ++ p.2 = "" then ah else p.2.cps.size + 1 + (grp l).1)
    ((if p.2 = "" then [] else [pl + if p.2.cps.size + 1 + (grp l).1 ≤ ah then offC p.1 mg else 0]) ++ st.1, st.2)
theorem spL_cons {mg : Str} {p : Str × Str} {l : List (Str × Str)} {pl ah : Nat} : spL mg (p :: l) pl ah = ((if p.2 = "" then [] else [pl + if p.2.cps.size + 1 + (grp l).1 ≤ ah then offC p.1 mg else 0]) ++ (spL mg l (pl + (p.1.cps.size + p.2.cps.size) + 1) (if p.1 ++ p.2 = "" then ah else p.2.cps.size + 1 + (grp l).1)).1, (spL mg l (pl + (p.1.cps.size + p.2.cps.size) + 1) (if p.1 ++ p.2 = "" then ah else p.2.cps.size + 1 + (grp l).1)).2) := rfl
theorem spots_list (rs : List (Str × Str)) (mg : Str) : ∀ d r, r + d = rs.length → (spotsN rs mg rs.length).1 = (spotsN rs mg r).1 ++ (spL mg (rs.drop r) (spotsN rs mg r).2.1 (spotsN rs mg r).2.2).1 ∧ (spotsN rs mg rs.length).2.1 = (spL mg (rs.drop r) (spotsN rs mg r).2.1 (spotsN rs mg r).2.2).2 := by
  intro d
  induction d with
  | zero =>
    intro r hr
    obtain rfl : r = rs.length := by lia
    rw [List.drop_length]
    exact ⟨(List.append_nil _).symm, rfl⟩
  | succ d ih =>
    intro r hr
    obtain ⟨h1, h2⟩ := ih (r + 1) (by lia)
    have he : r < rs.length := by lia
    have hg : rs.getD r ("", "") = rs[r] := by rw [List.getD_eq_getElem?_getD, List.getElem?_eq_getElem he]; rfl
    rw [List.drop_eq_getElem_cons he, h1, h2]
    simp only [spotsN_s, spL_cons, lrun_grp, hg]
    refine ⟨?_, trivial⟩
    split
    · simp
    · simp
noncomputable def spG (mg : Str) : List Grp → Nat → Nat → List Nat
  | [], _, _ => []
  | q :: l, pl, ah => (if q.2.1 = "" then [] else [pl + if gC q ≤ ah then offC q.1 mg else 0]) ++ spG mg l (pl + (gT q).length) (gC q)
theorem spG_cons {mg : Str} {q : Grp} {l : List Grp} {pl ah : Nat} : spG mg (q :: l) pl ah = (if q.2.1 = "" then [] else [pl + if gC q ≤ ah then offC q.1 mg else 0]) ++ spG mg l (pl + (gT q).length) (gC q) := rfl
theorem gT_len (q : Grp) : (gT q).length = q.1.cps.size + gC q := by
  unfold gT gC; simp
theorem spL_grp (mg : Str) : ∀ rs pl ah, (spL mg rs pl ah).1 = spG mg (grp rs).2 (pl + (grp rs).1) ah
  | [], pl, ah => rfl
  | p :: l, pl, ah => by
    simp only [spL_cons, grp_cons]
    rw [spL_grp mg l]
    by_cases h : blank p = true
    · obtain ⟨h1, h2⟩ := (blank_iff p).mp h
      rw [if_pos h, if_pos h2, h1, h2, if_pos (show Str.ofString "" ++ Str.ofString "" = Str.ofString "" from rfl)]
      show [] ++ spG mg (grp l).2 (pl + (0 + 0) + 1 + (grp l).1) ah = spG mg (grp l).2 (pl + ((grp l).1 + 1)) ah
      rw [List.nil_append]
      congr 1; lia
    · have h3 : ¬ (p.1 ++ p.2 = "") := fun e => h <| by
        rw [str_nil] at e
        have : (p.1.cps ++ p.2.cps).size = 0 := e
        rw [Array.size_append] at this
        exact (blank_iff p).mpr ⟨(str_nil _).mpr (by lia), (str_nil _).mpr (by lia)⟩
      rw [if_neg h, if_neg h3]
      simp only [spG_cons, gC]
      rw [gT_len]
      simp only [gC]
      rw [show p.2.cps.size + 1 + (grp l).1 = p.2.cps.size + ((grp l).1 + 1) by lia, show pl + 0 = pl from rfl, show pl + (p.1.cps.size + p.2.cps.size) + 1 + (grp l).1 = pl + (p.1.cps.size + (p.2.cps.size + ((grp l).1 + 1))) by lia]
      rfl
theorem spL_size (mg : Str) : ∀ rs pl ah, (spL mg rs pl ah).2 = pl + (cat (rs.map lineS)).cps.size
  | [], pl, ah => rfl
  | p :: l, pl, ah => by
    simp only [spL_cons]
    rw [spL_size mg l]
    have e : ∀ ss, (cat ss).cps.size = (ss.flatMap fun s => s.cps.toList).length := fun ss => by rw [← cat_list, Array.length_toList]
    rw [e, e, List.map_cons, List.flatMap_cons, List.length_append, line_list]
    simp only [List.length_append, Array.length_toList, List.length_cons, List.length_nil]
    lia
/-! ## how far own and laid agree -/
theorem offW_spec (own laid : Str) : ∀ k o, own.cps.size ≤ o + k → o ≤ own.cps.size → o ≤ offW own laid k o ∧ offW own laid k o ≤ own.cps.size ∧ (∀ t, o ≤ t → t < offW own laid k o → ch own t = ch laid t) ∧ (offW own laid k o < own.cps.size → ch own (offW own laid k o) ≠ ch laid (offW own laid k o))
  | 0, o, h, h2 => by
    exact ⟨Nat.le_refl o, h2, fun t a b => absurd (Nat.lt_of_le_of_lt a b) (Nat.lt_irrefl o), fun a => absurd (Nat.lt_of_lt_of_le a h) (Nat.lt_irrefl o)⟩
  | k + 1, o, h, h2 => by
    rw [offW_s]
    split
    · rename_i e
      obtain ⟨a, b, c, d⟩ := offW_spec own laid k (o + 1) (by lia) (by lia)
      refine ⟨by lia, b, fun t t1 t2 => ?_, d⟩
      by_cases e3 : t = o
      · subst e3; exact e.2
      · exact c t (by lia) t2
    · rename_i e
      exact ⟨Nat.le_refl _, h2, fun t a b => by lia, fun a b => e ⟨a, b⟩⟩
theorem offC_spec (own mg : Str) : offC own mg ≤ own.cps.size ∧ (∀ t, t < offC own mg → ch own t = ch (mg ++ own) t) ∧ (offC own mg < own.cps.size → ch own (offC own mg) ≠ ch (mg ++ own) (offC own mg)) := by
  obtain ⟨a, b, c, d⟩ := offW_spec own (mg ++ own) own.cps.size 0 (by lia) (by lia)
  exact ⟨b, fun t ht => c t (Nat.zero_le _) ht, d⟩
end Mine
end
section
set_option maxRecDepth 100000
namespace Mine
open PySem
/-! ## the runs, laid out -/
noncomputable def gch (l : List Nat) (t : Nat) : Nat := l.getD t 0
theorem ch_gch (x : Str) (t : Nat) : ch x t = gch x.cps.toList t := by unfold ch gch; rw [Array.getD_eq_getD_getElem?, List.getD_eq_getElem?_getD, Array.getElem?_toList]
theorem gch_left {a b : List Nat} {t : Nat} (h : t < a.length) : gch (a ++ b) t = gch a t := by unfold gch; rw [List.getD_eq_getElem?_getD, List.getD_eq_getElem?_getD, List.getElem?_append_left h]
theorem gch_right {a b : List Nat} {t : Nat} : gch (a ++ b) (a.length + t) = gch b t := by unfold gch; rw [List.getD_eq_getElem?_getD, List.getD_eq_getElem?_getD, List.getElem?_append_right (Nat.le_add_right _ _), Nat.add_sub_cancel_left]
theorem gch_mem {a : List Nat} {t : Nat} (h : t < a.length) : gch a t ∈ a := by unfold gch; rw [List.getD_eq_getElem?_getD, List.getElem?_eq_getElem h]; exact List.getElem_mem h
theorem gch_flat {gs : List Grp} (f : Grp → List Nat) {r t : Nat} (hr : r < gs.length) (ht : t < (f (gs.getD r ("", "", 0))).length) : gch (gs.flatMap f) (((gs.take r).flatMap f).length + t) = gch (f (gs.getD r ("", "", 0))) t := by
  have hg : gs.getD r ("", "", 0) = gs[r] := by rw [List.getD_eq_getElem?_getD, List.getElem?_eq_getElem hr]; rfl
  rw [hg] at ht ⊢
  have e : gs.flatMap f = (gs.take r).flatMap f ++ (f gs[r] ++ (gs.drop (r + 1)).flatMap f) := by
    rw [← List.flatMap_cons, ← List.drop_eq_getElem_cons hr, ← List.flatMap_append, List.take_append_drop]
  rw [e, gch_right, gch_left ht]
structure GOk (gs : List Grp) (mr : Str) : Prop where
  own : ∀ q ∈ gs, ∀ c ∈ q.1.cps.toList, c = 32 ∨ c = 9
  word : ∀ q ∈ gs, ∀ c ∈ q.2.1.cps.toList, c = 97 ∨ c = 98
  feeds : ∀ q ∈ gs, 0 < q.2.2
  some : ∀ q ∈ gs, ¬ (q.1 = "" ∧ q.2.1 = "")
  ne : gs ≠ []
  mar : ∀ c ∈ mr.cps.toList, c = 32 ∨ c = 9
  mpos : 0 < mr.cps.size
noncomputable def qq (gs : List Grp) (r : Nat) : Grp := gs.getD r ("", "", 0)
noncomputable def qO (gs : List Grp) (r : Nat) : Nat := (qq gs r).1.cps.size
noncomputable def qC (gs : List Grp) (r : Nat) : Nat := gC (qq gs r)
noncomputable def qW (gs : List Grp) (r : Nat) : Nat := (qq gs r).2.1.cps.size
noncomputable def qM (gs : List Grp) (mr : Str) (r : Nat) : Nat := if (qq gs r).2.1 = "" then 0 else mr.cps.size
noncomputable def qT (gs : List Grp) (r : Nat) : Nat := ((gs.take r).flatMap gT).length
noncomputable def qL (gs : List Grp) (mr : Str) (r : Nat) : Nat := ((gs.take r).flatMap (gL mr)).length
noncomputable def qF (gs : List Grp) (mr : Str) (r : Nat) : Nat := if (qq gs r).2.1 = "" then qO gs r else offC (qq gs r).1 mr
theorem qq_mem {gs : List Grp} {r : Nat} (h : r < gs.length) : qq gs r ∈ gs := by
  unfold qq; rw [List.getD_eq_getElem?_getD, List.getElem?_eq_getElem h]; exact List.getElem_mem h
theorem gL_len (mr : Str) (q : Grp) : (gL mr q).length = (if q.2.1 = "" then 0 else mr.cps.size) + (q.1.cps.size + gC q) := by
  unfold gL; rw [List.length_append, gT_len]; split <;> simp
theorem flat_take {gs : List Grp} (f : Grp → List Nat) {r : Nat} (hr : r < gs.length) : ((gs.take (r + 1)).flatMap f).length = ((gs.take r).flatMap f).length + (f (qq gs r)).length := by
  have hg : qq gs r = gs[r] := by unfold qq; rw [List.getD_eq_getElem?_getD, List.getElem?_eq_getElem hr]; rfl
  rw [hg, List.take_add_one, List.getElem?_eq_getElem hr, List.flatMap_append, List.length_append]
  simp only [Option.toList_some, List.flatMap_cons, List.flatMap_nil, List.append_nil]
theorem wd_pos {x : Str} (h : ¬ x = "") : 0 < x.cps.size := by
  exact Nat.pos_of_ne_zero fun e => h ((str_nil x).mpr e)
theorem lay_grp {gs : List Grp} {mr T L : Str} (h : GOk gs mr) (hT : T.cps.toList = gs.flatMap gT) (hL : L.cps.toList = gs.flatMap (gL mr)) :
    Lay T L jkc gs.length (qO gs) (qC gs) (qM gs mr) (qW gs) (qT gs) (qL gs mr) (qF gs mr) := by
  have junk : ∀ c, c = 32 ∨ c = 9 → jkc c = true := fun c hc => by rcases hc with rfl | rfl <;> rfl
  -- the signs of both texts
  have tch : ∀ r t, r < gs.length → t < qO gs r + qC gs r → ch T (qT gs r + t) = gch (gT (qq gs r)) t := fun r t hr ht => by
    rw [ch_gch, hT]
    exact gch_flat gT hr (by show t < (gT (qq gs r)).length; rw [gT_len]; exact ht)
  have lch : ∀ r t, r < gs.length → t < qM gs mr r + (qO gs r + qC gs r) → ch L (qL gs mr r + t) = gch (gL mr (qq gs r)) t := fun r t hr ht => by
    rw [ch_gch, hL]
    exact gch_flat (gL mr) hr (by show t < (gL mr (qq gs r)).length; rw [gL_len]; exact ht)
  have gown : ∀ r t, t < qO gs r → gch (gT (qq gs r)) t = ch (qq gs r).1 t := fun r t ht => by
    unfold gT; rw [gch_left (by rw [Array.length_toList]; exact ht), ← ch_gch]
  have gmar : ∀ r t, gch (gL mr (qq gs r)) (qM gs mr r + t) = gch (gT (qq gs r)) t := fun r t => by
    have : qM gs mr r = (if (qq gs r).2.1 = "" then ([] : List Nat) else mr.cps.toList).length := by unfold qM; split <;> simp
    rw [this]; exact gch_right
  have gcore : ∀ r t, gch (gT (qq gs r)) (qO gs r + t) = gch ((qq gs r).2.1.cps.toList ++ List.replicate (qq gs r).2.2 10) t := fun r t => by
    have : qO gs r = (qq gs r).1.cps.toList.length := by unfold qO; simp
    rw [this]; exact gch_right
  have gword : ∀ r t, t < qW gs r → gch ((qq gs r).2.1.cps.toList ++ List.replicate (qq gs r).2.2 10) t ∈ (qq gs r).2.1.cps.toList := fun r t ht => by
    have : t < (qq gs r).2.1.cps.toList.length := by rw [Array.length_toList]; exact ht
    rw [gch_left this]; exact gch_mem this
  have gfeed : ∀ r t, qW gs r ≤ t → t < qC gs r → gch ((qq gs r).2.1.cps.toList ++ List.replicate (qq gs r).2.2 10) t = 10 := fun r t h1 h2 => by
    obtain ⟨u, rfl⟩ : ∃ u, t = qW gs r + u := ⟨t - qW gs r, by lia⟩
    have e : qW gs r = (qq gs r).2.1.cps.toList.length := by unfold qW; simp
    rw [e, gch_right]
    have : u < (List.replicate (qq gs r).2.2 10).length := by
      rw [List.length_replicate]; unfold qC gC at h2; unfold qW at h2; lia
    exact List.eq_of_mem_replicate (gch_mem this)
  have ownb : ∀ r t, r < gs.length → t < qO gs r → ch (qq gs r).1 t = 32 ∨ ch (qq gs r).1 t = 9 := fun r t hr ht => by
    rw [ch_gch]; exact h.own _ (qq_mem hr) _ (gch_mem (by rw [Array.length_toList]; exact ht))
  have lcore : ∀ r t, r < gs.length → t < qC gs r → ch L (qL gs mr r + qM gs mr r + qO gs r + t) = gch ((qq gs r).2.1.cps.toList ++ List.replicate (qq gs r).2.2 10) t := fun r t hr ht => by
    rw [show qL gs mr r + qM gs mr r + qO gs r + t = qL gs mr r + (qM gs mr r + (qO gs r + t)) by lia, lch r _ hr (by lia), gmar, gcore]
  -- mr and own, one behind the other
  have mo : ∀ r t, r < gs.length → ¬ (qq gs r).2.1 = "" → t < qM gs mr r + qO gs r → ch L (qL gs mr r + t) = ch (mr ++ (qq gs r).1) t := fun r t hr hw ht => by
    rw [lch r t hr (by lia)]
    unfold gL gT
    rw [if_neg hw, ← List.append_assoc, gch_left (by
      have e1 : qM gs mr r = mr.cps.size := by unfold qM; rw [if_neg hw]
      rw [List.length_append, Array.length_toList, Array.length_toList]; unfold qO at ht; lia), ch_gch]
    have : (mr ++ (qq gs r).1).cps.toList = mr.cps.toList ++ (qq gs r).1.cps.toList := by
      show (mr.cps ++ (qq gs r).1.cps).toList = _
      simp
    rw [this]
  have hne : 0 < gs.length := List.length_pos_iff.mpr h.ne
  constructor
  · exact hne
  · rfl
  · rfl
  · intro r hr
    show qT gs (r + 1) = _
    have := flat_take gT hr
    rw [gT_len] at this
    unfold qT qO qC; lia
  · intro r hr
    have := flat_take (gL mr) hr
    rw [gL_len] at this
    unfold qL qO qC qM; lia
  · show qM gs mr gs.length = 0
    unfold qM qq
    rw [List.getD_eq_getElem?_getD, List.getElem?_eq_none (Nat.le_refl _)]
    rfl
  · show ((gs.take gs.length).flatMap gT).length = _
    rw [List.take_length, ← hT, Array.length_toList]
  · show ((gs.take gs.length).flatMap (gL mr)).length = _
    rw [List.take_length, ← hL, Array.length_toList]
  · intro r t hr ht
    rw [tch r t hr (by lia), gown r t ht]
    exact junk _ (ownb r t hr ht)
  · intro r t hr ht
    by_cases hw : (qq gs r).2.1 = ""
    · have e : qM gs mr r = 0 := by unfold qM; rw [if_pos hw]
      have := gmar r t
      rw [e, Nat.zero_add] at this
      rw [lch r t hr (by lia), this, gown r t (by lia)]
      exact junk _ (ownb r t hr (by lia))
    · rw [mo r t hr hw ht, ch_gch]
      refine junk _ ?_
      have e : (mr ++ (qq gs r).1).cps.toList = mr.cps.toList ++ (qq gs r).1.cps.toList := by
        show (mr.cps ++ (qq gs r).1.cps).toList = _
        simp
      have e1 : qM gs mr r = mr.cps.size := by unfold qM; rw [if_neg hw]
      have := gch_mem (a := mr.cps.toList ++ (qq gs r).1.cps.toList) (t := t) (by
        rw [List.length_append, Array.length_toList, Array.length_toList]; unfold qO at ht; lia)
      rw [e]
      rcases List.mem_append.mp this with hm | hm
      · exact h.mar _ hm
      · exact h.own _ (qq_mem hr) _ hm
  · intro r t hr ht
    rw [tch r t hr (by lia), show qL gs mr r + qM gs mr r + t = qL gs mr r + (qM gs mr r + t) by lia, lch r _ hr (by lia), gmar]
  · intro r t hr ht
    rw [show qT gs r + qO gs r + t = qT gs r + (qO gs r + t) by lia, tch r _ hr (by lia), gcore, lcore r t hr ht]
  · intro r t hr ht
    rw [lcore r t hr ht]
    by_cases e : t < qW gs r
    · rcases h.word _ (qq_mem hr) _ (gword r t e) with e2 | e2 <;> (rw [e2]; rfl)
    · rw [gfeed r t (by lia) ht]; rfl
  · intro r hr
    by_cases hw : (qq gs r).2.1 = ""
    · have := wd_pos fun e => h.some _ (qq_mem hr) ⟨e, hw⟩
      unfold qO; lia
    · have := h.mpos
      unfold qM; rw [if_neg hw]; lia
  · intro r hr
    have := h.feeds _ (qq_mem hr)
    unfold qW qC gC; lia
  · intro r hr ho
    unfold qW
    refine wd_pos fun e => h.some _ (qq_mem hr) ⟨(str_nil _).mpr ho, e⟩
  · intro r t hr ht
    have hc : qW gs r ≤ qC gs r := by unfold qW qC gC; lia
    rw [lcore r t hr (by lia)]
    rcases h.word _ (qq_mem hr) _ (gword r t ht) with e2 | e2 <;> (rw [e2]; decide)
  · intro r t hr h1 h2
    rw [lcore r t hr h2, gfeed r t h1 h2]
  · intro r hr
    unfold qF
    split
    · exact Nat.le_refl _
    · exact (offC_spec _ _).1
  · intro r t hr ht
    have ho : t < qO gs r := by
      unfold qF at ht
      split at ht
      · exact ht
      · have := (offC_spec (qq gs r).1 mr).1
        unfold qO; lia
    rw [tch r t hr (by lia), gown r t ho]
    by_cases hw : (qq gs r).2.1 = ""
    · have e : qM gs mr r = 0 := by unfold qM; rw [if_pos hw]
      have := gmar r t
      rw [e, Nat.zero_add] at this
      rw [lch r t hr (by lia), this, gown r t ho]
    · rw [mo r t hr hw (by lia)]
      unfold qF at ht
      rw [if_neg hw] at ht
      exact (offC_spec _ _).2.1 t ht
  · intro r hr ht
    by_cases hw : (qq gs r).2.1 = ""
    · unfold qF at ht
      rw [if_pos hw] at ht
      exact absurd ht (Nat.lt_irrefl _)
    · rw [tch r _ hr (by lia), gown r _ ht, mo r _ hr hw (by lia)]
      unfold qF at ht ⊢
      rw [if_neg hw] at ht ⊢
      exact (offC_spec _ _).2.2 ht
/-- the law's spots are the layout's -/
theorem spG_spR {gs : List Grp} {mr : Str} (h : GOk gs mr) : ∀ d r, r + d = gs.length → spG mr (gs.drop r) (qT gs r) (if r = 0 then 0 else qC gs (r - 1)) = spR gs.length (qC gs) (qM gs mr) (qT gs) (qF gs mr) r d := by
  intro d
  induction d with
  | zero =>
    intro r hr
    rw [List.drop_eq_nil_of_le (by lia)]
    rfl
  | succ d ih =>
    intro r hr
    have hlt : r < gs.length := by lia
    have hg : gs[r] = qq gs r := by unfold qq; rw [List.getD_eq_getElem?_getD, List.getElem?_eq_getElem hlt]; rfl
    rw [List.drop_eq_getElem_cons hlt, hg]
    simp only [spG_cons, spR_s]
    have := ih (r + 1) (by lia)
    rw [if_neg (Nat.succ_ne_zero r), Nat.add_sub_cancel] at this
    have e : qT gs (r + 1) = qT gs r + (gT (qq gs r)).length := flat_take gT hlt
    rw [← e, ← this]
    congr 1
    by_cases hw : (qq gs r).2.1 = ""
    · rw [if_pos hw, if_neg]
      unfold qM; rw [if_pos hw]; exact Nat.lt_irrefl _
    · have hm : 0 < qM gs mr r := by unfold qM; rw [if_neg hw]; exact h.mpos
      rw [if_neg hw, if_pos hm]
      congr 2
      unfold oo
      have hf := h.feeds _ (qq_mem hlt)
      have hF : qF gs mr r = offC (qq gs r).1 mr := by unfold qF; rw [if_neg hw]
      by_cases hr0 : r = 0
      · subst hr0
        rw [if_pos rfl, if_neg (by unfold gC; lia), if_neg (by lia)]
      · rw [if_neg hr0, hF]
        by_cases hc : gC (qq gs r) ≤ qC gs (r - 1)
        · rw [if_pos hc, if_pos ⟨by lia, hlt, hc⟩]
        · rw [if_neg hc, if_neg fun z => hc z.2.2]
end Mine
end
section
open PySem PySem.W PyProof.Rows PySem.Calls PySem.Spec
set_option Elab.async false
set_option maxRecDepth 1000000
set_option maxHeartbeats 8000000
namespace Mine
/-! ## a comprehension whose target is a tuple of five names (the steps are those of the library's rule for a pair) -/
inductive Tup5 (news : List (Addr × Obj)) (v : Value) (k : Value → Value → Value → Value → Value → Prop) : Prop
  | mk (t : Addr) (ot : Obj) (v1 v2 v3 v4 v5 : Value) (nt : Nat) (e : v = .ref t) (hm : (t, ot) ∈ news) (hc : ot.cls = .type "tuple") (hd : ot.data = .seq #[v1, v2, v3, v4, v5] nt) (hk : k v1 v2 v3 v4 v5)
noncomputable def Put5 (h₀ : Heap) (L : Addr) (m : Str → Option Value) (A : Around) (w : World) (scope : Scope) (cl : List (Str × Addr)) (env : Env) (elt : Expr) (x1 x2 x3 x4 x5 : Str) (ax : Addr) (its : Array Value) (s : Shared) (J : Nat → List Value → List (Addr × Obj) → Prop) : Prop :=
  ∀ i ys news v, i < its.size → J i ys news → its[i]? = some v → Tup5 news v fun v1 v2 v3 v4 v5 =>
    ∀ I oI C oC D m₂ h tk (E' : Value → Shared → Prop), LCg.NsObj oC m₂ → m₂ x1 = some v1 → m₂ x2 = some v2 → m₂ x3 = some v3 → m₂ x4 = some v4 → m₂ x5 = some v5 → Fr h₀ L h m → News h₀ L h ((I, oI) :: (C, oC) :: (D, LCg.lst ys) :: news) → LCg.Off3 I C D news → ((@Ne Nat I C) ∧ (@Ne Nat I D) ∧ (@Ne Nat C D)) →
      wpAny (model pw w) A (eval elt (compEnvC scope cl C env)) (LCg.CompEnd h₀ L m { s with heap := h, toks := tk } I oI C oC D (LCg.lst ys) (LCg.SrcAt h₀ ax its) (fun y news' => J (i + 1) (ys ++ [y]) news')) E' { s with heap := h, toks := tk }
/-- what holds between the turns -/
inductive B5J (h₀ : Heap) (L : Addr) (m : Str → Option Value) (s₂ : Shared) (I ax : Addr) (its : Array Value) (C D : Addr) (J : Nat → List Value → List (Addr × Obj) → Prop) (k : Nat) (s' : Shared) : Prop
  | mk (h' : Heap) (tk : Nat) (i : Nat) (ys : List Value) (m' : Str → Option Value) (news' : List (Addr × Obj)) (e : s' = { s₂ with heap := h', toks := tk }) (h1 : i ≤ its.size) (h2 : k = its.size + 1 - i) (h3 : ys.length = i) (h4 : h'.IsListIter I ax i ∧ h'.IsList ax its) (h5 : Fr h₀ L h' m) (h6 : h'.Ns C m') (h7 : News h₀ L h' ((D, LCg.lst ys) :: news'))
      (h8 : LCg.Off3 I C D news') (h9 : LCg.SrcAt h₀ ax its news') (h10 : J i ys news')
theorem pick1 {m : Str → Option Value} {x1 x2 x3 x4 x5 : Str} {v1 v2 v3 v4 v5 : Value} (a : x1 ≠ x2) (b : x1 ≠ x3) (c : x1 ≠ x4) (d : x1 ≠ x5) : (fun y => if y = x5 then some v5 else if y = x4 then some v4 else if y = x3 then some v3 else if y = x2 then some v2 else if y = x1 then some v1 else m y) x1 = some v1 :=
  (if_neg d).trans ((if_neg c).trans ((if_neg b).trans ((if_neg a).trans (if_pos rfl))))
theorem pick2 {m : Str → Option Value} {x1 x2 x3 x4 x5 : Str} {v1 v2 v3 v4 v5 : Value} (b : x2 ≠ x3) (c : x2 ≠ x4) (d : x2 ≠ x5) : (fun y => if y = x5 then some v5 else if y = x4 then some v4 else if y = x3 then some v3 else if y = x2 then some v2 else if y = x1 then some v1 else m y) x2 = some v2 :=
  (if_neg d).trans ((if_neg c).trans ((if_neg b).trans (if_pos rfl)))
theorem pick3 {m : Str → Option Value} {x1 x2 x3 x4 x5 : Str} {v1 v2 v3 v4 v5 : Value} (c : x3 ≠ x4) (d : x3 ≠ x5) : (fun y => if y = x5 then some v5 else if y = x4 then some v4 else if y = x3 then some v3 else if y = x2 then some v2 else if y = x1 then some v1 else m y) x3 = some v3 :=
  (if_neg d).trans ((if_neg c).trans (if_pos rfl))
section
variable {w : World} {A : Around} {E : Value → Shared → Prop} {s : Shared} {h₀ : Heap} {L : Addr} {m : Str → Option Value} {env : Env}
theorem block5 {elt iter : Expr} {x1 x2 x3 x4 x5 : Str} {p1 p2 p3 p4 p5 tp : Pos} {tk} {scope : Scope} {cl : List (Str × Addr)} {pos : Pos} {s₂ : Shared} {I ax : Addr} {its : Array Value} {news : List (Addr × Obj)}
    {J : Nat → List Value → List (Addr × Obj) → Prop} {RR : Value → Addr → Result → Shared → Prop}
    (hsz : its.size ≤ sizeLine) (hcell : ∀ y ∈ scope.names, y.2 ≠ .cell) (hkind : scope.kind = .function) (hxs : ∀ x ∈ [x1, x2, x3, x4, x5], scope.names.lookup x = some .local) (hnd : [x1, x2, x3, x4, x5].Nodup) (hh : A.handled = none)
    (hst : s₂.heap.IsListIter I ax 0 ∧ s₂.heap.IsList ax its) (hIa : ax ≠ I)
    (F : Fr h₀ L s₂.heap m) (N : News h₀ L s₂.heap news) (hIL : L ≠ I) (hI₀ : h₀.get? I = none) (off : ∀ p ∈ news, p.1 ≠ I) (hS : LCg.SrcAt h₀ ax its news)
    (hJ0 : J 0 [] news) (step : Put5 h₀ L m A w scope cl env elt x1 x2 x3 x4 x5 ax its s₂ J)
    (hRR : ∀ D C h tk m' ys news', Fr h₀ L h m → News h₀ L h ((D, LCg.lst ys) :: news') → LCg.Off1 D news' → h.Ns C m' → h₀.get? C = none → h₀.get? D = none → C ≠ L → D ≠ L → C ≠ D → (∀ p ∈ news', p.1 ≠ C) → J its.size ys news' → RR (.ref D) C (.ok .next) { s₂ with heap := h, toks := tk }) :
    wpAny (model pw w) A (newList []) (fun acc s₃ => wpAny (model pw w) A (newFunctionEnv scope env.globals cl [] env.qual none .none (some env)) (fun cenv s₄ =>
      codeAny (model pw w) A (.compStart (.ListComp elt [⟨.Tuple [.Name x1 p1, .Name x2 p2, .Name x3 p3, .Name x4 p4, .Name x5 p5] tk tp, iter, [], 0⟩] scope pos) 0 (.ref I) acc { cenv with scope := relabel scope env }) (RR acc cenv.locals) s₄) E s₃) E s₂ := by
  have W := Walks.list (prog := pw) (w := w) hh I ax hIa its
  refine wpAny_newObj_type (wpAny_newFunctionEnv hcell (by intro y hy; simp at hy) (fun h₁ hns₁ hsb₁ => ?_) hkind)
  dsimp only at hns₁ hsb₁ ⊢
  generalize hH2 : s₂.heap.push { cls := .type "list", dict := none, data := .seq ([] : List Value).toArray } = H2 at hns₁ hsb₁ ⊢
  have hC : H2.objs.size = s₂.heap.objs.size + 1 := by rw [← hH2, Heap.size_push]
  have hDC : s₂.heap.objs.size ≠ H2.objs.size := by rw [hC]; exact Nat.ne_of_lt (Nat.lt_succ_self _)
  have below : ∀ b, b < s₂.heap.objs.size → b ≠ H2.objs.size ∧ b ≠ s₂.heap.objs.size := fun b hb => ⟨by rw [hC]; exact Nat.ne_of_lt (Nat.lt_succ_of_lt hb), Nat.ne_of_lt hb⟩
  have hIlt : I < s₂.heap.objs.size := by obtain ⟨_, e, _⟩ := hst.1; exact Heap.lt_size e
  have hxlt : ax < s₂.heap.objs.size := by obtain ⟨_, e, _⟩ := hst.2; exact Heap.lt_size e
  have fpl : ∀ b ∈ [I, ax], b < s₂.heap.objs.size := fun b hb => by
    rcases List.mem_cons.mp hb with rfl | hb
    · exact hIlt
    · rw [List.mem_singleton.mp hb]; exact hxlt
  have hDf : s₂.heap.objs.size ∉ [I, ax] := fun hm => Nat.lt_irrefl _ (fpl _ hm)
  have hCf : H2.objs.size ∉ [I, ax] := fun hm => by have := fpl _ hm; rw [hC] at this; exact Nat.lt_irrefl _ (Nat.lt_of_succ_lt this)
  have old : ∀ b o, s₂.heap.get? b = some o → h₁.get? b = some o := fun b o e => hsb₁.extBut b o (below b (Heap.lt_size e)).1 (Heap.get?_push_of_some _ (hH2 ▸ Heap.get?_push_of_some _ e))
  have hacc : h₁.get? s₂.heap.objs.size = some (LCg.lst []) := hsb₁.extBut _ _ hDC (Heap.get?_push_of_some _ (hH2 ▸ Heap.get?_push_size _ rfl))
  have hst₁ : h₁.IsListIter I ax 0 ∧ h₁.IsList ax its := W.frame 0 _ _ hst fun b _ o e => old b o e
  have fresh₀ : ∀ a, s₂.heap.objs.size ≤ a → h₀.get? a = none := fun a ha => by
    cases e : h₀.get? a with
    | none => rfl
    | some o' => exact absurd (Heap.lt_size (F.keep a o' e)) (Nat.not_lt.mpr ha)
  have hD₀ : h₀.get? s₂.heap.objs.size = none := fresh₀ _ (Nat.le_refl _)
  have hC₀ : h₀.get? H2.objs.size = none := fresh₀ _ (by rw [hC]; exact Nat.le_succ _)
  have hLlt : L < s₂.heap.objs.size := F.ns.lt
  have hDL : s₂.heap.objs.size ≠ L := Ne.symm (below L hLlt).2
  have hCL : H2.objs.size ≠ L := Ne.symm (below L hLlt).1
  have hCI : I ≠ H2.objs.size := (below I hIlt).1
  have hDI : I ≠ s₂.heap.objs.size := (below I hIlt).2
  have off₀ : LCg.Off3 I H2.objs.size s₂.heap.objs.size news := LCg.Off3.of fun p hp => ⟨off p hp, (below _ (Heap.lt_size (N p hp).1)).1, (below _ (Heap.lt_size (N p hp).1)).2⟩
  have loop : ∀ s₃ : Shared, s₃ = { s₂ with heap := h₁, toks := s₂.toks + ([] : List (Str × Value)).length } →
      codeAny (model pw w) A (.compLoop (.ListComp elt [⟨.Tuple [.Name x1 p1, .Name x2 p2, .Name x3 p3, .Name x4 p4, .Name x5 p5] tk tp, iter, [], 0⟩] scope pos) 0 (.ref I) (.ref s₂.heap.objs.size) (compEnvC scope cl H2.objs.size env))
        (RR (.ref s₂.heap.objs.size) H2.objs.size) s₃ := by
    rintro s₃ rfl
    refine LCp.codeAny_compLoop_pair
      (B5J h₀ L m s₂ I ax its H2.objs.size s₂.heap.objs.size J) ?_ (its.size + 1)
      ⟨h₁, _, 0, [], _, news, rfl, Nat.zero_le _, rfl, rfl, hst₁, F.keeps old, hns₁, fun p hp => ?_, off₀, hS, hJ0⟩
    · rintro k s' ⟨h', tk, i, ys, m', news', rfl, hi, rfl, hyl, hst', F', hn', N', off', hS', hJ'⟩
      by_cases hlt : i < its.size
      · refine W.item i _ _ _ hlt hst' fun v h₂ tk₂ hPv hst₂ hk₂ => ?_
        obtain ⟨t, ot, v1, v2, v3, v4, v5, nt, rfl, hmt, hct, hdt, hturn⟩ := step i ys news' v hlt hJ' hPv
        have off3 := off'.mem
        have N₂ : News h₀ L h₂ ((s₂.heap.objs.size, LCg.lst ys) :: news') := LCg.news_but N' hk₂ fun p hp => by
          rcases List.mem_cons.mp hp with rfl | hp
          · exact Ne.symm hDI
          · exact (off3 p hp).1
        have ht : IsTup h₂ t #[v1, v2, v3, v4, v5] := ⟨ot, (N₂ _ (List.mem_cons_of_mem _ hmt)).1, hct, nt, hdt⟩
        refine wpAny_letOwnedTupleGo_listiter hst₂.1 ?_
        refine assign_Tuple_tuple hh ht rfl rfl fun h₅ he => ?_
        have he' : ∀ b o, h₂.get? b = some o → h₅.get? b = some o := fun b o e => he b o (Nat.ne_of_lt (Heap.lt_size e)) e
        have hn5 := (hn'.at' fun o e => hk₂ _ o (by simpa using Ne.symm hCI) e).at' fun o e => he' _ o e
        have hl : ∀ x ∈ [x1, x2, x3, x4, x5], (relabel scope env).names.lookup x = some .local := fun x hx => lookup_relabel_local (hxs x hx)
        refine assignInOrder_cons (wpAny_assign_Name (wpAny_storeName_local (hl x1 (by simp)) hn5 (fun h₆ hn₆ hs₆ => ?_) (by simp [compEnvC, relabel, hkind])))
        refine assignInOrder_cons (wpAny_assign_Name (wpAny_storeName_local (hl x2 (by simp)) hn₆ (fun h₇ hn₇ hs₇ => ?_) (by simp [compEnvC, relabel, hkind])))
        refine assignInOrder_cons (wpAny_assign_Name (wpAny_storeName_local (hl x3 (by simp)) hn₇ (fun h₈ hn₈ hs₈ => ?_) (by simp [compEnvC, relabel, hkind])))
        refine assignInOrder_cons (wpAny_assign_Name (wpAny_storeName_local (hl x4 (by simp)) hn₈ (fun h₉ hn₉ hs₉ => ?_) (by simp [compEnvC, relabel, hkind])))
        refine assignInOrder_cons (wpAny_assign_Name (wpAny_storeName_local (hl x5 (by simp)) hn₉ (fun h₃ hn₃ hs₃ => ?_) (by simp [compEnvC, relabel, hkind])))
        refine assignInOrder_nil ?_
        have old3 : ∀ b o, b ≠ H2.objs.size → h₂.get? b = some o → h₃.get? b = some o := fun b o hb e => hs₃.extBut b o hb (hs₉.extBut b o hb (hs₈.extBut b o hb (hs₇.extBut b o hb (hs₆.extBut b o hb (he' b o e)))))
        have hst₃ : h₃.IsListIter I ax (i + 1) ∧ h₃.IsList ax its := W.frame _ _ _ hst₂ fun b hb o e => old3 b o (fun q => hCf (by rw [← q]; exact hb)) e
        obtain ⟨oI, heI, _⟩ := id hst₃.1
        obtain ⟨oC, heC, hoC⟩ := LCg.ns_obj hn₃
        have F₃ : Fr h₀ L h₃ m := (((((((LCg.fr_but F' hk₂ hIL hI₀).keeps he').change hs₆ hCL hC₀).change hs₇ hCL hC₀).change hs₈ hCL hC₀).change hs₉ hCL hC₀).change hs₃ hCL hC₀)
        have N₃ : News h₀ L h₃ ((I, oI) :: (H2.objs.size, oC) :: (s₂.heap.objs.size, LCg.lst ys) :: news') := fun p hp => by
          rcases List.mem_cons.mp hp with rfl | hp
          · exact ⟨heI, Ne.symm hIL, hI₀⟩
          · rcases List.mem_cons.mp hp with rfl | hp
            · exact ⟨heC, hCL, hC₀⟩
            · have z := N₂ p hp
              refine ⟨old3 _ _ ?_ z.1, z.2⟩
              rcases List.mem_cons.mp hp with rfl | hp
              · exact hDC
              · exact (off3 p hp).2.1
        simp only [List.nodup_cons, List.mem_cons, List.not_mem_nil, or_false, not_or] at hnd
        obtain ⟨⟨n12, n13, n14, n15⟩, ⟨n23, n24, n25⟩, ⟨n34, n35⟩, n45, _⟩ := hnd
        refine wpAny_mono (hturn I oI H2.objs.size oC s₂.heap.objs.size _ h₃ _ _ hoC (pick1 n12 n13 n14 n15) (pick2 n23 n24 n25) (pick3 n34 n35) ((if_neg n45).trans (if_pos rfl)) (if_pos rfl) F₃ N₃ off' ⟨hCI, hDI, Ne.symm hDC⟩) (fun y s₄ h₄ => ?_) fun _ _ e => e
        obtain ⟨h₄, tk₄, news₄, rfl, F₄, N₄, off₄, hS₄, hJ₄⟩ := h₄
        have zI := (N₄ (I, oI) List.mem_cons_self).1
        have zC := (N₄ (H2.objs.size, oC) (List.mem_cons_of_mem _ List.mem_cons_self)).1
        have zD := (N₄ (s₂.heap.objs.size, LCg.lst ys) (List.mem_cons_of_mem _ (List.mem_cons_of_mem _ List.mem_cons_self))).1
        have N₄' : News h₀ L h₄ news₄ := fun p hp => N₄ p (List.mem_cons_of_mem _ (List.mem_cons_of_mem _ (List.mem_cons_of_mem _ hp)))
        have hst₄ : h₄.IsListIter I ax (i + 1) ∧ h₄.IsList ax its := LCg.list_st _ _ _ _ _ hst₃ heI zI F₄.keep N₄' hS₄
        refine append_at (hsz := by show ys.toArray.size ≤ sizeLine; rw [List.size_toArray, hyl]; exact Nat.le_trans hi hsz) zD fun h₅ hs₅ hD₅ => ?_
        have off4 := off₄.mem
        refine ⟨its.size + 1 - (i + 1), by lia, h₅, tk₄, i + 1, ys ++ [y], _, news₄, rfl, hlt, rfl, by rw [List.length_append, List.length_singleton, hyl], W.frame _ _ _ hst₄ fun b hb o e => hs₅.extBut b o (fun q => hDf (q ▸ hb)) e, F₄.change hs₅ hDL hD₀,
          (hoC.ns zC).sameBut hs₅ (Ne.symm hDC), fun p hp => ?_, off₄, hS₄, hJ₄⟩
        rcases List.mem_cons.mp hp with rfl | hp
        · exact ⟨hD₅.trans (congrArg some (LCg.lst_snoc ys y)), hDL, hD₀⟩
        · exact ⟨hs₅.extBut _ _ (off4 p hp).2.2 (N₄' p hp).1, (N₄' p hp).2⟩
      · obtain rfl : i = its.size := Nat.le_antisymm hi (Nat.not_lt.mp hlt)
        refine W.done _ _ _ hst' fun h₂ tk₂ hk₂ => ?_
        have off3 := off'.mem
        exact hRR _ _ h₂ tk₂ _ ys news' (LCg.fr_but F' hk₂ hIL hI₀) (LCg.news_but N' hk₂ fun p hp => by
          rcases List.mem_cons.mp hp with rfl | hp
          · exact Ne.symm hDI
          · exact (off3 p hp).1) off'.one (hn'.at' fun o e => hk₂ _ o (by simpa using Ne.symm hCI) e) hC₀ hD₀ hCL hDL (Ne.symm hDC) (fun p hp => (off3 p hp).2.1) hJ'
    · rcases List.mem_cons.mp hp with rfl | hp
      · exact ⟨hacc, hDL, hD₀⟩
      · exact ⟨old _ _ (N p hp).1, (N p hp).2⟩
  exact codeAny_compStart_list (loop _ rfl) (W.self 0 _ _ _ hst₁ (loop _ rfl))
noncomputable def Src5 (w : World) (A : Around) (h₀ : Heap) (L : Addr) (m : Str → Option Value) (env : Env) (elt : Expr) (x1 x2 x3 x4 x5 : Str) (scope : Scope) (cl : List (Str × Addr)) (Q : Value → Shared → Prop) (xv : Value) (s₁ : Shared) : Prop :=
  ∃ ax its news J, xv = .ref ax ∧ A.handled = none ∧ Fr h₀ L s₁.heap m ∧ News h₀ L s₁.heap news ∧ LCg.SrcAt h₀ ax its news ∧ its.size ≤ sizeLine ∧ J 0 [] news ∧
    ∀ s₂ : Shared, (∃ h, s₂ = { s₁ with heap := h }) → Put5 h₀ L m A w scope cl env elt x1 x2 x3 x4 x5 ax its s₂ J ∧ ∀ ys news', J its.size ys news' → LCg.FinE h₀ L m s₂ Q ys news'
theorem comp5 {elt iter : Expr} {x1 x2 x3 x4 x5 : Str} {p1 p2 p3 p4 p5 tp : Pos} {tk} {scope : Scope} {cl : List (Str × Addr)} {pos : Pos} {Q : Value → Shared → Prop}
    (hclos : closureFor scope env = pure cl) (hcell : ∀ y ∈ scope.names, y.2 ≠ .cell) (hkind : scope.kind = .function)
    (hnames : ∀ y ∈ scope.names, y.2 = .local → scope.names.lookup y.1 = some .local) (hxs : ∀ x ∈ [x1, x2, x3, x4, x5], scope.names.lookup x = some .local) (hnd : [x1, x2, x3, x4, x5].Nodup)
    (h : wpAny (model pw w) A (eval iter env) (Src5 w A h₀ L m env elt x1 x2 x3 x4 x5 scope cl Q) E s)
    (hs : ∀ x, foldedSetIterable iter env x = pure x := by intro _; rfl) :
    wpAny (model pw w) A (eval (.ListComp elt [⟨.Tuple [.Name x1 p1, .Name x2 p2, .Name x3 p3, .Name x4 p4, .Name x5 p5] tk tp, iter, [], 0⟩] scope pos) env) Q E s := by
  rw [eval_ListComp]
  refine wpAny_comprehension_free (use := none) rfl hs hclos hkind hnames (wpAny_mono h (fun xv s₁ h₁ => ?_) fun _ _ e => e)
  obtain ⟨ax, its, news, J, rfl, hh, F, N, S, hsz, hJ, hR⟩ := h₁
  have hl := S.list F.keep N
  have hlt : ax < s₁.heap.objs.size := by obtain ⟨_, e, _⟩ := hl; exact Heap.lt_size e
  refine wpAny_pyIter_list hl ?_
  have up : ∀ b o, s₁.heap.get? b = some o → (s₁.heap.push { cls := .type "list_iterator", data := .fields #[.ref ax, .int 0 0] }).get? b = some o := fun b o e => Heap.get?_push_of_some _ e
  obtain ⟨step, fin⟩ := hR { s₁ with heap := s₁.heap.push { cls := .type "list_iterator", data := .fields #[.ref ax, .int 0 0] } } ⟨_, rfl⟩
  refine block5 hsz hcell hkind hxs hnd hh ⟨⟨_, Heap.get?_push_size _ rfl, rfl, rfl⟩, hl.push _⟩ (Nat.ne_of_lt hlt) (F.keeps up) (N.grown up) (Nat.ne_of_lt F.ns.lt) (next_is_new F) (fun p hp => Nat.ne_of_lt (Heap.lt_size (N p hp).1)) S hJ step ?_
  intro D C h tk m' ys news' F' N' o1 hn hC₀ hD₀ hCL hDL hCD offC hj
  refine ⟨m', hn, fun h'' hs'' => fin ys news' hj D h'' tk (F'.change hs'' hCL hC₀) (fun p hp => ⟨hs''.extBut _ _ ?_ (N' p hp).1, (N' p hp).2⟩) o1⟩
  rcases List.mem_cons.mp hp with rfl | hp
  · exact Ne.symm hCD
  · exact offC p hp
end
end Mine
end
section
open PySem PySem.W PyProof.Rows PySem.Calls PySem.Spec
set_option Elab.async false
set_option maxRecDepth 1000000
set_option maxHeartbeats 8000000
namespace Mine
noncomputable def Src5A (w : World) (A : Around) (h₀ : Heap) (L : Addr) (m : Str → Option Value) (env : Env) (elt : Expr) (x1 x2 x3 x4 x5 : Str) (scope : Scope) (cl : List (Str × Addr)) (y : Str) (Q : Flow → Shared → Prop) (xv : Value) (s₁ : Shared) : Prop :=
  ∃ ax its news J, xv = .ref ax ∧ A.handled = none ∧ Fr h₀ L s₁.heap m ∧ News h₀ L s₁.heap news ∧ LCg.SrcAt h₀ ax its news ∧ its.size ≤ sizeLine ∧ J 0 [] news ∧
    ∀ s₂ : Shared, (∃ h, s₂ = { s₁ with heap := h }) → Put5 h₀ L m A w scope cl env elt x1 x2 x3 x4 x5 ax its s₂ J ∧ ∀ ys news', J its.size ys news' → LCg.FinA h₀ L m s₂ y Q ys news'
/-- name = a comprehension whose target is a tuple of five names (the store is exchanged with the loop's) -/
theorem assign5 {w : World} {A : Around} {E : Value → Shared → Prop} {s : Shared} {h₀ : Heap} {L : Addr} {m : Str → Option Value} {env : Env} {elt iter : Expr} {x1 x2 x3 x4 x5 y : Str} {p1 p2 p3 p4 p5 tp py : Pos} {tk} {scope : Scope} {cl : List (Str × Addr)} {pos spos : Pos} {Q : Flow → Shared → Prop} (hLe : env.locals = L)
    (hsw : swapsWith (.ListComp elt [⟨.Tuple [.Name x1 p1, .Name x2 p2, .Name x3 p3, .Name x4 p4, .Name x5 p5] tk tp, iter, [], 0⟩] scope pos) (some (.Name y py)) spos.line env = pure true)
    (hclos : closureFor scope env = pure cl) (hcell : ∀ y ∈ scope.names, y.2 ≠ .cell) (hkind : scope.kind = .function)
    (hnames : ∀ y ∈ scope.names, y.2 = .local → scope.names.lookup y.1 = some .local) (hxs : ∀ x ∈ [x1, x2, x3, x4, x5], scope.names.lookup x = some .local) (hnd : [x1, x2, x3, x4, x5].Nodup)
    (hy : env.kindOf y = some .local) (hp : (env.scope.kind == .class || (env.scope.kind == .module && env.locals != env.globals)) = false)
    (h : wpAny (model pw w) A (eval iter env) (Src5A w A h₀ L m env elt x1 x2 x3 x4 x5 scope cl y Q) E s)
    (hs : ∀ x, foldedSetIterable iter env x = pure x := by intro _; rfl) :
    wpAny (model pw w) A (exec (.Assign [.Name y py] (.ListComp elt [⟨.Tuple [.Name x1 p1, .Name x2 p2, .Name x3 p3, .Name x4 p4, .Name x5 p5] tk tp, iter, [], 0⟩] scope pos) spos) env) Q E s := by
  subst hLe
  rw [exec_Assign_Name_used _ _ _ _ hsw]
  refine wpAny_bind (wpAny_standAt (wpAny_bind ?_))
  show wpAny _ A (do let _ ← comprehension (.ListComp elt [⟨.Tuple [.Name x1 p1, .Name x2 p2, .Name x3 p3, .Name x4 p4, .Name x5 p5] tk tp, iter, [], 0⟩] scope pos) scope env _ (newList []) false (eval iter env) (some (assign (.Name y py) env))) _ _ s
  refine wpAny_bind (wpAny_mono (wpAny_comprehension_free (use := some (assign (.Name y py) env)) (Q := fun _ s' => Q .next s') rfl hs hclos hkind hnames
    (wpAny_mono h (fun xv s₁ h₁ => ?_) fun _ _ e => e)) (fun _ s' hq => wpAny_pure (wpAny_pure hq)) fun _ _ e => e)
  obtain ⟨ax, its, news, J, rfl, hh, F, N, S, hsz, hJ, hR⟩ := h₁
  have hl := S.list F.keep N
  have hlt : ax < s₁.heap.objs.size := by obtain ⟨_, e, _⟩ := hl; exact Heap.lt_size e
  refine wpAny_pyIter_list hl ?_
  have up : ∀ b o, s₁.heap.get? b = some o → (s₁.heap.push { cls := .type "list_iterator", data := .fields #[.ref ax, .int 0 0] }).get? b = some o := fun b o e => Heap.get?_push_of_some _ e
  obtain ⟨step, fin⟩ := hR { s₁ with heap := s₁.heap.push { cls := .type "list_iterator", data := .fields #[.ref ax, .int 0 0] } } ⟨_, rfl⟩
  refine block5 hsz hcell hkind hxs hnd hh ⟨⟨_, Heap.get?_push_size _ rfl, rfl, rfl⟩, hl.push _⟩ (Nat.ne_of_lt hlt) (F.keeps up) (N.grown up) (Nat.ne_of_lt F.ns.lt) (next_is_new F) (fun p hp => Nat.ne_of_lt (Heap.lt_size (N p hp).1)) S hJ step ?_
  intro D C h' tk m' ys news' F' N' o1 hn hC₀ hD₀ hCL hDL hCD offC hj
  show wpAny _ A (assign (.Name y py) env (.ref D)) _ _ _
  refine wpAny_assign_Name (wpAny_storeName_local hy F'.ns (fun h₂ hn₂ hs₂ => ?_) hp)
  have hL₀ : h₀.get? env.locals = none := Heap.get?_none_of_le F'.above
  have F₂ : Fr h₀ env.locals h₂ (fun z => if z = y then some (.ref D) else m z) := ⟨hn₂, fun b o e => hs₂.extBut b o (fun q => by rw [q, hL₀] at e; cases e) (F'.keep b o e), F'.above⟩
  refine ⟨m', hn.sameBut hs₂ hCL, fun h'' hs'' => fin ys news' hj D h'' _ (F₂.change hs'' hCL hC₀) (fun p hp => ?_) o1⟩
  have z : h₂.get? p.1 = some p.2 := hs₂.extBut _ _ (N' p hp).2.1 (N' p hp).1
  refine ⟨hs''.extBut _ _ ?_ z, (N' p hp).2⟩
  rcases List.mem_cons.mp hp with rfl | hp
  · exact Ne.symm hCD
  · exact offC p hp
end Mine
end
section
open PySem PySem.W PyProof.Rows PySem.Calls PySem.Spec
set_option Elab.async false
set_option maxRecDepth 1000000
set_option maxHeartbeats 8000000
namespace Mine
theorem regL10 (P : Params) : K P = [] ∨ PySem.Challenge.rw_kl0396_01.name = PySem.Challenge.rw_kl0396_01.name := by
  k_fill
  exact .inr rfl
local macro_rules | `(tactic| walk_at $s:str) => stopAt "eval ListComp|Src5A|CompEnd" s
/-- a code, read from the other side -/
noncomputable def swG (p : Opc) : Opc := (if Str.ofString p.1 = Str.ofString "insert" then "delete" else p.1, p.2.2.2.1, p.2.2.2.2, p.2.1, p.2.2.1)
theorem on_get {nt : List (Addr × Obj)} {i : Nat} {v : Value} {rv : List Value} {rs : List Opc} (h : ON nt rv rs) (hv : rv[i]? = some v) : ∃ p a t0 t1 t2 t3 t4, rs[i]? = some p ∧ v = .ref a ∧ (a, opcO p t0 t1 t2 t3 t4) ∈ nt := by
  obtain ⟨p, hp, a, o, e, hm, t0, t1, t2, t3, t4, rfl⟩ := All2.at h hv
  exact ⟨p, a, t0, t1, t2, t3, t4, hp, e, hm⟩
theorem ON.more {r r' : List (Addr × Obj)} {l m} (h : ON r l m) (hs : ∀ p ∈ r, p ∈ r') : ON r' l m := h.imp fun _ _ h => h.imp fun _ h => h.imp fun _ h => ⟨h.1, hs _ h.2.1, h.2.2⟩
theorem all2_snoc {α β : Type} {R : α → β → Prop} {l : List α} {m : List β} {x : α} {y : β} (h : All2 R l m) (hx : R x y) : All2 R (l ++ [x]) (m ++ [y]) := forall2_join h (.cons hx .nil)
theorem off1_mem {D : Addr} : ∀ {l : List (Addr × Obj)}, LCg.Off1 D l → ∀ p ∈ l, p.1 ≠ D
  | [], _, _, h => nomatch h
  | q :: r, x, p, h => by
    rcases List.mem_cons.mp h with rfl | h
    · exact x.1
    · exact off1_mem x.2 p h
theorem law_s10 {w : World} {dp un : Nat} {fr : Option (List Env)} {gd : Option (List Code)} {s : Shared} {g : Heap} {mg mb : Str → Option Value} {L dl tl bk : Addr} {m : Str → Option Value} {R : List (Addr × Obj)} {dv : List Value} {cs : List Opc} {c : Nat} {Q : Flow → Shared → Prop}
    (X : (K w.params).In g) (T : TopRead q (looseW q loose) mg mb g) (hdl : (dl, listOf (List.toArray dv) c) ∈ R) (hON : ON R dv cs) (hn : cs.length < 1000)
    (hQ : ∀ h' tk m' gl gv c' nt, Fr g L h' m' → HasL m' [("due", .ref dl), ("told", .ref tl), ("back", .ref bk), ("gone", .ref gl)] → News g L h' ((gl, listOf (List.toArray gv) c') :: (nt ++ R)) → (∀ p ∈ R, p.1 ≠ gl) → ON nt gv (cs.map swG) → Q .next { s with heap := h', toks := tk })
    (F : Fr g L s.heap m) (hm : HasL m [("due", .ref dl), ("told", .ref tl), ("back", .ref bk)]) (N : News g L s.heap R) :
    wpAny (model pw w) ((AR dp un fr gd).deeper (lwEnv L)) (exec (lwSt 10) (lwEnv L)) Q (fun _ _ => False) s := by
  conv in exec _ _ => arg 1; whnf
  delta lwEnv
  conv in (occs := *) envX _ _ _ _ _ _ => all_goals (arg 2; whnf)
  have em := ov_of hm
  rw [em] at F
  have hrl : dv.length = cs.length := hON.len
  refine assign5 (h₀ := g) (L := L) (m := ov [("due", .ref dl), ("told", .ref tl), ("back", .ref bk)] m) rfl (by with_unfolding_all rfl) (by with_unfolding_all rfl) (by decide) (by rfl) (by decide) (by decide) (by decide) (by rfl) (by rfl) ?_
  k_steps
  refine Stop.intro ?_
  refine ⟨dl, List.toArray dv, R, fun i ys news => ∃ nt, news = nt ++ R ∧ ON nt ys ((cs.take i).map swG), rfl, rfl, F, N, .inr ⟨_, hdl, rfl, _, rfl⟩, by have : sizeLine = 16777216 := rfl; simp; lia, ⟨[], rfl, .nil⟩, ?_⟩
  rintro s₂ ⟨g2, rfl⟩
  refine ⟨fun i ys news v hi hJ hv => ?_, fun ys news' hJ => ?_⟩
  · clear F N
    obtain ⟨nt, rfl, hst⟩ := hJ
    obtain ⟨p, a, t0, t1, t2, t3, t4, hp, rfl, hma⟩ := on_get hON (show dv[i]? = some v by simpa using hv)
    refine ⟨a, _, _, _, _, _, _, _, rfl, List.mem_append.mpr (.inr hma), rfl, rfl, fun I oI C oC D m₂ h tk E' hC2 hx0 hx1 hx2 hx3 hx4 FF NN off ne => ?_⟩
    have fin : ∀ (D' : Addr) (t0 t1 t2 t3 t4 : Tok) (h' : Heap) (tk' : Nat) (b : Str), Str.ofString (swG p).1 = b → I < D' ∧ C < D' ∧ D < D' ∧ AllLt D' (nt ++ R) → Fr g L h' (ov [("due", .ref dl), ("told", .ref tl), ("back", .ref bk)] m) →
        News g L h' ((D', tupO #[.str b t0, .int p.2.2.2.1 t1, .int p.2.2.2.2 t2, .int p.2.1 t3, .int p.2.2.1 t4]) :: (I, oI) :: (C, oC) :: (D, LCg.lst ys) :: (nt ++ R)) →
        LCg.CompEnd g L (ov [("due", .ref dl), ("told", .ref tl), ("back", .ref bk)] m) { s with heap := h, toks := tk } I oI C oC D (LCg.lst ys) (LCg.SrcAt g dl (List.toArray dv)) (fun y news' => ∃ nt, news' = nt ++ R ∧ ON nt (ys ++ [y]) ((cs.take (i + 1)).map swG)) (.ref D') { s with heap := h', toks := tk' } := by
      rintro D' t0 t1 t2 t3 t4 h' tk' b rfl lt F' N'
      refine LCg.CompEnd.intro F' N' ((D', tupO #[.str (swG p).1 t0, .int p.2.2.2.1 t1, .int p.2.2.2.2 t2, .int p.2.1 t3, .int p.2.2.1 t4]) :: (nt ++ R)) (fun q hq => ?_) ⟨⟨Nat.ne_of_gt lt.1, Nat.ne_of_gt lt.2.1, Nat.ne_of_gt lt.2.2.1⟩, off⟩ (.inr ⟨_, .tail _ (List.mem_append.mpr (.inr hdl)), rfl, _, rfl⟩) ⟨_ :: nt, rfl, ?_⟩
      · simp only [List.mem_cons] at hq ⊢
        rcases hq with h | h | h | h | h <;> (repeat first | exact h | exact .inl h | exact .inl (.inl h) | exact .inl (.inr h) | refine .inr ?_)
      · rw [List.take_add_one, hp, List.map_append]
        exact all2_snoc (hst.more fun p hp => .tail _ hp) ⟨D', _, rfl, .head _, t0, t1, t2, t3, t4, rfl⟩
    k_steps
    · refine Stop.intro ?_
      rename (Str.ofString p.1 == Str.ofString "insert") = true => hins
      rename Fr _ _ _ _ => F4
      rename News _ _ _ _ => N4
      refine fin _ _ _ _ _ _ _ _ _ ?_ (by assumption) F4 N4
      have : Str.ofString p.1 = Str.ofString "insert" := by simpa using hins
      unfold swG
      rw [if_pos this]
    · refine Stop.intro ?_
      rename (Str.ofString p.1 == Str.ofString "insert") = false => hins
      rename Fr _ _ _ _ => F4
      rename News _ _ _ _ => N4
      refine fin _ _ _ _ _ _ _ _ _ ?_ (by assumption) F4 N4
      have : ¬ Str.ofString p.1 = Str.ofString "insert" := by simpa using hins
      unfold swG
      rw [if_neg this]
  · obtain ⟨nt, rfl, hst⟩ := hJ
    rw [List.size_toArray, hrl, List.take_length] at hst
    intro D h tk F3 N3 off3
    k_steps
    rename Fr _ _ _ _ => F4
    rename News _ _ _ _ => N4
    exact hQ _ _ _ D ys ys.length nt F4 ⟨rfl, rfl, rfl, rfl, trivial⟩ N4 (fun p hp => off1_mem off3 p (List.mem_append.mpr (.inr hp))) hst
end Mine
end
section
open PySem PySem.W PyProof.Rows PySem.Calls PySem.Spec
set_option Elab.async false
set_option maxRecDepth 1000000
set_option maxHeartbeats 8000000
namespace Mine
theorem regL11 (P : Params) : K P = [] ∨ PySem.Challenge.rw_kl0396_01.name = PySem.Challenge.rw_kl0396_01.name := by
  k_fill
  exact .inr rfl
local macro_rules | `(tactic| walk_at $s:str) => stopAt "compareOp Eq ref ref" s
local macro_rules | `(tactic| walk_at $s:str) => stopAt "no such line" s
noncomputable def opD (p : Opc) : Dat := .tuple [.str p.1, .int p.2.1, .int p.2.2.1, .int p.2.2.2.1, .int p.2.2.2.2]
theorem on_dat {nt : List (Addr × Obj)} {vs : List Value} {cs : List Opc} (H : ON nt vs cs) : DatAll nt vs (cs.map opD) := by
  delta ON at H
  induction H with
  | nil => exact .nil
  | cons hx _ ih =>
    obtain ⟨a, o, e, hm, t0, t1, t2, t3, t4, ho⟩ := hx
    rw [ho] at hm
    rw [e]
    exact .cons (.tuple hm (.cons (.str _ _) (.cons (.int _ _) (.cons (.int _ _) (.cons (.int _ _) (.cons (.int _ _) .nil)))))) ih
theorem eq_codes {w : World} {A : Around} {E : Value → Shared → Prop} {s : Shared} {g : Heap} {L a b : Addr} {R : List (Addr × Obj)} {xs ys : List Value} {k1 k2 : Nat} {cs : List Opc} {Q : Value → Shared → Prop} (N : News g L s.heap R) (ma : (a, listOf (List.toArray xs) k1) ∈ R) (mb : (b, listOf (List.toArray ys) k2) ∈ R)
    (hx : ON R xs cs) (hy : ON R ys cs) (ht : ∀ p ∈ cs, PyData.strOk (Str.ofString p.1) = true) (hu : A.units + 64 < cLine) (h : Q (.bool true) s) : wpAny (model pw w) A (compareOp .Eq (.ref a) (.ref b)) Q E s := by
  have hk : ∀ d ∈ cs.map opD, kqdOk 8 d = true := fun d hd => by
    obtain ⟨p, hp, rfl⟩ := List.mem_map.mp hd
    unfold opD
    simp only [kqdOk, List.all_cons, List.all_nil, ht p hp, Bool.and_true]
  refine kqd_eq N ma rfl rfl (on_dat hx) (fun _ h => h) mb rfl rfl (on_dat hy) (fun _ h => h) hk hk hu ?_
  refine Eq.mpr (congrArg (fun v => Q (.bool v) s) ?_) h
  exact @decide_eq_true _ (_) rfl
theorem law_s11 {w : World} {dp un : Nat} {fr : Option (List Env)} {gd : Option (List Code)} {s : Shared} {g : Heap} {mg mb : Str → Option Value} {L dl tl bk gl : Addr} {m : Str → Option Value} {R : List (Addr × Obj)} {dv tv bv gv : List Value} {cs cs' : List Opc} {c1 c2 c3 c4 : Nat} {Q : Flow → Shared → Prop}
    (X : (K w.params).In g) (T : TopRead q (looseW q loose) mg mb g) (hu : un < 100) (md : (dl, listOf (List.toArray dv) c1) ∈ R) (mt : (tl, listOf (List.toArray tv) c2) ∈ R) (mbk : (bk, listOf (List.toArray bv) c3) ∈ R) (mgl : (gl, listOf (List.toArray gv) c4) ∈ R)
    (hd : ON R dv cs) (ht : ON R tv cs) (hb : ON R bv cs') (hg : ON R gv cs') (h1 : ∀ p ∈ cs, PyData.strOk (Str.ofString p.1) = true) (h2 : ∀ p ∈ cs', PyData.strOk (Str.ofString p.1) = true)
    (hQ : ∀ h' tk m', Fr g L h' m' → News g L h' R → Q (.ret (.bool true)) { s with heap := h', toks := tk })
    (F : Fr g L s.heap m) (hm : HasL m [("due", .ref dl), ("told", .ref tl), ("back", .ref bk), ("gone", .ref gl)]) (N : News g L s.heap R) :
    wpAny (model pw w) ((AR dp un fr gd).deeper (lwEnv L)) (exec (lwSt 11) (lwEnv L)) Q (fun _ _ => False) s := by
  conv in exec _ _ => arg 1; whnf
  delta lwEnv
  conv in (occs := *) envX _ _ _ _ _ _ => all_goals (arg 2; whnf)
  have em := ov_of hm
  rw [em] at F
  k_steps
  refine Stop.intro ?_
  rename News _ _ _ _ => N1
  refine eq_codes N1 mt md ht hd h1 (by show un + _ + 64 < 9900; lia) ?_
  k_steps
  refine Stop.intro ?_
  rename News _ _ _ _ => N2
  refine eq_codes N2 mbk mgl hb hg h2 (by show un + _ + 64 < 9900; lia) ?_
  k_steps
  rename Fr _ _ _ _ => F3
  rename News _ _ _ _ => N3
  exact hQ _ _ _ F3 N3
end Mine
end
section
set_option maxRecDepth 100000
namespace Mine
open PySem PySem.W PyProof.Rows PySem.Calls PySem.Spec
/-! ## the plain law -/
theorem grp_ok : ∀ {rs : List (Str × Str)}, ∀ q ∈ (grp rs).2, ∃ p ∈ rs, q.1 = p.1 ∧ q.2.1 = p.2 ∧ 0 < q.2.2 ∧ ¬ blank p = true
  | [], q, h => nomatch h
  | p :: l, q, h => by
    rw [grp_cons] at h
    split at h
    · obtain ⟨p', hp, r⟩ := grp_ok q h
      exact ⟨p', .tail _ hp, r⟩
    · rename_i hb
      rcases List.mem_cons.mp h with rfl | h
      · exact ⟨p, .head _, rfl, rfl, Nat.succ_pos _, hb⟩
      · obtain ⟨p', hp, r⟩ := grp_ok q h
        exact ⟨p', .tail _ hp, r⟩
theorem grp_len : ∀ rs : List (Str × Str), (grp rs).2.length ≤ rs.length
  | [] => Nat.le_refl _
  | p :: l => by
    have := grp_len l
    rw [grp_cons]
    split <;> simp only [List.length_cons] <;> lia
structure Plain (T L : Str) (cs : List Opc) : Prop where
  fwd : ∀ bl, RecP T L jkc (0, T.cps.size, 0, L.cps.size) bl → 2 ≤ bl.length ∧ bl.length < 64 ∧ bl.Pairwise fun x y => x.1 < y.1
  bwd : ∀ bl, RecP L T jkc (0, L.cps.size, 0, T.cps.size) bl → 2 ≤ bl.length ∧ bl.length < 64 ∧ bl.Pairwise fun x y => x.1 < y.1
  told : ∀ bl, RecP T L jkc (0, T.cps.size, 0, L.cps.size) bl → opc 0 0 (mrg 0 0 0 bl ++ [(T.cps.size, L.cps.size, 0)]) = cs
  back : ∀ bl, RecP L T jkc (0, L.cps.size, 0, T.cps.size) bl → opc 0 0 (mrg 0 0 0 bl ++ [(L.cps.size, T.cps.size, 0)]) = cs.map swG
theorem codes_tag (size more : Nat) : ∀ (l : List Nat) (a b : Nat), ∀ p ∈ codesN size more a b l, p.1 = "equal" ∨ p.1 = "insert"
  | [], _, _, p, h => nomatch h
  | spot :: l, a, b, p, h => by
    simp only [codesN_cons, List.mem_append] at h
    rcases h with h | h | h
    · split at h
      · rw [List.mem_singleton.mp h]; exact .inl rfl
      · cases h
    · split at h
      · rw [List.mem_singleton.mp h]; exact .inr rfl
      · cases h
    · exact codes_tag size more l _ _ p h
theorem codes_len (size more : Nat) : ∀ (l : List Nat) (a b : Nat), (codesN size more a b l).length ≤ 2 * l.length
  | [], _, _ => Nat.le_refl _
  | spot :: l, a, b => by
    have := codes_len size more l spot (b + more)
    simp only [codesN_cons, List.length_append, List.length_cons]
    have h1 : (if a < spot then [(("equal", a, spot, a + b, spot + b) : Opc)] else []).length ≤ 1 := by split <;> simp
    have h2 : (if spot < size then [(("insert", spot, spot, spot + b, spot + b + more) : Opc)] else []).length ≤ 1 := by split <;> simp
    lia
theorem sw_eq {p : Opc} (h : p.1 = "equal" ∨ p.1 = "insert") : swO p = swG p := by
  obtain ⟨t, r⟩ := p
  rcases h with h | h <;> (have h : t = _ := h; subst h; unfold swO swG; congr 1)
theorem map_sw {cs : List Opc} (h : ∀ p ∈ cs, p.1 = "equal" ∨ p.1 = "insert") : cs.map swO = cs.map swG := List.map_congr_left fun p hp => sw_eq (h p hp)
theorem plain_law {p0 p1 : Str × Str} {rest : List (Str × Str)} {mr : Str} (hok : RowsOk (p0 :: p1 :: rest)) (h0 : ¬ p0.2 = "") (h1 : ¬ blank p1 = true) (hlen : (p0 :: p1 :: rest).length < 64) (hm : ∀ c ∈ mr.cps.toList, c = 32 ∨ c = 9) (hmp : 0 < mr.cps.size) :
    (spotsN (p0 :: p1 :: rest) mr (p0 :: p1 :: rest).length).2.1 = (cat ((p0 :: p1 :: rest).map lineS)).cps.size ∧
    Plain (cat ((p0 :: p1 :: rest).map lineS)) (cat ((p0 :: p1 :: rest).map (linM mr))) (codesN (spotsN (p0 :: p1 :: rest) mr (p0 :: p1 :: rest).length).2.1 mr.cps.size 0 0 ((spotsN (p0 :: p1 :: rest) mr (p0 :: p1 :: rest).length).1 ++ [(spotsN (p0 :: p1 :: rest) mr (p0 :: p1 :: rest).length).2.1])) := by
  have hb0 : ¬ blank p0 = true := fun e => h0 ((blank_iff p0).mp e).2
  have hgl := grp_len (p0 :: p1 :: rest)
  have hT := text_grp (p0 :: p1 :: rest)
  have hL := laid_grp mr (p0 :: p1 :: rest)
  obtain ⟨hs1, hs2⟩ := spots_list (p0 :: p1 :: rest) mr (p0 :: p1 :: rest).length 0 (Nat.zero_add _)
  have hsz := spL_size mr (p0 :: p1 :: rest) 0 0
  have hsg := spL_grp mr (p0 :: p1 :: rest) 0 0
  have hgo := @grp_ok (p0 :: p1 :: rest)
  have hz : (grp (p0 :: p1 :: rest)).1 = 0 := by rw [grp_cons, if_neg hb0]
  have hgs : ∃ f0 f1 gt, (grp (p0 :: p1 :: rest)).2 = (p0.1, p0.2, f0) :: (p1.1, p1.2, f1) :: gt := ⟨_, _, _, by rw [grp_cons, if_neg hb0, grp_cons, if_neg h1]⟩
  generalize (cat ((p0 :: p1 :: rest).map lineS)) = T at hT hsz ⊢
  generalize (cat ((p0 :: p1 :: rest).map (linM mr))) = L at hL ⊢
  rw [show (spotsN (p0 :: p1 :: rest) mr 0) = ([], 0, 0) from rfl, List.drop_zero] at hs1 hs2
  rw [hsz, Nat.zero_add] at hs2
  rw [hsg, hz, List.nil_append] at hs1
  rw [hs1, hs2]
  refine ⟨rfl, ?_⟩
  rw [hz, List.replicate_zero, List.nil_append] at hT hL
  have hgsl : (grp (p0 :: p1 :: rest)).2.length < 64 := by lia
  generalize (grp (p0 :: p1 :: rest)).2 = gs at *
  have hG : GOk gs mr := by
    refine ⟨fun q hq c hc => ?_, fun q hq c hc => ?_, fun q hq => ?_, fun q hq ⟨e1, e2⟩ => ?_, ?_, hm, hmp⟩
    · obtain ⟨p, hp, e1, e2, _⟩ := hgo q hq
      exact (hok p hp).1 c (e1 ▸ hc)
    · obtain ⟨p, hp, e1, e2, _⟩ := hgo q hq
      exact (hok p hp).2.1 c (e2 ▸ hc)
    · obtain ⟨p, hp, e1, e2, e3, _⟩ := hgo q hq
      exact e3
    · obtain ⟨p, hp, a1, a2, a3, a4⟩ := hgo q hq
      exact a4 ((blank_iff p).mpr ⟨a1 ▸ e1, a2 ▸ e2⟩)
    · obtain ⟨f0, f1, gt, e⟩ := hgs
      rw [e]; exact List.cons_ne_nil _ _
  have lay := lay_grp hG hT hL
  have hn2 : 2 ≤ gs.length := by
    obtain ⟨f0, f1, gt, e⟩ := hgs
    rw [e]; simp only [List.length_cons]; lia
  have hmu : ∀ r, r < gs.length → qM gs mr r = 0 ∨ qM gs mr r = mr.cps.size := fun r _ => by unfold qM; split <;> simp
  have hmu0 : 0 < qM gs mr 0 := by
    obtain ⟨f0, f1, gt, e⟩ := hgs
    unfold qM qq
    rw [e, if_neg (by exact h0)]
    exact hmp
  have hsp : spG mr gs (0 + 0) 0 = spR gs.length (qC gs) (qM gs mr) (qT gs) (qF gs mr) 0 gs.length := spG_spR hG gs.length 0 (Nat.zero_add _)
  have hcod := lay.codes hmu hmu0
  rw [← hsp] at hcod
  have hpw : (List.range' 0 gs.length).Pairwise (· < ·) := List.pairwise_lt_range'
  refine ⟨fun bl hr => ?_, fun bl hr => ?_, fun bl hr => ?_, fun bl hr => ?_⟩
  · rw [lay.blocks bl hr]
    refine ⟨by simpa using hn2, by simpa using hgsl, List.pairwise_map.mpr (hpw.imp_of_mem fun {a b} ha hb hab => ?_)⟩
    have hb2 := List.mem_range'_1.mp hb
    exact (lay.rise hab (by lia)).1
  · rw [lay.blocks' bl hr]
    refine ⟨by simpa using hn2, by simpa using hgsl, List.pairwise_map.mpr (hpw.imp_of_mem fun {a b} ha hb hab => ?_)⟩
    have hb2 := List.mem_range'_1.mp hb
    exact (lay.rise hab (by lia)).2
  · rw [lay.blocks bl hr]
    exact hcod
  · rw [lay.blocks' bl hr]
    have e1 : (List.range' 0 gs.length).map (fun r => swB (blkT gs.length (qC gs) (qM gs mr) (qT gs) (qL gs mr) (qF gs mr) r)) = ((List.range' 0 gs.length).map (blkT gs.length (qC gs) (qM gs mr) (qT gs) (qL gs mr) (qF gs mr))).map swB := by rw [List.map_map]; rfl
    rw [e1, mrg_swap]
    have e2 : ∀ l : List Blk, l.map swB ++ [(L.cps.size, T.cps.size, 0)] = (l ++ [(T.cps.size, L.cps.size, 0)]).map swB := fun l => by rw [List.map_append]; rfl
    rw [e2, opc_swap, hcod]
    exact map_sw (codes_tag _ _ _ _ _)
/-! ## what the script's numbers lay out -/
theorem oS_chars (d : Nat) : (∀ c ∈ (oS d).cps.toList, c = 32 ∨ c = 9) ∧ (oS d).cps.size ≤ 1 := by
  unfold oS
  split
  · exact ⟨fun c h => (List.not_mem_nil h).elim, Nat.zero_le _⟩
  · split
    · exact ⟨fun c h => .inl (List.mem_singleton.mp h), Nat.le_refl _⟩
    · exact ⟨fun c h => .inr (List.mem_singleton.mp h), Nat.le_refl _⟩
theorem wS_chars (d : Nat) : (∀ c ∈ (wS d).cps.toList, c = 97 ∨ c = 98) ∧ (wS d).cps.size ≤ 1 := by
  unfold wS
  split
  · exact ⟨fun c h => (List.not_mem_nil h).elim, Nat.zero_le _⟩
  · split
    · exact ⟨fun c h => .inl (List.mem_singleton.mp h), Nat.le_refl _⟩
    · exact ⟨fun c h => .inr (List.mem_singleton.mp h), Nat.le_refl _⟩
theorem mS_chars (d : Nat) : ∀ c ∈ (mS d).cps.toList, c = 32 ∨ c = 9 := by
  unfold mS
  split
  · exact fun c h => .inl (List.mem_singleton.mp h)
  · exact fun c h => .inr (List.mem_singleton.mp h)
theorem cat_chars {ss : List Str} {P : Nat → Prop} (h : ∀ s ∈ ss, ∀ c ∈ s.cps.toList, P c) : ∀ c ∈ (cat ss).cps.toList, P c := fun c hc => by
  rw [cat_list] at hc
  obtain ⟨s, hs, hc⟩ := List.mem_flatMap.mp hc
  exact h s hs c hc
theorem rows_ok (zs : List Int) : RowsOk (rowsOf zs) := by
  intro p hp
  obtain ⟨z, _, rfl⟩ := List.mem_map.mp hp
  refine ⟨cat_chars fun s hs => ?_, cat_chars fun s hs => ?_, ?_, ?_⟩
  · obtain ⟨j, _, rfl⟩ := List.mem_map.mp hs
    exact (oS_chars _).1
  · obtain ⟨j, _, rfl⟩ := List.mem_map.mp hs
    exact (wS_chars _).1
  · have := cat_le (ss := (List.range 3).map fun j => oS (dg z j)) (b := 1) fun r hr => by
      obtain ⟨j, _, rfl⟩ := List.mem_map.mp hr
      exact (oS_chars _).2
    rw [List.length_map, List.length_range] at this
    exact this
  · have := cat_le (ss := (List.range 3).map fun j => wS (dg z (3 + j))) (b := 1) fun r hr => by
      obtain ⟨j, _, rfl⟩ := List.mem_map.mp hr
      exact (wS_chars _).2
    rw [List.length_map, List.length_range] at this
    exact this
theorem mar_ok (z : Int) : (∀ c ∈ (marS z).cps.toList, c = 32 ∨ c = 9) ∧ 0 < (marS z).cps.size ∧ (marS z).cps.size ≤ 3 := by
  obtain ⟨_, h1, h2⟩ := mN_int z
  have hs : (marS z).cps.size = mN z := by
    show (marS z).length = _
    unfold marS
    rw [cat_size, List.map_map, show ((fun r : Str => r.cps.size) ∘ fun j => mS (d2 z j)) = fun _ => 1 from funext fun j => mS_len _, List.map_const', List.sum_replicate_nat, List.length_range, Nat.mul_one]
  refine ⟨cat_chars fun s hs => ?_, by lia, by lia⟩
  obtain ⟨j, _, rfl⟩ := List.mem_map.mp hs
  exact mS_chars _
theorem rows_len (zs : List Int) : (rowsOf zs).length ≤ 8 := by
  unfold rowsOf
  rw [List.length_map, List.length_append, List.length_take]
  simp only [List.length_cons, List.length_nil]
  lia
theorem rows_head (zs : List Int) : ∃ p0 p1 rest, rowsOf zs = p0 :: p1 :: rest ∧ ¬ p0.2 = "" ∧ ¬ blank p1 = true := by
  refine ⟨_, _, _, rfl, ?_, ?_⟩
  · show ¬ wordS 41 = ""
    decide +kernel
  · show ¬ blank (ownS 3, wordS 3) = true
    decide +kernel
theorem sp_facts : Unicode.isSpace 32 = true ∧ Unicode.isSpace 9 = true ∧ Unicode.isSpace 10 = true ∧ Unicode.isSpace 97 = false ∧ Unicode.isSpace 98 = false := by decide +kernel
theorem line_space {p : Str × Str} (h1 : ∀ c ∈ p.1.cps.toList, c = 32 ∨ c = 9) (h2 : ∀ c ∈ p.2.cps.toList, c = 97 ∨ c = 98) : Txt.isspace (lineS p) = true ↔ p.2 = "" := by
  obtain ⟨a, b, d, e, f⟩ := sp_facts
  unfold Txt.isspace
  rw [Bool.and_eq_true, ← Array.all_toList, line_list, line_size]
  rw [List.all_append, List.all_append]
  constructor
  · rintro ⟨_, h⟩
    simp only [Bool.and_eq_true] at h
    rw [str_nil]
    refine Nat.eq_zero_of_not_pos fun hpos => ?_
    have hm : p.2.cps.toList[0]'(by rw [Array.length_toList]; exact hpos) ∈ p.2.cps.toList := List.getElem_mem _
    have := List.all_eq_true.mp h.2.1 _ hm
    rcases h2 _ hm with e2 | e2 <;> (rw [e2] at this; simp_all)
  · intro h
    refine ⟨decide_eq_true (by lia), ?_⟩
    rw [h]
    simp only [Bool.and_eq_true]
    refine ⟨List.all_eq_true.mpr fun c hc => ?_, rfl, ?_⟩
    · rcases h1 c hc with rfl | rfl <;> assumption
    · simp [d]
theorem ind_law {mr : Str} : ∀ {rs : List (Str × Str)}, RowsOk rs → cat ((rs.map lineS).flatMap (indS mr)) = cat (rs.map (linM mr)) := by
  intro rs hok
  have : (cat ((rs.map lineS).flatMap (indS mr))).cps.toList = (cat (rs.map (linM mr))).cps.toList := by
    rw [cat_list, cat_list]
    induction rs with
    | nil => rfl
    | cons p l ih =>
      have hp := hok p (.head _)
      rw [List.map_cons, List.map_cons, List.flatMap_cons, List.flatMap_append, List.flatMap_cons, ih fun q hq => hok q (.tail _ hq)]
      congr 1
      rw [linM_list]
      unfold indS
      by_cases h : p.2 = ""
      · rw [if_pos ((line_space hp.1 hp.2.1).mpr h), if_pos h, List.flatMap_cons, List.flatMap_nil, line_list]; simp
      · rw [if_neg fun e => h ((line_space hp.1 hp.2.1).mp e), if_neg h, List.flatMap_cons, List.flatMap_cons, List.flatMap_nil, line_list]; simp
  have h2 : ∀ {x y : Str}, x.cps.toList = y.cps.toList → x = y := fun {x y} h => by
    obtain ⟨a⟩ := x; obtain ⟨b⟩ := y
    exact congrArg _ (Array.toList_inj.mp h)
  exact h2 this
theorem text_small {rs : List (Str × Str)} {mr : Str} (hok : RowsOk rs) (hn : rs.length ≤ 8) (hm : mr.cps.size ≤ 3) : (cat (rs.map lineS)).cps.size < 400 ∧ (cat (rs.map (linM mr))).cps.size < 400 := by
  constructor
  · have : (cat (rs.map lineS)).length ≤ (rs.map lineS).length * 7 := cat_le fun r hr => by
      obtain ⟨p, hp, rfl⟩ := List.mem_map.mp hr
      have := hok p hp
      rw [line_size]; lia
    rw [List.length_map] at this
    have : (cat (rs.map lineS)).cps.size ≤ rs.length * 7 := this
    lia
  · have : (cat (rs.map (linM mr))).length ≤ (rs.map (linM mr)).length * 10 := cat_le fun r hr => by
      obtain ⟨p, hp, rfl⟩ := List.mem_map.mp hr
      have h3 := hok p hp
      have e : (linM mr p).length = (linM mr p).cps.toList.length := (Array.length_toList).symm
      rw [e, linM_list]
      simp only [List.length_append, Array.length_toList, List.length_cons, List.length_nil]
      have : (if p.2 = ("" : Str) then ([] : List Nat) else mr.cps.toList).length ≤ 3 := by split <;> simp [hm]
      lia
    rw [List.length_map] at this
    have : (cat (rs.map (linM mr))).cps.size ≤ rs.length * 10 := this
    lia
theorem laid_ascii {rs : List (Str × Str)} {mr : Str} (hok : RowsOk rs) (hm : ∀ c ∈ mr.cps.toList, c = 32 ∨ c = 9) : (cat (rs.map (linM mr))).cps.all (· < 128) = true := by
  rw [← Array.all_toList]
  refine List.all_eq_true.mpr (cat_chars (P := fun c => decide (c < 128) = true) fun s hs c hc => ?_)
  obtain ⟨p, hp, rfl⟩ := List.mem_map.mp hs
  rw [linM_list] at hc
  have h3 := hok p hp
  simp only [List.mem_append, List.mem_singleton] at hc
  rcases hc with hc | hc | hc | hc
  · split at hc
    · cases hc
    · rcases hm c hc with rfl | rfl <;> rfl
  · rcases h3.1 c hc with rfl | rfl <;> rfl
  · rcases h3.2.1 c hc with rfl | rfl <;> rfl
  · rw [hc]; rfl
theorem tag_ok {p : Opc} (h : p.1 = "equal" ∨ p.1 = "insert") : PyData.strOk (Str.ofString p.1) = true ∧ PyData.strOk (Str.ofString (swG p).1) = true := by
  have e1 : PyData.strOk (Str.ofString "equal") = true := by decide +kernel
  have e2 : PyData.strOk (Str.ofString "insert") = true := by decide +kernel
  have e3 : PyData.strOk (Str.ofString "delete") = true := by decide +kernel
  obtain ⟨t, r⟩ := p
  rcases h with h | h <;> (have h : t = _ := h; subst h)
  · exact ⟨e1, e1⟩
  · exact ⟨e2, e3⟩
end Mine
end
section
open PySem PySem.W PyProof.Rows PySem.Calls PySem.Spec
set_option Elab.async false
set_option maxRecDepth 1000000
set_option maxHeartbeats 8000000
namespace Mine
theorem regL6 (P : Params) : K P = [] ∨ PySem.Challenge.rw_kl0396_01.name = PySem.Challenge.rw_kl0396_01.name := by
  k_fill
  exact .inr rfl
local macro_rules | `(tactic| walk_at $s:str) => stopAt "eval ListComp|SrcStr|CompEnd|call builtin:str.join|call ref" s
noncomputable def SrcStr (w : World) (A : Around) (h₀ : Heap) (L : Addr) (m : Str → Option Value) (env : Env) (ct elt : Expr) (x : Str) (scope : Scope) (cl : List (Str × Addr)) (Fin : Shared → List Value → List (Addr × Obj) → Prop) (xv : Value) (s₁ : Shared) : Prop :=
  ∃ y t news, xv = .str y t ∧ y.cps.all (· < 128) = true ∧ A.handled = none ∧ Fr h₀ L s₁.heap m ∧ News h₀ L s₁.heap news ∧ y.cps.size ≤ sizeLine ∧
    ∀ s₂ : Shared, (∃ h, s₂ = { s₁ with heap := h }) → LCt.CompRestT pw w A h₀ L m env ct elt x scope cl s₂ (fun _ => True) (SignAt y) (Fin s₂) y.cps.size 0 [] news
theorem compStr {w : World} {A : Around} {E : Value → Shared → Prop} {s : Shared} {h₀ : Heap} {L : Addr} {m : Str → Option Value} {env : Env} {ct elt iter : Expr} {x : Str} {px : Pos} {scope : Scope} {cl : List (Str × Addr)} {pos : Pos} {Q : Value → Shared → Prop}
    (hclos : closureFor scope env = pure cl) (hcell : ∀ y ∈ scope.names, y.2 ≠ .cell) (hkind : scope.kind = .function)
    (hnames : ∀ y ∈ scope.names, y.2 = .local → scope.names.lookup y.1 = some .local) (hx : scope.names.lookup x = some .local)
    (h : wpAny (model pw w) A (eval iter env) (SrcStr w A h₀ L m env ct elt x scope cl (fun s₂ => LCg.FinE h₀ L m s₂ Q)) E s)
    (hs : ∀ x, foldedSetIterable iter env x = pure x := by intro _; rfl) :
    wpAny (model pw w) A (eval (.ListComp elt [⟨.Name x px, iter, [ct], 0⟩] scope pos) env) Q E s := by
  rw [eval_ListComp]
  refine wpAny_comprehension_free (use := none) rfl hs hclos hkind hnames (wpAny_mono h (fun xv s₁ h₁ => ?_) fun _ _ e => e)
  obtain ⟨y, t, news, rfl, ha, hh, F, N, hsz, R⟩ := h₁
  refine wpAny_pyIter_ascii ha ?_
  refine LCt.block_T (Walks.strAscii hh s₁.heap.objs.size y t) hsz (fun i h st => ?_) (fun i h h' o nw st e e' _ _ _ => ?_) hcell hkind hx ⟨_, Heap.get?_push_size _ rfl, rfl, rfl⟩ (fun b hb => ?_)
    (F.keeps fun _ _ e => Heap.get?_push_of_some _ e) (N.grown fun _ _ e => Heap.get?_push_of_some _ e) (Nat.ne_of_lt F.ns.lt) (next_is_new F) (fun p hp => Nat.ne_of_lt (Heap.lt_size (N p hp).1)) trivial (R _ ⟨_, rfl⟩) ?_
  · obtain ⟨o, ho, _⟩ := st
    exact ⟨o, ho⟩
  · obtain ⟨o1, ho1, r⟩ := st
    rw [e] at ho1; cases ho1
    exact ⟨o, e', r⟩
  · rw [List.mem_singleton.mp hb]
    show s₁.heap.objs.size < (s₁.heap.push _).objs.size
    rw [Heap.size_push]; exact Nat.lt_succ_self _
  · intro D C h tk m' ys news' F' N' o1 hn hC₀ hD₀ hCL hDL hCD offC fin
    refine ⟨m', hn, fun h'' hs'' => fin D h'' tk (F'.change hs'' hCL hC₀) (fun p hp => ⟨hs''.extBut _ _ ?_ (N' p hp).1, (N' p hp).2⟩) o1⟩
    rcases List.mem_cons.mp hp with rfl | hp
    · exact hCD.symm
    · exact offC p hp
theorem restT_of {w : World} {A : Around} {h₀ : Heap} {L : Addr} {m : Str → Option Value} {env : Env} {ct elt : Expr} {x : Str} {scope : Scope} {cl : List (Str × Addr)} {s : Shared} {P : Nat → Value → Prop} {Fin : List Value → List (Addr × Obj) → Prop} {n : Nat} {news : List (Addr × Obj)}
    (step : ∀ i v I oI C oC D m₂ h tk (E' : Value → Shared → Prop), i < n → P i v → LCg.NsObj oC m₂ → m₂ x = some v → Fr h₀ L h m → News h₀ L h ((I, oI) :: (C, oC) :: (D, LCg.lst []) :: news) → LCg.Off3 I C D news → ((@Ne Nat I C) ∧ (@Ne Nat I D) ∧ (@Ne Nat C D)) →
      wpAny (model pw w) A (isTrue ct (compEnvC scope cl C env) (eval ct (compEnvC scope cl C env))) (fun ok s' => ok = false ∧ ∃ h' tk', s' = { s with heap := h', toks := tk' } ∧ Fr h₀ L h' m ∧ News h₀ L h' ((I, oI) :: (C, oC) :: (D, LCg.lst []) :: news)) E' { s with heap := h, toks := tk })
    (fin : Fin [] news) : ∀ k i, i + k = n → LCt.CompRestT pw w A h₀ L m env ct elt x scope cl s (fun _ => True) P Fin k i [] news
  | 0, i, hk => LCt.CompRestT.zero fin
  | k + 1, i, hk => LCt.CompRestT.succ fun v I oI C oC D m₂ h tk E' hP hC hx F N off ne =>
    wpAny_mono (step i v I oI C oC D m₂ h tk E' (by lia) hP hC hx F N off ne) (fun ok s₂ hE => by
      obtain ⟨rfl, h', tk', rfl, F', N'⟩ := hE
      rw [if_neg Bool.false_ne_true]
      exact LCg.CompEnd.intro F' N' news (fun q hq => hq) off trivial (restT_of step fin k (i + 1) (by lia))) fun _ _ e => e
theorem any_ws (cc : Nat) : ([Str.ofString " ", Str.ofString "\t"].any fun x => x == (⟨#[cc]⟩ : Str)) = jkc cc := by
  have h1 : (Str.ofString " " == (⟨#[cc]⟩ : Str)) = (cc == 32) := by
    rw [Bool.eq_iff_iff, beq_iff_eq, beq_iff_eq]
    constructor
    · intro h
      have h2 : (⟨#[32]⟩ : Str) = ⟨#[cc]⟩ := h
      simp at h2
      exact h2.symm
    · rintro rfl; rfl
  have h2 : (Str.ofString "\t" == (⟨#[cc]⟩ : Str)) = (cc == 9) := by
    rw [Bool.eq_iff_iff, beq_iff_eq, beq_iff_eq]
    constructor
    · intro h
      have h2 : (⟨#[9]⟩ : Str) = ⟨#[cc]⟩ := h
      simp at h2
      exact h2.symm
    · rintro rfl; rfl
  simp only [List.any_cons, List.any_nil, h1, h2, Bool.or_false]
  rfl
theorem law_s5 {w : World} {dp un : Nat} {fr : Option (List Env)} {gd : Option (List Code)} {s : Shared} {g : Heap} {mg mb : Str → Option Value} {L rl : Addr} {m : Str → Option Value} {R : List (Addr × Obj)} {tx ld : Str} {ul ut : Tok} {Q : Flow → Shared → Prop}
    (X : (K w.params).In g) (T : TopRead q (looseW q loose) mg mb g) (hd : dp < 380) (hu : un < 100) (ha : ld.cps.all (· < 128) = true) (hsz : ld.cps.size < 1000)
    (hQ : ∀ h' tk m', Fr g L h' m' → HasL m' [("rows", .ref rl), ("text", .str tx ut), ("laid", .str ld ul)] → News g L h' R → Q .next { s with heap := h', toks := tk })
    (F : Fr g L s.heap m) (hm : HasL m [("rows", .ref rl), ("text", .str tx ut), ("laid", .str ld ul)]) (N : News g L s.heap R) :
    wpAny (model pw w) ((AR dp un fr gd).deeper (lwEnv L)) (exec (lwSt 5) (lwEnv L)) Q (fun _ _ => False) s := by
  conv in exec _ _ => arg 1; whnf
  delta lwEnv
  conv in (occs := *) envX _ _ _ _ _ _ => all_goals (arg 2; whnf)
  have em := ov_of hm
  rw [em] at F
  k_steps
  refine Stop.intro ?_
  refine compStr (h₀ := g) (L := L) (m := ov [("rows", .ref rl), ("text", .str tx ut), ("laid", .str ld ul)] m) (by with_unfolding_all rfl) (by decide) (by rfl) (by decide) (by rfl) ?_
  k_steps
  refine Stop.intro ?_
  refine ⟨ld, ul, R, rfl, ha, rfl, F, N, by have : sizeLine = 16777216 := rfl; lia, ?_⟩
  rintro s₂ ⟨g2, rfl⟩
  refine restT_of (fun i v I oI C oC D m₂ h tk E' hi hP hC2 hx FF NN off ne => ?_) ?_ ld.cps.size 0 (Nat.zero_add _)
  · clear F N
    obtain ⟨cc, u, hcc, rfl⟩ := hP
    k_steps
    refine Stop.intro ?_
    refine wpAny_call ?_
    show codeAny _ (AR _ _ _ _) _ _ _
    rename Fr _ _ _ _ => FF
    rename News _ _ _ _ => NN
    refine junk FF.keep X T (by show dp + 1 < 500; lia) fun h3 tk3 hk3 => ?_
    have F3 := Fr.kept FF hk3
    have N3 := News.grown NN hk3
    clear FF NN
    k_steps
    · show (jkc cc != _) = false
      rw [any_ws]
      exact bne_self_eq_false (jkc cc)
    · rename Fr _ _ _ _ => F4
      exact F4
    · rename News _ _ _ _ => N4
      exact News.sub N4 fun p hp => .tail _ hp
  · intro D h tk F3 N3 off3
    k_steps
    rename Fr _ _ _ _ => F4
    rename News _ _ _ _ => N4
    exact hQ _ _ _ F4 ⟨rfl, rfl, rfl, trivial⟩ (News.sub N4 fun p hp => .tail _ (.tail _ hp))
end Mine
end
section
open PySem PySem.W PyProof.Rows PySem.Calls PySem.Spec
set_option Elab.async false
set_option maxRecDepth 1000000
set_option maxHeartbeats 8000000
namespace Mine
theorem regL8 (P : Params) : K P = [] ∨ PySem.Challenge.rw_kl0396_01.name = PySem.Challenge.rw_kl0396_01.name := by
  k_fill
  exact .inr rfl
local macro_rules | `(tactic| walk_at $s:str) => stopAt "eval ListComp" s
local macro_rules | `(tactic| walk_at $s:str) => stopAt "SrcLP|CompEnd|call builtin:str.join|call ref|pyIter ref" s
theorem SetOf_on {prog : Program} {w : World} {K : Type} [DecidableEq K] {knd : KeyKind prog w K} {h h' : Heap} {a : Addr} {S : K → Bool} {n : Nat} (x : h.SetOf knd a S n) (hk : ∀ o, h.get? a = some o → h'.get? a = some o) : h'.SetOf knd a S n := by
  obtain ⟨o, es, ep, tb, ho, r⟩ := x
  exact ⟨o, es, ep, tb, hk _ ho, r⟩
theorem B2J_on {w : World} {h h' : Heap} {db : Addr} {b : Str} {jk : Nat → Bool} (x : B2J w h db b jk) (hk : ∀ o, h.get? db = some o → h'.get? db = some o) (hl : ∀ a o, h.get? a = some o → o.cls = .type "list" → h'.get? a = some o) : B2J w h' db b jk := by
  obtain ⟨h1, f, hf, hc⟩ := x
  refine ⟨h1, f, ?_, fun c => ?_⟩
  · obtain ⟨o, es, ep, ho, r⟩ := hf
    exact ⟨o, es, ep, hk _ ho, r⟩
  · rcases hc c with ⟨h2, l, vs, h3, ⟨o, ho, hcl, r⟩, h5⟩ | h2
    · exact .inl ⟨h2, l, vs, h3, ⟨o, hl _ _ ho hcl, hcl, r⟩, h5⟩
    · exact .inr h2
theorem law_s8 {w : World} {dp un : Nat} {fr : Option (List Env)} {gd : Option (List Code)} {s : Shared} {g : Heap} {mg mb : Str → Option Value} {L dl : Addr} {m : Str → Option Value} {R : List (Addr × Obj)} {ld : Str} {ul ut : Tok} {tx : Str} {Q : Flow → Shared → Prop}
    (X : (K w.params).In g) (T : TopRead q (looseW q loose) mg mb g) (hd : dp < 380) (hu : un < 100) (ha : tx.cps.size < 400) (hb : ld.cps.size < 400)
    (hbl : ∀ bl, RecP tx ld jkc (0, tx.cps.size, 0, ld.cps.size) bl → 2 ≤ bl.length ∧ bl.length < 64 ∧ bl.Pairwise fun x y => x.1 < y.1)
    (hQ : ∀ h' tk dr m' A av c' nt bl, Fr g L h' m' → HasL m' [("text", .str tx ut), ("laid", .str ld ul), ("due", .ref dl), ("told", .ref A)] → News g L h' (R ++ (A, listOf (List.toArray av) c') :: nt) → (∀ r ∈ (A, listOf (List.toArray av) c') :: nt, ∀ p ∈ R, p.1 ≠ r.1) →
      RecP tx ld jkc (0, tx.cps.size, 0, ld.cps.size) bl → ON nt av (opc 0 0 (mrg 0 0 0 bl ++ [(tx.cps.size, ld.cps.size, 0)])) → Q .next { s with heap := h', toks := tk, drawn := dr })
    (F : Fr g L s.heap m) (hm : HasL m [("text", .str tx ut), ("laid", .str ld ul), ("due", .ref dl)]) (N : News g L s.heap R) :
    wpAny (model pw w) ((AR dp un fr gd).deeper (lwEnv L)) (exec (lwSt 8) (lwEnv L)) Q (fun _ _ => False) s := by
  conv in exec _ _ => arg 1; whnf
  delta lwEnv
  conv in (occs := *) envX _ _ _ _ _ _ => all_goals (arg 2; whnf)
  have em := ov_of hm
  rw [em] at F
  k_steps
  refine Stop.intro ?_
  refine wpAny_call ?_
  rename Fr _ _ _ _ => F1
  rename News _ _ _ _ => N1
  refine make_K (fI := 160) F1 N1 (X.keeps F1.keep) (by k_is) (by k_is) (by k_is) fun x dx h2 F2 N2 hlt2 hxd => ?_
  clear F1 N1
  show codeAny _ (AR _ _ _ _) _ _ _
  have hxL : x ≠ L := (N2 _ (.head _)).2.1
  have hdL : dx ≠ L := (N2 _ (.tail _ (.head _))).2.1
  have hgx : g.get? x = none := (N2 _ (.head _)).2.2
  have hgd : g.get? dx = none := (N2 _ (.tail _ (.head _))).2.2
  have hRx : ∀ p ∈ R, p.1 ≠ x ∧ p.1 ≠ dx := fun p hp => ⟨Nat.ne_of_lt (Nat.lt_trans (hlt2 p hp) hxd), Nat.ne_of_lt (hlt2 p hp)⟩
  refine init (x := x) (dx := dx) (a := tx) (b := ld) F2.keep X T (fun r hr => ?_) (by show dp + 1 + 1 < 395; lia) hb fun h3 tk3 dr k' d sj bp es ep t S sn hk3 hx3 hd3 hdd hB hs hS hjk => ?_
  · rcases List.mem_cons.mp hr with rfl | hr
    · exact ⟨(N2 _ (.head _)).1, hgx⟩
    · rw [List.mem_singleton.mp hr]; exact ⟨(N2 _ (.tail _ (.head _))).1, hgd⟩
  have F3 : Fr g L h3 _ := ⟨F2.ns.at' fun o e => hk3 L o hxL.symm hdL.symm e, fun b o e => hk3 b o (by rintro rfl; rw [hgx] at e; cases e) (by rintro rfl; rw [hgd] at e; cases e) (F2.keep b o e), F2.above⟩
  have N3 : News g L h3 ((x, instObj 242 dx) :: (dx, dictOf (smEs w.params k' (.ref 254) tx ld ut ul (.bool false) .none .none (.ref d) (.ref sj) bp) 10) :: R) := fun r hr => by
    rcases List.mem_cons.mp hr with rfl | hr
    · exact ⟨hx3, hxL, hgx⟩
    · rcases List.mem_cons.mp hr with rfl | hr
      · exact ⟨hd3, hdL, hgd⟩
      · exact ⟨hk3 _ _ (hRx r hr).1 (hRx r hr).2 (N2 r (.tail _ (.tail _ hr))).1, (N2 r (.tail _ (.tail _ hr))).2⟩
  clear F2 N2
  dsimp only [InitBack]
  k_steps
  refine Stop.intro ?_
  refine wpAny_call ?_
  show codeAny _ (AR _ _ _ _) _ _ _
  have hgg : ∀ b o, g.get? b = some o → (hideAll h3 [x, dx]).get? b = some o := fun b o e => hideAll_get _ (F3.keep b o e) fun hm => by
    simp only [List.mem_cons, List.not_mem_nil, or_false] at hm
    rcases hm with rfl | rfl
    · rw [hgx] at e; cases e
    · rw [hgd] at e; cases e
  have hoth : ∀ b o, b ≠ x → b ≠ dx → h3.get? b = some o → (hideAll h3 [x, dx]).get? b = some o := fun b o h1 h2 e => hideAll_get _ e fun hm => by
    simp only [List.mem_cons, List.not_mem_nil, or_false] at hm
    exact hm.elim h1 h2
  have hsjn : sj ≠ x ∧ sj ≠ dx := ⟨(by rintro rfl; rw [hx3] at hs; cases hs), fun e => by
    rw [e] at hs
    have h := congrArg Obj.cls (Option.some.inj (hd3.symm.trans hs))
    injection h with h
    exact absurd h (by decide)⟩
  refine gop (g := hideAll h3 [x, dx]) (dx := dx) (isj := .ref 254) (aj := .bool false) (bp := bp) (ta := ut) (tb := ul) (n := 10) (k := k') (a := tx) (b := ld) (jk := jkc) (S := S) (fun b o e => of_hideAll _ e) (X.keeps hgg) (T.keeps hgg) (fun r hr => ?_) (B2J_on hB (fun o e => hoth _ _ hdd.1 hdd.2 e) fun a o e hc => hoth _ _ (by rintro rfl; rw [hx3] at e; cases e; cases hc) (fun e2 => by
      rw [e2] at e
      have h := (congrArg Obj.cls (Option.some.inj (hd3.symm.trans e))).trans hc
      injection h with h
      exact absurd h (by decide)) e)
    (hoth _ _ hsjn.1 hsjn.2 hs) (SetOf_on hS fun o e => hoth _ _ hsjn.1 hsjn.2 e) hjk ha hb (by show dp + 1 < 398; lia) (by show un + 3 < 200; lia) hbl fun h4 tk4 A av c' bl hk4 hA hA4 hrec hav => ?_
  · rcases List.mem_cons.mp hr with rfl | hr
    · exact ⟨hx3, hideAll_none _ (.head _)⟩
    · rw [List.mem_singleton.mp hr]; exact ⟨hd3, hideAll_none _ (.tail _ (.head _))⟩
  have F4 : Fr g L h4 _ := ⟨F3.ns.at' fun o e => hk4 L o hxL.symm hdL.symm e, fun b o e => hk4 b o (by rintro rfl; rw [hgx] at e; cases e) (by rintro rfl; rw [hgd] at e; cases e) (F3.keep b o e), F3.above⟩
  obtain ⟨nt, hnt, hrn⟩ := led_of (P := IsOpc) (opc_led hav)
  have hall : ∀ r ∈ (A, listOf (List.toArray av) c') :: nt, h4.get? r.1 = some r.2 ∧ h3.get? r.1 = none := fun r hr => by
    rcases List.mem_cons.mp hr with rfl | hr
    · exact ⟨hA4, hA⟩
    · exact hnt r hr
  have hoff : ∀ r ∈ (A, listOf (List.toArray av) c') :: nt, ∀ p ∈ R, p.1 ≠ r.1 := fun r hr p hp e => by
    have e1 := (N3 p (.tail _ (.tail _ hp))).1
    rw [e, (hall r hr).2] at e1; cases e1
  have N4 : News g L h4 (R ++ (A, listOf (List.toArray av) c') :: nt) := fun r hr => by
    rcases List.mem_append.mp hr with hr | hr
    · exact ⟨hk4 _ _ (hRx r hr).1 (hRx r hr).2 (N3 r (.tail _ (.tail _ hr))).1, (N3 r (.tail _ (.tail _ hr))).2⟩
    · refine ⟨(hall r hr).1, fun e => ?_, ?_⟩
      · obtain ⟨oL, _, _, hL, _⟩ := F3.ns
        have e1 := (hall r hr).2
        rw [e, hL] at e1; cases e1
      · cases e2 : g.get? r.1 with
        | none => rfl
        | some o => have e1 := F3.keep _ _ e2; rw [(hall r hr).2] at e1; cases e1
  clear F3 N3
  k_steps
  rename Fr _ _ _ _ => F5
  rename News _ _ _ _ => N5
  exact hQ _ _ _ _ A av c' nt bl F5 ⟨rfl, rfl, rfl, rfl, trivial⟩ N5 hoff hrec hrn
end Mine
end
section
open PySem PySem.W PyProof.Rows PySem.Calls PySem.Spec
set_option Elab.async false
set_option maxRecDepth 1000000
set_option maxHeartbeats 8000000
namespace Mine
theorem regL9 (P : Params) : K P = [] ∨ PySem.Challenge.rw_kl0396_01.name = PySem.Challenge.rw_kl0396_01.name := by
  k_fill
  exact .inr rfl
local macro_rules | `(tactic| walk_at $s:str) => stopAt "eval ListComp|SrcLP|CompEnd|call builtin:str.join|call ref|pyIter ref" s
theorem law_s9 {w : World} {dp un : Nat} {fr : Option (List Env)} {gd : Option (List Code)} {s : Shared} {g : Heap} {mg mb : Str → Option Value} {L dl tl : Addr} {m : Str → Option Value} {R : List (Addr × Obj)} {ld : Str} {ul ut : Tok} {tx : Str} {Q : Flow → Shared → Prop}
    (X : (K w.params).In g) (T : TopRead q (looseW q loose) mg mb g) (hd : dp < 380) (hu : un < 100) (ha : tx.cps.size < 400) (hb : ld.cps.size < 400)
    (hbl : ∀ bl, RecP tx ld jkc (0, tx.cps.size, 0, ld.cps.size) bl → 2 ≤ bl.length ∧ bl.length < 64 ∧ bl.Pairwise fun x y => x.1 < y.1)
    (hQ : ∀ h' tk dr m' A av c' nt bl, Fr g L h' m' → HasL m' [("due", .ref dl), ("told", .ref tl), ("back", .ref A)] → News g L h' (R ++ (A, listOf (List.toArray av) c') :: nt) → (∀ r ∈ (A, listOf (List.toArray av) c') :: nt, ∀ p ∈ R, p.1 ≠ r.1) →
      RecP tx ld jkc (0, tx.cps.size, 0, ld.cps.size) bl → ON nt av (opc 0 0 (mrg 0 0 0 bl ++ [(tx.cps.size, ld.cps.size, 0)])) → Q .next { s with heap := h', toks := tk, drawn := dr })
    (F : Fr g L s.heap m) (hm : HasL m [("text", .str ld ul), ("laid", .str tx ut), ("due", .ref dl), ("told", .ref tl)]) (N : News g L s.heap R) :
    wpAny (model pw w) ((AR dp un fr gd).deeper (lwEnv L)) (exec (lwSt 9) (lwEnv L)) Q (fun _ _ => False) s := by
  conv in exec _ _ => arg 1; whnf
  delta lwEnv
  conv in (occs := *) envX _ _ _ _ _ _ => all_goals (arg 2; whnf)
  have em := ov_of hm
  rw [em] at F
  k_steps
  refine Stop.intro ?_
  refine wpAny_call ?_
  rename Fr _ _ _ _ => F1
  rename News _ _ _ _ => N1
  refine make_K (fI := 160) F1 N1 (X.keeps F1.keep) (by k_is) (by k_is) (by k_is) fun x dx h2 F2 N2 hlt2 hxd => ?_
  clear F1 N1
  show codeAny _ (AR _ _ _ _) _ _ _
  have hxL : x ≠ L := (N2 _ (.head _)).2.1
  have hdL : dx ≠ L := (N2 _ (.tail _ (.head _))).2.1
  have hgx : g.get? x = none := (N2 _ (.head _)).2.2
  have hgd : g.get? dx = none := (N2 _ (.tail _ (.head _))).2.2
  have hRx : ∀ p ∈ R, p.1 ≠ x ∧ p.1 ≠ dx := fun p hp => ⟨Nat.ne_of_lt (Nat.lt_trans (hlt2 p hp) hxd), Nat.ne_of_lt (hlt2 p hp)⟩
  refine init (x := x) (dx := dx) (a := tx) (b := ld) F2.keep X T (fun r hr => ?_) (by show dp + 1 + 1 < 395; lia) hb fun h3 tk3 dr k' d sj bp es ep t S sn hk3 hx3 hd3 hdd hB hs hS hjk => ?_
  · rcases List.mem_cons.mp hr with rfl | hr
    · exact ⟨(N2 _ (.head _)).1, hgx⟩
    · rw [List.mem_singleton.mp hr]; exact ⟨(N2 _ (.tail _ (.head _))).1, hgd⟩
  have F3 : Fr g L h3 _ := ⟨F2.ns.at' fun o e => hk3 L o hxL.symm hdL.symm e, fun b o e => hk3 b o (by rintro rfl; rw [hgx] at e; cases e) (by rintro rfl; rw [hgd] at e; cases e) (F2.keep b o e), F2.above⟩
  have N3 : News g L h3 ((x, instObj 242 dx) :: (dx, dictOf (smEs w.params k' (.ref 254) tx ld ut ul (.bool false) .none .none (.ref d) (.ref sj) bp) 10) :: R) := fun r hr => by
    rcases List.mem_cons.mp hr with rfl | hr
    · exact ⟨hx3, hxL, hgx⟩
    · rcases List.mem_cons.mp hr with rfl | hr
      · exact ⟨hd3, hdL, hgd⟩
      · exact ⟨hk3 _ _ (hRx r hr).1 (hRx r hr).2 (N2 r (.tail _ (.tail _ hr))).1, (N2 r (.tail _ (.tail _ hr))).2⟩
  clear F2 N2
  dsimp only [InitBack]
  k_steps
  refine Stop.intro ?_
  refine wpAny_call ?_
  show codeAny _ (AR _ _ _ _) _ _ _
  have hgg : ∀ b o, g.get? b = some o → (hideAll h3 [x, dx]).get? b = some o := fun b o e => hideAll_get _ (F3.keep b o e) fun hm => by
    simp only [List.mem_cons, List.not_mem_nil, or_false] at hm
    rcases hm with rfl | rfl
    · rw [hgx] at e; cases e
    · rw [hgd] at e; cases e
  have hoth : ∀ b o, b ≠ x → b ≠ dx → h3.get? b = some o → (hideAll h3 [x, dx]).get? b = some o := fun b o h1 h2 e => hideAll_get _ e fun hm => by
    simp only [List.mem_cons, List.not_mem_nil, or_false] at hm
    exact hm.elim h1 h2
  have hsjn : sj ≠ x ∧ sj ≠ dx := ⟨(by rintro rfl; rw [hx3] at hs; cases hs), fun e => by
    rw [e] at hs
    have h := congrArg Obj.cls (Option.some.inj (hd3.symm.trans hs))
    injection h with h
    exact absurd h (by decide)⟩
  refine gop (g := hideAll h3 [x, dx]) (dx := dx) (isj := .ref 254) (aj := .bool false) (bp := bp) (ta := ut) (tb := ul) (n := 10) (k := k') (a := tx) (b := ld) (jk := jkc) (S := S) (fun b o e => of_hideAll _ e) (X.keeps hgg) (T.keeps hgg) (fun r hr => ?_) (B2J_on hB (fun o e => hoth _ _ hdd.1 hdd.2 e) fun a o e hc => hoth _ _ (by rintro rfl; rw [hx3] at e; cases e; cases hc) (fun e2 => by
      rw [e2] at e
      have h := (congrArg Obj.cls (Option.some.inj (hd3.symm.trans e))).trans hc
      injection h with h
      exact absurd h (by decide)) e)
    (hoth _ _ hsjn.1 hsjn.2 hs) (SetOf_on hS fun o e => hoth _ _ hsjn.1 hsjn.2 e) hjk ha hb (by show dp + 1 < 398; lia) (by show un + 3 < 200; lia) hbl fun h4 tk4 A av c' bl hk4 hA hA4 hrec hav => ?_
  · rcases List.mem_cons.mp hr with rfl | hr
    · exact ⟨hx3, hideAll_none _ (.head _)⟩
    · rw [List.mem_singleton.mp hr]; exact ⟨hd3, hideAll_none _ (.tail _ (.head _))⟩
  have F4 : Fr g L h4 _ := ⟨F3.ns.at' fun o e => hk4 L o hxL.symm hdL.symm e, fun b o e => hk4 b o (by rintro rfl; rw [hgx] at e; cases e) (by rintro rfl; rw [hgd] at e; cases e) (F3.keep b o e), F3.above⟩
  obtain ⟨nt, hnt, hrn⟩ := led_of (P := IsOpc) (opc_led hav)
  have hall : ∀ r ∈ (A, listOf (List.toArray av) c') :: nt, h4.get? r.1 = some r.2 ∧ h3.get? r.1 = none := fun r hr => by
    rcases List.mem_cons.mp hr with rfl | hr
    · exact ⟨hA4, hA⟩
    · exact hnt r hr
  have hoff : ∀ r ∈ (A, listOf (List.toArray av) c') :: nt, ∀ p ∈ R, p.1 ≠ r.1 := fun r hr p hp e => by
    have e1 := (N3 p (.tail _ (.tail _ hp))).1
    rw [e, (hall r hr).2] at e1; cases e1
  have N4 : News g L h4 (R ++ (A, listOf (List.toArray av) c') :: nt) := fun r hr => by
    rcases List.mem_append.mp hr with hr | hr
    · exact ⟨hk4 _ _ (hRx r hr).1 (hRx r hr).2 (N3 r (.tail _ (.tail _ hr))).1, (N3 r (.tail _ (.tail _ hr))).2⟩
    · refine ⟨(hall r hr).1, fun e => ?_, ?_⟩
      · obtain ⟨oL, _, _, hL, _⟩ := F3.ns
        have e1 := (hall r hr).2
        rw [e, hL] at e1; cases e1
      · cases e2 : g.get? r.1 with
        | none => rfl
        | some o => have e1 := F3.keep _ _ e2; rw [(hall r hr).2] at e1; cases e1
  clear F3 N3
  k_steps
  rename Fr _ _ _ _ => F5
  rename News _ _ _ _ => N5
  exact hQ _ _ _ _ A av c' nt bl F5 ⟨rfl, rfl, rfl, trivial⟩ N5 hoff hrec hrn
end Mine
end
section
open PySem PySem.W PyProof.Rows PySem.Calls PySem.Spec
set_option Elab.async false
set_option maxRecDepth 1000000
set_option maxHeartbeats 8000000
namespace Mine
/-! ## the law's body, its statements one behind the other -/
theorem law_body {w : World} {dp un : Nat} {fr : Option (List Env)} {gd : Option (List Code)} {s : Shared} {g : Heap} {mg mb : Str → Option Value} {L sl : Addr} {o1 o2 : Obj} {m : Str → Option Value} {iv : List Value} {zs : List Int} {Q : Flow → Shared → Prop}
    (X : (K w.params).In g) (T : TopRead q (looseW q loose) mg mb g) {l2 : List Str} {mean : ExcName → Option Value} (T2 : Top topProg l2 mean mg mb g) (hd : dp < 380) (hu : un < 100) (hl : g.IsList sl iv.toArray) (hz : IntsAre iv zs) (hn : zs.length < 70) (hL : 257 < L)
    (F : Fr g L s.heap m) (hm : HasL m [("script", .ref sl)]) (ho1 : ∃ v, o1.data = .cell v) (ho2 : ∃ v, o2.data = .cell v) (N : News g L s.heap [(L + 1, o1), (L + 2, o2), (257, tabObj #[])])
    (hQ : ∀ h' tk dr m' ps, Fr g L h' m' → h'.get? 257 = some (tabObj ps) → Q (.ret (.bool true)) { s with heap := h', toks := tk, drawn := dr }) :
    wpAny (model pw w) ((AR dp un fr gd).deeper (lwEnv L)) (execs [lwSt 0, lwSt 1, lwSt 2, lwSt 3, lwSt 4, lwSt 5, lwSt 6, lwSt 7, lwSt 8, lwSt 9, lwSt 10, lwSt 11] (lwEnv L)) Q (fun _ _ => False) s := by
  have hok := rows_ok zs
  have hlen := rows_len zs
  obtain ⟨mc, mp, m3⟩ := mar_ok zs.sum
  obtain ⟨p0, p1, rest, hrs, h0, h1⟩ := rows_head zs
  have hsm := text_small (mr := marS zs.sum) hok hlen m3
  have hasc := laid_ascii (mr := marS zs.sum) hok mc
  have hind := ind_law (mr := marS zs.sum) hok
  obtain ⟨hsize, hpl⟩ : (spotsN (rowsOf zs) (marS zs.sum) (rowsOf zs).length).2.1 = (cat ((rowsOf zs).map lineS)).cps.size ∧
      Plain (cat ((rowsOf zs).map lineS)) (cat ((rowsOf zs).map (linM (marS zs.sum)))) (codesN (spotsN (rowsOf zs) (marS zs.sum) (rowsOf zs).length).2.1 (marS zs.sum).cps.size 0 0 ((spotsN (rowsOf zs) (marS zs.sum) (rowsOf zs).length).1 ++ [(spotsN (rowsOf zs) (marS zs.sum) (rowsOf zs).length).2.1])) := by
    rw [hrs] at hok hlen ⊢
    exact plain_law hok h0 h1 (by lia) mc mp
  have hspl := spotsN_len (rowsOf zs) (marS zs.sum) (rowsOf zs).length
  have htag := codes_tag (spotsN (rowsOf zs) (marS zs.sum) (rowsOf zs).length).2.1 (marS zs.sum).cps.size ((spotsN (rowsOf zs) (marS zs.sum) (rowsOf zs).length).1 ++ [(spotsN (rowsOf zs) (marS zs.sum) (rowsOf zs).length).2.1]) 0 0
  have hcl := codes_len (spotsN (rowsOf zs) (marS zs.sum) (rowsOf zs).length).2.1 (marS zs.sum).cps.size ((spotsN (rowsOf zs) (marS zs.sum) (rowsOf zs).length).1 ++ [(spotsN (rowsOf zs) (marS zs.sum) (rowsOf zs).length).2.1]) 0 0
  rw [List.length_append, List.length_singleton] at hcl
  clear hrs h0 h1 p0 p1 rest
  have hL1 : (L + 1 : Nat) ≠ 257 := Nat.ne_of_gt (Nat.lt_succ_of_lt hL)
  have hL2 : (L + 2 : Nat) ≠ 257 := Nat.ne_of_gt (Nat.lt_succ_of_lt (Nat.lt_succ_of_lt hL))
  refine wpAny_execs_cons ?_
  refine law_s0 (tb := (257, tabObj #[])) X T hd hl hz hn F hm ho1 ⟨hL1.symm, hL2.symm⟩ (fun h' tk m' rl rv c o1' t nt F hm N hC hoff hrn => ?_) N
  generalize rowsOf zs = rs at *
  generalize zs.sum = z at *
  dsimp only
  refine wpAny_execs_cons ?_
  refine law_s1 X T hC ho2 (fun r hr => ?_) (fun h' tk m' o2' u F hm N hC2 => ?_) F hm N
  · rcases List.mem_cons.mp hr with rfl | hr
    · exact hL2.symm
    · exact (hoff r hr).2.1
  dsimp only
  refine wpAny_execs_cons ?_
  refine law_s2 X T hrn (by lia) hok (fun h' tk m' ut F hm N => ?_) F hm N
  dsimp only
  refine wpAny_execs_cons ?_
  refine law_s3 (mr := marS z) X T T2 hd (by lia) hok m3 hC2 (fun r hr => ?_) (fun h' tk m' ps ul F hm N => ?_) F hm N
  · rcases List.mem_cons.mp hr with rfl | hr
    · exact hL1
    · rcases List.mem_cons.mp hr with rfl | hr
      · exact hL2
      · exact (hoff r hr).2.2
  rw [hind] at hm
  dsimp only
  refine wpAny_execs_cons ?_
  refine law_s4 (mr := marS z) X T hrn (by lia) hok m3 hC2 rfl (fun h' tk m' F hm N => ?_) F hm N
  dsimp only
  refine wpAny_execs_cons ?_
  refine law_s5 X T hd hu hasc (by lia) (fun h' tk m' F hm N => ?_) F hm N
  dsimp only
  refine wpAny_execs_cons ?_
  refine law_s6 (mr := marS z) X T hd hu hrn (by lia) hok m3 hC2 (fun h' tk m' sl' sv c' u F hm N hsv => ?_) F hm N
  dsimp only
  refine wpAny_execs_cons ?_
  refine law_s7 (mr := marS z) (sp := (spotsN rs (marS z) rs.length).1) (size := (spotsN rs (marS z) rs.length).2.1) X T hd hsv (by lia) m3 hC2 (fun h' tk m' dl dv c' nt F hm N hoff hON => ?_) F hm N
  have hON' : ON nt dv (codesN (spotsN rs (marS z) rs.length).2.1 (marS z).cps.size 0 0 ((spotsN rs (marS z) rs.length).1 ++ [(spotsN rs (marS z) rs.length).2.1])) := hON
  clear hON hsv hrn hoff
  generalize codesN (spotsN rs (marS z) rs.length).2.1 (marS z).cps.size 0 0 ((spotsN rs (marS z) rs.length).1 ++ [(spotsN rs (marS z) rs.length).2.1]) = cs at *
  generalize cat (rs.map lineS) = tx at *
  generalize cat (rs.map (linM (marS z))) = ld at *
  dsimp only
  refine wpAny_execs_cons ?_
  refine law_s8 X T hd hu hsm.1 hsm.2 hpl.fwd (fun h' tk dr m' tl tv c2 nt2 bl F hm N hoff2 hrec hON2 => ?_) F hm N
  rw [hpl.told bl hrec] at hON2
  dsimp only
  refine wpAny_execs_cons ?_
  refine law_s9 X T hd hu hsm.2 hsm.1 hpl.bwd (fun h' tk dr m' bk bv c3 nt3 bl F hm N hoff3 hrec hON3 => ?_) F hm N
  rw [hpl.back bl hrec] at hON3
  dsimp only
  refine wpAny_execs_cons ?_
  refine law_s10 (cs := cs) X T (dl := dl) (dv := dv) (c := c') (by simp) (hON'.more fun p hp => by simp [hp]) (by lia) (fun h' tk m' gl gv c4 nt4 F hm N hoff4 hON4 => ?_) F hm N
  dsimp only
  refine wpAny_execs_cons ?_
  refine law_s11 (cs := cs) (cs' := cs.map swG) X T hu (dv := dv) (c1 := c') (tv := tv) (c2 := c2) (bv := bv) (c3 := c3) (gv := gv) (c4 := c4) (by simp) (by simp) (by simp) (by simp) (hON'.more fun p hp => by simp [hp]) (hON2.more fun p hp => by simp [hp]) (hON3.more fun p hp => by simp [hp]) (hON4.more fun p hp => by simp [hp])
    (fun p hp => (tag_ok (htag p hp)).1) (fun p hp => ?_) (fun h' tk m' F N => ?_) F hm N
  · obtain ⟨p', hp', rfl⟩ := List.mem_map.mp hp
    exact (tag_ok (htag p' hp')).2
  exact hQ _ _ _ _ ps F (N (257, tabObj ps) (by simp)).1
end Mine
end
section
open PySem PySem.W PyProof.Rows PySem.Calls PySem.Spec
set_option Elab.async false
set_option maxRecDepth 1000000
set_option maxHeartbeats 8000000
namespace Mine
theorem regLW (P : Params) : K P = [] ∨ PySem.Challenge.rw_kl0396_01.name = PySem.Challenge.rw_kl0396_01.name := by
  k_fill
  exact .inr rfl
theorem body14 : bodyAt (top 14) = [lwSt 0, lwSt 1, lwSt 2, lwSt 3, lwSt 4, lwSt 5, lwSt 6, lwSt 7, lwSt 8, lwSt 9, lwSt 10, lwSt 11] := by kernel_rfl
theorem lawW {w : World} {dp un : Nat} {fr : Option (List Env)} {gd : Option (List Code)} {s : Shared} {R : Result → Shared → Prop} {mg mb : Str → Option Value} {sl : Addr} {iv : List Value} {zs : List Int} {mean : ExcName → Option Value}
    (hT : TabsAt [(261, 257)] s.heap) (X : (K w.params).In s.heap) (T : Top q (looseW q loose) mean mg mb s.heap) (hd : dp < 380) (hu : un < 100) (hl : s.heap.IsList sl iv.toArray) (hz : IntsAre iv zs) (hn : zs.length < 70)
    (hRes : ∀ h' tk dr L m' ps, Fr (ghostOf s.heap [(261, 257)]) L h' m' → h'.get? 257 = some (tabObj ps) → R (.ok (.ret (.bool true))) { s with heap := h', toks := tk, drawn := dr }) :
    codeAny (model pw w) (AR dp un fr gd) (.call (.ref 293) ⟨[.ref sl], []⟩) R s := by
  refine enterC (g := s.heap) [("script", .ref sl)] (fun _ _ e => e) X (topRead_of T) (by k_is) (by k_is) (Nat.lt_trans hd (by decide)) rfl rfl (by decide +kernel) ?_ rfl rfl rfl
  intro L h₁ tk₁ cells X' T' F N Y
  obtain ⟨o2, o1, rfl, ho2, ho1⟩ := CellsAre.two Y
  clear Y
  have em0 := ov_of (l := [("script", .ref sl)]) (m := bindL (envOfC (Str.ofString "law") (scopeAt (top 14)) L 293 (Value.ref 292)).kindOf [(Str.ofString "script", Value.ref sl)] fun _ => none) ⟨rfl, trivial⟩
  rw [em0] at F
  change wpAny (model pw w) ((AR dp un fr gd).deeper (lwEnv L)) (execs (bodyAt (top 14)) (lwEnv L)) _ _ _
  rw [body14]
  have hlt := ghost_lt hT F
  have hL : 257 < L := hlt (257, tabObj #[]) (.head _)
  have F' := ghost_fr hT F
  have N' := ghost_news hT F N
  have T2 := ghost_top hT T
  have TR : TopRead q (looseW q loose) mg mb (ghostOf s.heap [(261, 257)]) := ⟨T2.g, T2.b, T2.nolimit, T2.builtins, T'.free⟩
  refine law_body (ghost_K hT X (by kernel_rfl)) TR T2 hd hu (ghost_list hT hl) hz hn hL F' ⟨rfl, trivial⟩ ⟨_, ho1⟩ ⟨_, ho2⟩ (News.sub N' fun p hp => ?_) fun h' tk dr m' ps F4 h257 => hRes _ _ _ _ _ _ F4 h257
  simp only [tabNews, List.map_cons, List.map_nil, List.cons_append, List.nil_append, List.mem_cons, List.not_mem_nil, or_false] at hp ⊢
  rcases hp with h | h | h <;> (repeat first | exact h | exact .inl h | exact .inl (.inl h) | exact .inl (.inr h) | refine .inr ?_)
end Mine
end
section
open PySem PySem.W PyProof.Rows PySem.Calls PySem.Spec
set_option Elab.async false
set_option maxRecDepth 1000000
set_option maxHeartbeats 8000000
namespace Mine
theorem regFN (P : Params) : K P = [] ∨ PySem.Challenge.rw_kl0396_01.name = PySem.Challenge.rw_kl0396_01.name := by
  k_fill
  exact .inr rfl
theorem law_at (P : Params) : nsIn (K P) mainGlobals "law" = some (some (.ref 293)) := by kernel_rfl
theorem fa_of {w : World} {mg : Str → Option Value} {h : Heap} {fa : Addr} (X : (K w.params).In h) (G : h.Ns mainGlobals mg) (hm : mg (Str.ofString "law") = some (.ref fa)) : fa = 293 := by
  have h1 : mg (Str.ofString "law") = some (Value.ref 293) := mg_of X G (law_at w.params)
  rw [hm] at h1
  exact Value.ref.inj (Option.some.inj h1)
theorem said0 : PySem.Challenge.rw_kl0396_01.wellSaid = true := by kernel_rfl
theorem fin : PySem.Challenge.rw_kl0396_01.Holds := by
  w_on
  refine holds_law said0 fun said => ?_
  refine holds_open (q := q) (loose := loose) (Xt := fun s => xlAt q [] s && recOk (RowW.records row) s) (XP := XL q []) (Yf := Hook.obs H) (Ya := Hook.val H) (YP := Hook.says H) (N := 4798) ?hl (Hook.of H) (Hook.keeps H) (fun s e => xl_of s (Bool.and_eq_true_iff.mp e).1) XL.keeps (by rfl) (by rfl) (by rfl) (fun s e => recFacts_of (Bool.and_eq_true_iff.mp e).2) (by rfl) (by first | assumption | decide +kernel) (by decide +kernel) ⟨rfl, rfl, rfl, rfl, rfl, by decide +kernel⟩ ?hw ?hc
  case hl => exact left
  case hw => w_witness2
  case hc =>
    intro w s₀ s₁ mg mb G Y fa o pm cd doc dV kV ho hd hcd hD hmg hg args vals as hpre hlay hrd hwl hlo
    have KX := km_in_of Y
    have hT8 := km_tabs_of Y
    refine Ground.open G ?_
    intro T B D TE TW
    have hT9 : TabsAt [(261, 257)] s₁.heap := List.forall_mem_cons.mpr ⟨⟨codeHd_of_K (c := 261) (P := 257) KX (by kernel_rfl), hT8 257 (.head _)⟩, fun _ h => nomatch h⟩
    have hfa : fa = 293 := fa_of KX (Top.g T) hmg
    subst hfa
    clear hmg hD ho hd hcd
    wrow_args hpre hlay hrd hwl hlo
    refine enter_call ?_
    refine kn_post hT9 (fun _ _ => rfl) ?_
    rename IntsAre _ _ => hI
    rename Heap.IsList _ _ _ => hL
    rename ¬ _ => hlen
    refine lawW hT9 KX T (by decide) (by decide) hL hI (by omega) fun h' tk dr L m' ps F h257 => ⟨?_, ?_⟩
    · refine goodW_bool F hg (raisesW_false ?_) ?_
      · wrow_none_raised
      · wrow_post
    · exact ⟨⟨ps, h257⟩, trivial⟩
end Mine
end
set_option maxRecDepth 100000 in
theorem PySem.Challenge.cw_kl0396_01_holds : PySem.Challenge.rw_kl0396_01.Holds :=
  Mine.fin
