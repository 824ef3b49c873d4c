import PyProof.Rows.All
import Wide.All
import OpenK.AllK
import Wide.FinOn
import PySem.Challenge.RW_nq0238_01
open PySem PySem.W PyProof.Rows PySem.Calls PyProof.V
set_option Elab.async false
set_option maxRecDepth 100000
set_option maxHeartbeats 8000000
namespace Mine
set_option linter.all false
set_option linter.unusedVariables false
noncomputable def hd.nth : List Stmt → Nat → Stmt
  | [], _ => default
  | a :: _, 0 => a
  | _ :: r, n + 1 => hd.nth r n
noncomputable def hd.cb : Stmt → List Stmt
  | .ClassDef _ _ _ b _ _ _ _ _ _ _ => b
  | _ => []
noncomputable abbrev hd.bd : List Stmt := PySem.Challenge.pw_nq0238_01.main.body
noncomputable abbrev hd.fn (st : Stmt) {n : Str} {a : Arguments} {b : List Stmt} {dl : List Expr} {rt : Option Expr} {tp : List TypeParam} {sc : Scope} {ts : Option Scope} {bn : Str} {ps : Pos} (_ : st = .FunctionDef n a b dl rt tp sc ts bn ps) (qual : Str) (g : Addr) (cl : List (Str × Addr)) (dV kV doc pm : Value) (an : Option Addr) (cd ct : Value) (bi : Addr) : Obj := ⟨.type "function", none, .func ⟨n, qual, a, .stmts b, sc, g, cl, dV, kV, doc, pm, an, cd, ct, bi⟩, #[]⟩
noncomputable def hd.heap_39 : Params → Frag := fun P =>
(nat_lit 2, ⟨.none, none, (.dict #[] 0), #[]⟩) ::
(nat_lit 3, ⟨(.type "dict"), none, (.dict (List.toArray (⟨(PySem.PyData.keyHash P "__name__"), (.str "__name__" 165), (.str "law_nq0238_01" 485)⟩ :: ⟨(PySem.PyData.keyHash P "__doc__"), (.str "__doc__" 166), .none⟩ :: ⟨(PySem.PyData.keyHash P "__package__"), (.str "__package__" 167), .none⟩ :: ⟨(PySem.PyData.keyHash P "__loader__"), (.str "__loader__" 168), (.builtin "__main__.__loader__#opaque")⟩ :: ⟨(PySem.PyData.keyHash P "__spec__"), (.str "__spec__" 169), .none⟩ :: ⟨(PySem.PyData.keyHash P "__annotations__"), (.str "__annotations__" 170), (.ref 6)⟩ :: ⟨(PySem.PyData.keyHash P "__builtins__"), (.str "__builtins__" 171), (.ref 4)⟩ :: ⟨(PySem.PyData.keyHash P "__file__"), (.str "__file__" 173), (.str "/claim/cut.py" 172)⟩ :: ⟨(PySem.PyData.keyHash P "__cached__"), (.str "__cached__" 174), .none⟩ :: ⟨(PySem.PyData.keyHash P "_wall"), (.str "_wall" 193), (.ref 21)⟩ :: ⟨(PySem.PyData.keyHash P "_int2digits"), (.str "_int2digits" 206), (.ref 28)⟩ :: ⟨(PySem.PyData.keyHash P "_digits2int"), (.str "_digits2int" 217), (.ref 35)⟩ :: ⟨(PySem.PyData.keyHash P "_NODE_OUT"), (.str "_NODE_OUT" 222), (.int (Neg.neg 1) 221)⟩ :: ⟨(PySem.PyData.keyHash P "_NODE_DONE"), (.str "_NODE_DONE" 225), (.int (Neg.neg 2) 224)⟩ :: ⟨(PySem.PyData.keyHash P "_NodeInfo"), (.str "_NodeInfo" 262), (.ref 54)⟩ :: ⟨(PySem.PyData.keyHash P "CycleError"), (.str "CycleError" 280), (.ref 69)⟩ :: ⟨(PySem.PyData.keyHash P "TopologicalSorter"), (.str "TopologicalSorter" 399), (.ref 151)⟩ :: ⟨(PySem.PyData.keyHash P "S_IFMT"), (.str "S_IFMT" 408), (.ref 162)⟩ :: ⟨(PySem.PyData.keyHash P "S_IFDIR"), (.str "S_IFDIR" 410), (.int 16384 409)⟩ :: ⟨(PySem.PyData.keyHash P "S_IFCHR"), (.str "S_IFCHR" 412), (.int 8192 411)⟩ :: ⟨(PySem.PyData.keyHash P "S_IFBLK"), (.str "S_IFBLK" 414), (.int 24576 413)⟩ :: ⟨(PySem.PyData.keyHash P "S_IFREG"), (.str "S_IFREG" 416), (.int 32768 415)⟩ :: ⟨(PySem.PyData.keyHash P "S_IFIFO"), (.str "S_IFIFO" 418), (.int 4096 417)⟩ :: ⟨(PySem.PyData.keyHash P "S_IFLNK"), (.str "S_IFLNK" 420), (.int 40960 419)⟩ :: ⟨(PySem.PyData.keyHash P "S_IFSOCK"), (.str "S_IFSOCK" 422), (.int 49152 421)⟩ :: ⟨(PySem.PyData.keyHash P "S_ISUID"), (.str "S_ISUID" 424), (.int 2048 423)⟩ :: ⟨(PySem.PyData.keyHash P "S_ISGID"), (.str "S_ISGID" 426), (.int 1024 425)⟩ :: ⟨(PySem.PyData.keyHash P "S_ISVTX"), (.str "S_ISVTX" 428), (.int 512 427)⟩ :: ⟨(PySem.PyData.keyHash P "S_IRUSR"), (.str "S_IRUSR" 430), (.int 256 429)⟩ :: ⟨(PySem.PyData.keyHash P "S_IWUSR"), (.str "S_IWUSR" 432), (.int 128 431)⟩ :: ⟨(PySem.PyData.keyHash P "S_IXUSR"), (.str "S_IXUSR" 434), (.int 64 433)⟩ :: ⟨(PySem.PyData.keyHash P "S_IRGRP"), (.str "S_IRGRP" 436), (.int 32 435)⟩ :: ⟨(PySem.PyData.keyHash P "S_IWGRP"), (.str "S_IWGRP" 438), (.int 16 437)⟩ :: ⟨(PySem.PyData.keyHash P "S_IXGRP"), (.str "S_IXGRP" 440), (.int 8 439)⟩ :: ⟨(PySem.PyData.keyHash P "S_IROTH"), (.str "S_IROTH" 442), (.int 4 441)⟩ :: ⟨(PySem.PyData.keyHash P "S_IWOTH"), (.str "S_IWOTH" 444), (.int 2 443)⟩ :: ⟨(PySem.PyData.keyHash P "S_IXOTH"), (.str "S_IXOTH" 446), (.int 1 445)⟩ :: ⟨(PySem.PyData.keyHash P "_filemode_table"), (.str "_filemode_table" 472), (.ref 195)⟩ :: ⟨(PySem.PyData.keyHash P "filemode"), (.str "filemode" 484), (.ref 202)⟩ :: ⟨(PySem.PyData.keyHash P "_law_told"), (.str "_law_told" 492), (.ref 207)⟩ :: ⟨(PySem.PyData.keyHash P "_law_due"), (.str "_law_due" 498), (.ref 212)⟩ :: ⟨(PySem.PyData.keyHash P "law"), (.str "law" 504), (.ref 217)⟩ :: [])) 42), #[]⟩) ::
(nat_lit 15, ⟨(.type "tuple"), none, (.seq #[] 0), #[]⟩) ::
(nat_lit 17, ⟨(.type "tuple"), none, (.seq #[(.str "k" 190)] 0), #[]⟩) ::
(nat_lit 18, ⟨(.type "tuple"), none, (.seq #[] 0), #[]⟩) ::
(nat_lit 20, ⟨(.type "code"), none, (.fields (List.toArray ((.str "_wall" 187) :: (.str "_wall" 188) :: (.str "/claim/cut.py" 189) :: (.int 1 0) :: (.int 1 0) :: (.int 0 0) :: (.int 0 0) :: (.int 3 0) :: (.ref 15) :: (.bool true) :: (.int 181 0) :: (.ref 16) :: .none :: (.ref 17) :: (.ref 18) :: (.ref 19) :: (.int 191 0) :: (.int 1 0) :: (.str "/claim/cut.py" 192) :: []))), #[]⟩) ::
(nat_lit 21, hd.fn (hd.nth hd.bd 0) rfl "_wall" 3 [] .none .none .none (.str "__main__" 164) none (.ref 20) .none 0) ::
(nat_lit 22, ⟨(.type "tuple"), none, (.seq #[] 0), #[]⟩) ::
(nat_lit 24, ⟨(.type "tuple"), none, (.seq #[(.str "a" 199), (.str "n" 200)] 0), #[]⟩) ::
(nat_lit 25, ⟨(.type "tuple"), none, (.seq #[(.str "n" 201), (.str "a_digits" 202), (.str "inner" 203)] 0), #[]⟩) ::
(nat_lit 27, ⟨(.type "code"), none, (.fields (List.toArray ((.str "_int2digits" 196) :: (.str "_int2digits" 197) :: (.str "/claim/cut.py" 198) :: (.int 5 0) :: (.int 2 0) :: (.int 0 0) :: (.int 0 0) :: (.int 3 0) :: (.ref 22) :: (.bool true) :: (.int 181 0) :: (.ref 23) :: .none :: (.ref 24) :: (.ref 25) :: (.ref 26) :: (.int 204 0) :: (.int 5 0) :: (.str "/claim/cut.py" 205) :: []))), #[]⟩) ::
(nat_lit 28, hd.fn (hd.nth hd.bd 2) rfl "_int2digits" 3 [] .none .none .none (.str "cpy313._pylong" 194) none (.ref 27) .none 0) ::
(nat_lit 29, ⟨(.type "tuple"), none, (.seq #[] 0), #[]⟩) ::
(nat_lit 31, ⟨(.type "tuple"), none, (.seq #[(.str "digits" 210), (.str "n" 211)] 0), #[]⟩) ::
(nat_lit 32, ⟨(.type "tuple"), none, (.seq #[(.str "digits" 212), (.str "n" 213), (.str "inner" 214)] 0), #[]⟩) ::
(nat_lit 34, ⟨(.type "code"), none, (.fields (List.toArray ((.str "_digits2int" 207) :: (.str "_digits2int" 208) :: (.str "/claim/cut.py" 209) :: (.int 21 0) :: (.int 2 0) :: (.int 0 0) :: (.int 0 0) :: (.int 3 0) :: (.ref 29) :: (.bool true) :: (.int 181 0) :: (.ref 30) :: .none :: (.ref 31) :: (.ref 32) :: (.ref 33) :: (.int 215 0) :: (.int 21 0) :: (.str "/claim/cut.py" 216) :: []))), #[]⟩) ::
(nat_lit 35, hd.fn (hd.nth hd.bd 3) rfl "_digits2int" 3 [] .none .none .none (.str "cpy313._pylong" 194) none (.ref 34) .none 0) ::
(nat_lit 43, ⟨(.type "tuple"), none, (.seq #[(.str "node" 238), (.str "npredecessors" 239), (.str "successors" 240)] 0), #[]⟩) ::
(nat_lit 44, ⟨(.type "tuple"), none, (.seq #[] 0), #[]⟩) ::
(nat_lit 46, ⟨(.type "tuple"), none, (.seq #[(.str "self" 245), (.str "node" 246)] 0), #[]⟩) ::
(nat_lit 47, ⟨(.type "tuple"), none, (.seq #[] 0), #[]⟩) ::
(nat_lit 49, ⟨(.type "code"), none, (.fields (List.toArray ((.str "__init__" 242) :: (.str "_NodeInfo.__init__" 243) :: (.str "/claim/cut.py" 244) :: (.int 36 0) :: (.int 2 0) :: (.int 0 0) :: (.int 0 0) :: (.int 3 0) :: (.ref 44) :: (.bool true) :: (.int 181 0) :: (.ref 45) :: .none :: (.ref 46) :: (.ref 47) :: (.ref 48) :: (.int 247 0) :: (.int 36 0) :: (.str "/claim/cut.py" 248) :: []))), #[]⟩) ::
(nat_lit 50, hd.fn (hd.nth (hd.cb (hd.nth hd.bd 7)) 1) rfl "_NodeInfo.__init__" 3 [] .none .none .none (.str "cpy313.graphlib" 218) none (.ref 49) .none 0) ::
(nat_lit 51, ⟨(.type "tuple"), none, (.seq #[(.str "node" 250), (.str "npredecessors" 251), (.str "successors" 252)] 0), #[]⟩) ::
(nat_lit 53, ⟨(.type "dict"), none, (.dict #[⟨(PySem.PyData.keyHash P "__module__"), (.str "__module__" 233), (.str "cpy313.graphlib" 218)⟩, ⟨(PySem.PyData.keyHash P "__firstlineno__"), (.str "__firstlineno__" 237), (.int 33 236)⟩, ⟨(PySem.PyData.keyHash P "__slots__"), (.str "__slots__" 241), (.ref 43)⟩, ⟨(PySem.PyData.keyHash P "__init__"), (.str "__init__" 249), (.ref 50)⟩, ⟨(PySem.PyData.keyHash P "__static_attributes__"), (.str "__static_attributes__" 253), (.ref 51)⟩, ⟨(PySem.PyData.keyHash P "node"), (.str "node" 255), (.ref 55)⟩, ⟨(PySem.PyData.keyHash P "npredecessors"), (.str "npredecessors" 257), (.ref 56)⟩, ⟨(PySem.PyData.keyHash P "successors"), (.str "successors" 259), (.ref 57)⟩, ⟨(PySem.PyData.keyHash P "__doc__"), (.str "__doc__" 260), .none⟩] 5), #[]⟩) ::
(nat_lit 54, ⟨(.type "type"), none, (.cls ⟨"_NodeInfo", [(.type "object")], [(.ref 54), (.type "object")], 53, "_NodeInfo", false, ["node", "npredecessors", "successors"], [], false, none, false⟩), #[none, none, (some (.str "_NodeInfo" 226)), (some (.str "_NodeInfo" 234)), (some (.builtin "object.__new__")), (some (.bool false))]⟩) ::
(nat_lit 55, ⟨(.type "member_descriptor"), none, (.fields #[(.str "node" 254), (.ref 54), (.builtin "proto.slot"), (.builtin "proto.slot#set"), (.int 2 0)]), #[]⟩) ::
(nat_lit 56, ⟨(.type "member_descriptor"), none, (.fields #[(.str "npredecessors" 256), (.ref 54), (.builtin "proto.slot"), (.builtin "proto.slot#set"), (.int 1 0)]), #[]⟩) ::
(nat_lit 57, ⟨(.type "member_descriptor"), none, (.fields #[(.str "successors" 258), (.ref 54), (.builtin "proto.slot"), (.builtin "proto.slot#set"), (.int 0 0)]), #[]⟩) ::
(nat_lit 60, ⟨(.type "tuple"), none, (.seq #[(.type "ValueError")] 0), #[]⟩) ::
(nat_lit 67, ⟨(.type "tuple"), none, (.seq #[] 0), #[]⟩) ::
(nat_lit 68, ⟨(.type "dict"), none, (.dict #[⟨(PySem.PyData.keyHash P "__module__"), (.str "__module__" 270), (.str "cpy313.graphlib" 218)⟩, ⟨(PySem.PyData.keyHash P "__firstlineno__"), (.str "__firstlineno__" 274), (.int 40 273)⟩, ⟨(PySem.PyData.keyHash P "__static_attributes__"), (.str "__static_attributes__" 275), (.ref 67)⟩, ⟨(PySem.PyData.keyHash P "__weakref__"), (.str "__weakref__" 277), (.ref 70)⟩, ⟨(PySem.PyData.keyHash P "__doc__"), (.str "__doc__" 278), .none⟩] 3), #[]⟩) ::
(nat_lit 69, ⟨(.type "type"), none, (.cls ⟨"CycleError", [(.type "ValueError")], [(.ref 69), (.type "ValueError"), (.type "Exception"), (.type "BaseException"), (.type "object")], 68, "CycleError", true, [], [], false, none, false⟩), #[(some (.ref 60)), none, (some (.str "CycleError" 263)), (some (.str "CycleError" 271)), (some (.builtin "ValueError.__new__")), (some (.bool true))]⟩) ::
(nat_lit 70, ⟨(.type "getset_descriptor"), none, (.fields #[(.str "__weakref__" 276), (.ref 69), (.builtin "ExceptionGroup.__weakref__"), .none]), #[]⟩) ::
(nat_lit 80, ⟨(.type "tuple"), none, (.seq #[.none] 0), #[]⟩) ::
(nat_lit 81, ⟨(.type "tuple"), none, (.seq #[] 0), #[]⟩) ::
(nat_lit 83, ⟨(.type "tuple"), none, (.seq #[(.str "self" 296), (.str "graph" 297), (.str "node" 298), (.str "predecessors" 299)] 0), #[]⟩) ::
(nat_lit 84, ⟨(.type "tuple"), none, (.seq #[] 0), #[]⟩) ::
(nat_lit 86, ⟨(.type "code"), none, (.fields (List.toArray ((.str "__init__" 293) :: (.str "TopologicalSorter.__init__" 294) :: (.str "/claim/cut.py" 295) :: (.int 44 0) :: (.int 2 0) :: (.int 0 0) :: (.int 0 0) :: (.int 3 0) :: (.ref 81) :: (.bool true) :: (.int 181 0) :: (.ref 82) :: .none :: (.ref 83) :: (.ref 84) :: (.ref 85) :: (.int 300 0) :: (.int 44 0) :: (.str "/claim/cut.py" 301) :: []))), #[]⟩) ::
(nat_lit 87, hd.fn (hd.nth (hd.cb (hd.nth hd.bd 9)) 0) rfl "TopologicalSorter.__init__" 3 [] (.ref 80) .none .none (.str "cpy313.graphlib" 218) none (.ref 86) .none 0) ::
(nat_lit 88, ⟨(.type "tuple"), none, (.seq #[] 0), #[]⟩) ::
(nat_lit 90, ⟨(.type "tuple"), none, (.seq #[(.str "self" 306), (.str "node" 307), (.str "result" 308)] 0), #[]⟩) ::
(nat_lit 91, ⟨(.type "tuple"), none, (.seq #[] 0), #[]⟩) ::
(nat_lit 93, ⟨(.type "code"), none, (.fields (List.toArray ((.str "_get_nodeinfo" 303) :: (.str "TopologicalSorter._get_nodeinfo" 304) :: (.str "/claim/cut.py" 305) :: (.int 53 0) :: (.int 2 0) :: (.int 0 0) :: (.int 0 0) :: (.int 3 0) :: (.ref 88) :: (.bool true) :: (.int 181 0) :: (.ref 89) :: .none :: (.ref 90) :: (.ref 91) :: (.ref 92) :: (.int 309 0) :: (.int 53 0) :: (.str "/claim/cut.py" 310) :: []))), #[]⟩) ::
(nat_lit 94, hd.fn (hd.nth (hd.cb (hd.nth hd.bd 9)) 1) rfl "TopologicalSorter._get_nodeinfo" 3 [] .none .none .none (.str "cpy313.graphlib" 218) none (.ref 93) .none 0) ::
(nat_lit 95, ⟨(.type "tuple"), none, (.seq #[] 0), #[]⟩) ::
(nat_lit 97, ⟨(.type "tuple"), none, (.seq #[(.str "self" 315), (.str "node" 316), (.str "predecessors" 317), (.str "nodeinfo" 318), (.str "pred" 319), (.str "pred_info" 320)] 0), #[]⟩) ::
(nat_lit 98, ⟨(.type "tuple"), none, (.seq #[] 0), #[]⟩) ::
(nat_lit 100, ⟨(.type "code"), none, (.fields (List.toArray ((.str "add" 312) :: (.str "TopologicalSorter.add" 313) :: (.str "/claim/cut.py" 314) :: (.int 58 0) :: (.int 2 0) :: (.int 0 0) :: (.int 0 0) :: (.int 7 0) :: (.ref 95) :: (.bool true) :: (.int 181 0) :: (.ref 96) :: .none :: (.ref 97) :: (.ref 98) :: (.ref 99) :: (.int 321 0) :: (.int 58 0) :: (.str "/claim/cut.py" 322) :: []))), #[]⟩) ::
(nat_lit 101, hd.fn (hd.nth (hd.cb (hd.nth hd.bd 9)) 2) rfl "TopologicalSorter.add" 3 [] .none .none .none (.str "cpy313.graphlib" 218) none (.ref 100) .none 0) ::
(nat_lit 102, ⟨(.type "tuple"), none, (.seq #[] 0), #[]⟩) ::
(nat_lit 105, ⟨(.type "code"), none, (.fields (List.toArray ((.str "prepare" 324) :: (.str "TopologicalSorter.prepare" 325) :: (.str "/claim/cut.py" 326) :: (.int 67 0) :: (.int 1 0) :: (.int 0 0) :: (.int 0 0) :: (.int 3 0) :: (.ref 102) :: (.bool true) :: (.int 181 0) :: (.ref 103) :: .none :: .none :: .none :: (.ref 104) :: (.int 327 0) :: (.int 67 0) :: (.str "/claim/cut.py" 328) :: []))), #[]⟩) ::
(nat_lit 106, hd.fn (hd.nth (hd.cb (hd.nth hd.bd 9)) 3) rfl "TopologicalSorter.prepare" 3 [] .none .none .none (.str "cpy313.graphlib" 218) none (.ref 105) .none 0) ::
(nat_lit 107, ⟨(.type "tuple"), none, (.seq #[] 0), #[]⟩) ::
(nat_lit 109, ⟨(.type "tuple"), none, (.seq #[(.str "self" 333), (.str "result" 334), (.str "n2i" 335), (.str "node" 336)] 0), #[]⟩) ::
(nat_lit 110, ⟨(.type "tuple"), none, (.seq #[] 0), #[]⟩) ::
(nat_lit 112, ⟨(.type "code"), none, (.fields (List.toArray ((.str "get_ready" 330) :: (.str "TopologicalSorter.get_ready" 331) :: (.str "/claim/cut.py" 332) :: (.int 75 0) :: (.int 1 0) :: (.int 0 0) :: (.int 0 0) :: (.int 3 0) :: (.ref 107) :: (.bool true) :: (.int 181 0) :: (.ref 108) :: .none :: (.ref 109) :: (.ref 110) :: (.ref 111) :: (.int 337 0) :: (.int 75 0) :: (.str "/claim/cut.py" 338) :: []))), #[]⟩) ::
(nat_lit 113, hd.fn (hd.nth (hd.cb (hd.nth hd.bd 9)) 4) rfl "TopologicalSorter.get_ready" 3 [] .none .none .none (.str "cpy313.graphlib" 218) none (.ref 112) .none 0) ::
(nat_lit 114, ⟨(.type "tuple"), none, (.seq #[] 0), #[]⟩) ::
(nat_lit 116, ⟨(.type "tuple"), none, (.seq #[(.str "self" 343)] 0), #[]⟩) ::
(nat_lit 117, ⟨(.type "tuple"), none, (.seq #[] 0), #[]⟩) ::
(nat_lit 119, ⟨(.type "code"), none, (.fields (List.toArray ((.str "is_active" 340) :: (.str "TopologicalSorter.is_active" 341) :: (.str "/claim/cut.py" 342) :: (.int 86 0) :: (.int 1 0) :: (.int 0 0) :: (.int 0 0) :: (.int 3 0) :: (.ref 114) :: (.bool true) :: (.int 181 0) :: (.ref 115) :: .none :: (.ref 116) :: (.ref 117) :: (.ref 118) :: (.int 344 0) :: (.int 86 0) :: (.str "/claim/cut.py" 345) :: []))), #[]⟩) ::
(nat_lit 120, hd.fn (hd.nth (hd.cb (hd.nth hd.bd 9)) 5) rfl "TopologicalSorter.is_active" 3 [] .none .none .none (.str "cpy313.graphlib" 218) none (.ref 119) .none 0) ::
(nat_lit 121, ⟨(.type "tuple"), none, (.seq #[] 0), #[]⟩) ::
(nat_lit 123, ⟨(.type "tuple"), none, (.seq #[(.str "self" 350)] 0), #[]⟩) ::
(nat_lit 124, ⟨(.type "tuple"), none, (.seq #[] 0), #[]⟩) ::
(nat_lit 126, ⟨(.type "code"), none, (.fields (List.toArray ((.str "__bool__" 347) :: (.str "TopologicalSorter.__bool__" 348) :: (.str "/claim/cut.py" 349) :: (.int 91 0) :: (.int 1 0) :: (.int 0 0) :: (.int 0 0) :: (.int 3 0) :: (.ref 121) :: (.bool true) :: (.int 181 0) :: (.ref 122) :: .none :: (.ref 123) :: (.ref 124) :: (.ref 125) :: (.int 351 0) :: (.int 91 0) :: (.str "/claim/cut.py" 352) :: []))), #[]⟩) ::
(nat_lit 127, hd.fn (hd.nth (hd.cb (hd.nth hd.bd 9)) 6) rfl "TopologicalSorter.__bool__" 3 [] .none .none .none (.str "cpy313.graphlib" 218) none (.ref 126) .none 0) ::
(nat_lit 128, ⟨(.type "tuple"), none, (.seq #[] 0), #[]⟩) ::
(nat_lit 130, ⟨(.type "tuple"), none, (.seq #[(.str "self" 357), (.str "nodes" 358), (.str "n2i" 359), (.str "node" 360), (.str "nodeinfo" 361), (.str "stat" 362), (.str "successor" 363), (.str "successor_info" 364)] 0), #[]⟩) ::
(nat_lit 131, ⟨(.type "tuple"), none, (.seq #[] 0), #[]⟩) ::
(nat_lit 133, ⟨(.type "code"), none, (.fields (List.toArray ((.str "done" 354) :: (.str "TopologicalSorter.done" 355) :: (.str "/claim/cut.py" 356) :: (.int 94 0) :: (.int 1 0) :: (.int 0 0) :: (.int 0 0) :: (.int 7 0) :: (.ref 128) :: (.bool true) :: (.int 181 0) :: (.ref 129) :: .none :: (.ref 130) :: (.ref 131) :: (.ref 132) :: (.int 365 0) :: (.int 94 0) :: (.str "/claim/cut.py" 366) :: []))), #[]⟩) ::
(nat_lit 134, hd.fn (hd.nth (hd.cb (hd.nth hd.bd 9)) 7) rfl "TopologicalSorter.done" 3 [] .none .none .none (.str "cpy313.graphlib" 218) none (.ref 133) .none 0) ::
(nat_lit 135, ⟨(.type "tuple"), none, (.seq #[] 0), #[]⟩) ::
(nat_lit 137, ⟨(.type "tuple"), none, (.seq #[(.str "self" 371), (.str "n2i" 372), (.str "stack" 373), (.str "itstack" 374), (.str "seen" 375), (.str "node2stacki" 376), (.str "node" 377)] 0), #[]⟩) ::
(nat_lit 138, ⟨(.type "tuple"), none, (.seq #[] 0), #[]⟩) ::
(nat_lit 140, ⟨(.type "code"), none, (.fields (List.toArray ((.str "_find_cycle" 368) :: (.str "TopologicalSorter._find_cycle" 369) :: (.str "/claim/cut.py" 370) :: (.int 117 0) :: (.int 1 0) :: (.int 0 0) :: (.int 0 0) :: (.int 3 0) :: (.ref 135) :: (.bool true) :: (.int 181 0) :: (.ref 136) :: .none :: (.ref 137) :: (.ref 138) :: (.ref 139) :: (.int 378 0) :: (.int 117 0) :: (.str "/claim/cut.py" 379) :: []))), #[]⟩) ::
(nat_lit 141, hd.fn (hd.nth (hd.cb (hd.nth hd.bd 9)) 8) rfl "TopologicalSorter._find_cycle" 3 [] .none .none .none (.str "cpy313.graphlib" 218) none (.ref 140) .none 0) ::
(nat_lit 142, ⟨(.type "tuple"), none, (.seq #[] 0), #[]⟩) ::
(nat_lit 144, ⟨(.type "tuple"), none, (.seq #[(.str "self" 384)] 0), #[]⟩) ::
(nat_lit 145, ⟨(.type "tuple"), none, (.seq #[] 0), #[]⟩) ::
(nat_lit 147, ⟨(.type "code"), none, (.fields (List.toArray ((.str "static_order" 381) :: (.str "TopologicalSorter.static_order" 382) :: (.str "/claim/cut.py" 383) :: (.int 146 0) :: (.int 1 0) :: (.int 0 0) :: (.int 0 0) :: (.int 3 0) :: (.ref 142) :: (.bool true) :: (.int 181 0) :: (.ref 143) :: .none :: (.ref 144) :: (.ref 145) :: (.ref 146) :: (.int 385 0) :: (.int 146 0) :: (.str "/claim/cut.py" 386) :: []))), #[]⟩) ::
(nat_lit 148, hd.fn (hd.nth (hd.cb (hd.nth hd.bd 9)) 9) rfl "TopologicalSorter.static_order" 3 [] .none .none .none (.str "cpy313.graphlib" 218) none (.ref 147) .none 0) ::
(nat_lit 149, ⟨(.type "tuple"), none, (.seq #[(.str "_nfinished" 388), (.str "_node2info" 389), (.str "_npassedout" 390), (.str "_ready_nodes" 391)] 0), #[]⟩) ::
(nat_lit 150, ⟨(.type "dict"), none, (.dict (List.toArray (⟨(PySem.PyData.keyHash P "__module__"), (.str "__module__" 288), (.str "cpy313.graphlib" 218)⟩ :: ⟨(PySem.PyData.keyHash P "__firstlineno__"), (.str "__firstlineno__" 292), (.int 42 291)⟩ :: ⟨(PySem.PyData.keyHash P "__init__"), (.str "__init__" 302), (.ref 87)⟩ :: ⟨(PySem.PyData.keyHash P "_get_nodeinfo"), (.str "_get_nodeinfo" 311), (.ref 94)⟩ :: ⟨(PySem.PyData.keyHash P "add"), (.str "add" 323), (.ref 101)⟩ :: ⟨(PySem.PyData.keyHash P "prepare"), (.str "prepare" 329), (.ref 106)⟩ :: ⟨(PySem.PyData.keyHash P "get_ready"), (.str "get_ready" 339), (.ref 113)⟩ :: ⟨(PySem.PyData.keyHash P "is_active"), (.str "is_active" 346), (.ref 120)⟩ :: ⟨(PySem.PyData.keyHash P "__bool__"), (.str "__bool__" 353), (.ref 127)⟩ :: ⟨(PySem.PyData.keyHash P "done"), (.str "done" 367), (.ref 134)⟩ :: ⟨(PySem.PyData.keyHash P "_find_cycle"), (.str "_find_cycle" 380), (.ref 141)⟩ :: ⟨(PySem.PyData.keyHash P "static_order"), (.str "static_order" 387), (.ref 148)⟩ :: ⟨(PySem.PyData.keyHash P "__static_attributes__"), (.str "__static_attributes__" 392), (.ref 149)⟩ :: ⟨(PySem.PyData.keyHash P "__dict__"), (.str "__dict__" 394), (.ref 152)⟩ :: ⟨(PySem.PyData.keyHash P "__weakref__"), (.str "__weakref__" 396), (.ref 153)⟩ :: ⟨(PySem.PyData.keyHash P "__doc__"), (.str "__doc__" 397), .none⟩ :: [])) 4), #[]⟩) ::
(nat_lit 151, ⟨(.type "type"), none, (.cls ⟨"TopologicalSorter", [(.type "object")], [(.ref 151), (.type "object")], 150, "TopologicalSorter", true, [], [], false, none, false⟩), #[none, none, (some (.str "TopologicalSorter" 281)), (some (.str "TopologicalSorter" 289)), (some (.builtin "object.__new__")), (some (.bool true))]⟩) ::
(nat_lit 152, ⟨(.type "getset_descriptor"), none, (.fields #[(.str "__dict__" 393), (.ref 151), (.builtin "function.__dict__"), (.builtin "function.__dict__#set")]), #[]⟩) ::
(nat_lit 153, ⟨(.type "getset_descriptor"), none, (.fields #[(.str "__weakref__" 395), (.ref 151), (.builtin "ExceptionGroup.__weakref__"), .none]), #[]⟩) ::
(nat_lit 156, ⟨(.type "tuple"), none, (.seq #[] 0), #[]⟩) ::
(nat_lit 158, ⟨(.type "tuple"), none, (.seq #[(.str "mode" 405)] 0), #[]⟩) ::
(nat_lit 159, ⟨(.type "tuple"), none, (.seq #[] 0), #[]⟩) ::
(nat_lit 161, ⟨(.type "code"), none, (.fields (List.toArray ((.str "S_IFMT" 402) :: (.str "S_IFMT" 403) :: (.str "/claim/cut.py" 404) :: (.int 149 0) :: (.int 1 0) :: (.int 0 0) :: (.int 0 0) :: (.int 3 0) :: (.ref 156) :: (.bool true) :: (.int 181 0) :: (.ref 157) :: .none :: (.ref 158) :: (.ref 159) :: (.ref 160) :: (.int 406 0) :: (.int 149 0) :: (.str "/claim/cut.py" 407) :: []))), #[]⟩) ::
(nat_lit 162, hd.fn (hd.nth hd.bd 11) rfl "S_IFMT" 3 [] .none .none .none (.str "cpy313.stat" 400) none (.ref 161) .none 0) ::
(nat_lit 163, ⟨(.type "tuple"), none, (.seq #[(.int 40960 419), (.str "l" 447)] 0), #[]⟩) ::
(nat_lit 164, ⟨(.type "tuple"), none, (.seq #[(.int 49152 421), (.str "s" 448)] 0), #[]⟩) ::
(nat_lit 165, ⟨(.type "tuple"), none, (.seq #[(.int 32768 415), (.str "-" 449)] 0), #[]⟩) ::
(nat_lit 166, ⟨(.type "tuple"), none, (.seq #[(.int 24576 413), (.str "b" 450)] 0), #[]⟩) ::
(nat_lit 167, ⟨(.type "tuple"), none, (.seq #[(.int 16384 409), (.str "d" 451)] 0), #[]⟩) ::
(nat_lit 168, ⟨(.type "tuple"), none, (.seq #[(.int 8192 411), (.str "c" 452)] 0), #[]⟩) ::
(nat_lit 169, ⟨(.type "tuple"), none, (.seq #[(.int 4096 417), (.str "p" 453)] 0), #[]⟩) ::
(nat_lit 170, ⟨(.type "tuple"), none, (.seq #[(.ref 163), (.ref 164), (.ref 165), (.ref 166), (.ref 167), (.ref 168), (.ref 169)] 0), #[]⟩) ::
(nat_lit 171, ⟨(.type "tuple"), none, (.seq #[(.int 256 429), (.str "r" 454)] 0), #[]⟩) ::
(nat_lit 172, ⟨(.type "tuple"), none, (.seq #[(.ref 171)] 0), #[]⟩) ::
(nat_lit 173, ⟨(.type "tuple"), none, (.seq #[(.int 128 431), (.str "w" 455)] 0), #[]⟩) ::
(nat_lit 174, ⟨(.type "tuple"), none, (.seq #[(.ref 173)] 0), #[]⟩) ::
(nat_lit 175, ⟨(.type "tuple"), none, (.seq #[(.int 2112 456), (.str "s" 457)] 0), #[]⟩) ::
(nat_lit 176, ⟨(.type "tuple"), none, (.seq #[(.int 2048 423), (.str "S" 458)] 0), #[]⟩) ::
(nat_lit 177, ⟨(.type "tuple"), none, (.seq #[(.int 64 433), (.str "x" 459)] 0), #[]⟩) ::
(nat_lit 178, ⟨(.type "tuple"), none, (.seq #[(.ref 175), (.ref 176), (.ref 177)] 0), #[]⟩) ::
(nat_lit 179, ⟨(.type "tuple"), none, (.seq #[(.int 32 435), (.str "r" 460)] 0), #[]⟩) ::
(nat_lit 180, ⟨(.type "tuple"), none, (.seq #[(.ref 179)] 0), #[]⟩) ::
(nat_lit 181, ⟨(.type "tuple"), none, (.seq #[(.int 16 437), (.str "w" 461)] 0), #[]⟩) ::
(nat_lit 182, ⟨(.type "tuple"), none, (.seq #[(.ref 181)] 0), #[]⟩) ::
(nat_lit 183, ⟨(.type "tuple"), none, (.seq #[(.int 1032 462), (.str "s" 463)] 0), #[]⟩) ::
(nat_lit 184, ⟨(.type "tuple"), none, (.seq #[(.int 1024 425), (.str "S" 464)] 0), #[]⟩) ::
(nat_lit 185, ⟨(.type "tuple"), none, (.seq #[(.int 8 439), (.str "x" 465)] 0), #[]⟩) ::
(nat_lit 186, ⟨(.type "tuple"), none, (.seq #[(.ref 183), (.ref 184), (.ref 185)] 0), #[]⟩) ::
(nat_lit 187, ⟨(.type "tuple"), none, (.seq #[(.int 4 441), (.str "r" 466)] 0), #[]⟩) ::
(nat_lit 188, ⟨(.type "tuple"), none, (.seq #[(.ref 187)] 0), #[]⟩) ::
(nat_lit 189, ⟨(.type "tuple"), none, (.seq #[(.int 2 443), (.str "w" 467)] 0), #[]⟩) ::
(nat_lit 190, ⟨(.type "tuple"), none, (.seq #[(.ref 189)] 0), #[]⟩) ::
(nat_lit 191, ⟨(.type "tuple"), none, (.seq #[(.int 513 468), (.str "t" 469)] 0), #[]⟩) ::
(nat_lit 192, ⟨(.type "tuple"), none, (.seq #[(.int 512 427), (.str "T" 470)] 0), #[]⟩) ::
(nat_lit 193, ⟨(.type "tuple"), none, (.seq #[(.int 1 445), (.str "x" 471)] 0), #[]⟩) ::
(nat_lit 194, ⟨(.type "tuple"), none, (.seq #[(.ref 191), (.ref 192), (.ref 193)] 0), #[]⟩) ::
(nat_lit 195, ⟨(.type "tuple"), none, (.seq #[(.ref 170), (.ref 172), (.ref 174), (.ref 178), (.ref 180), (.ref 182), (.ref 186), (.ref 188), (.ref 190), (.ref 194)] 0), #[]⟩) ::
(nat_lit 196, ⟨(.type "tuple"), none, (.seq #[] 0), #[]⟩) ::
(nat_lit 198, ⟨(.type "tuple"), none, (.seq #[(.str "mode" 476), (.str "perm" 477), (.str "index" 478), (.str "table" 479), (.str "bit" 480), (.str "char" 481)] 0), #[]⟩) ::
(nat_lit 199, ⟨(.type "tuple"), none, (.seq #[] 0), #[]⟩) ::
(nat_lit 201, ⟨(.type "code"), none, (.fields (List.toArray ((.str "filemode" 473) :: (.str "filemode" 474) :: (.str "/claim/cut.py" 475) :: (.int 171 0) :: (.int 1 0) :: (.int 0 0) :: (.int 0 0) :: (.int 3 0) :: (.ref 196) :: (.bool true) :: (.int 181 0) :: (.ref 197) :: .none :: (.ref 198) :: (.ref 199) :: (.ref 200) :: (.int 482 0) :: (.int 171 0) :: (.str "/claim/cut.py" 483) :: []))), #[]⟩) ::
(nat_lit 202, hd.fn (hd.nth hd.bd 32) rfl "filemode" 3 [] .none .none .none (.str "cpy313.stat" 400) none (.ref 201) .none 0) ::
(nat_lit 203, ⟨(.type "tuple"), none, (.seq #[] 0), #[]⟩) ::
(nat_lit 206, ⟨(.type "code"), none, (.fields (List.toArray ((.str "_law_told" 487) :: (.str "_law_told" 488) :: (.str "/claim/cut.py" 489) :: (.int 189 0) :: (.int 1 0) :: (.int 0 0) :: (.int 0 0) :: (.int 3 0) :: (.ref 203) :: (.bool true) :: (.int 181 0) :: (.ref 204) :: .none :: .none :: .none :: (.ref 205) :: (.int 490 0) :: (.int 189 0) :: (.str "/claim/cut.py" 491) :: []))), #[]⟩) ::
(nat_lit 207, hd.fn (hd.nth hd.bd 34) rfl "_law_told" 3 [] .none .none .none (.str "law_nq0238_01" 485) none (.ref 206) .none 0) ::
(nat_lit 208, ⟨(.type "tuple"), none, (.seq #[] 0), #[]⟩) ::
(nat_lit 211, ⟨(.type "code"), none, (.fields (List.toArray ((.str "_law_due" 493) :: (.str "_law_due" 494) :: (.str "/claim/cut.py" 495) :: (.int 206 0) :: (.int 1 0) :: (.int 0 0) :: (.int 0 0) :: (.int 3 0) :: (.ref 208) :: (.bool true) :: (.int 181 0) :: (.ref 209) :: .none :: .none :: .none :: (.ref 210) :: (.int 496 0) :: (.int 206 0) :: (.str "/claim/cut.py" 497) :: []))), #[]⟩) ::
(nat_lit 212, hd.fn (hd.nth hd.bd 35) rfl "_law_due" 3 [] .none .none .none (.str "law_nq0238_01" 485) none (.ref 211) .none 0) ::
(nat_lit 213, ⟨(.type "tuple"), none, (.seq #[] 0), #[]⟩) ::
(nat_lit 216, ⟨(.type "code"), none, (.fields (List.toArray ((.str "law" 499) :: (.str "law" 500) :: (.str "/claim/cut.py" 501) :: (.int 219 0) :: (.int 1 0) :: (.int 0 0) :: (.int 0 0) :: (.int 3 0) :: (.ref 213) :: (.bool true) :: (.int 181 0) :: (.ref 214) :: .none :: .none :: .none :: (.ref 215) :: (.int 502 0) :: (.int 219 0) :: (.str "/claim/cut.py" 503) :: []))), #[]⟩) ::
(nat_lit 217, hd.fn (hd.nth hd.bd 36) rfl "law" 3 [] .none .none .none (.str "law_nq0238_01" 485) none (.ref 216) .none 0) ::
[]
noncomputable def hd.kg (P : Params) (a : Nat) : Obj := ((hd.heap_39 P).lookup a).getD default
noncomputable def hd.kf (P : Params) (a : Nat) : FuncData := match (hd.kg P a).data with | .func f => f | _ => default
noncomputable def hd.o43 (P : Params) : Obj := hd.kg P 15
noncomputable def hd.o44 (P : Params) : Obj := ⟨.none, none, (.fields #[]), #[]⟩
noncomputable def hd.o45 (P : Params) : Obj := ⟨(.type "code"), none, (.fields (List.toArray ((.str "<module>" 182) :: (.str "<module>" 183) :: (.str "/claim/cut.py" 184) :: (.int 1 0) :: (.int 0 0) :: (.int 0 0) :: (.int 0 0) :: (.int 0 0) :: (.ref 11) :: (.bool false) :: (.int 181 0) :: (.ref 12) :: .none :: .none :: .none :: .none :: (.int 185 0) :: (.int 1 0) :: (.str "/claim/cut.py" 186) :: []))), #[]⟩
noncomputable def hd.o46 (P : Params) : Obj := ⟨(.type "frame"), none, .plain, #[(some (.ref 13)), (some (.ref 3)), (some (.ref 3)), none, (some (.str "__main__" 164)), none, (some (.ref 0))]⟩
noncomputable def hd.o49 (P : Params) : Obj := ⟨(.type "dict"), none, (.dict #[⟨(PySem.PyData.keyHash P "__name__"), (.str "__name__" 165), (.str "cpy313.graphlib" 218)⟩, ⟨(PySem.PyData.keyHash P "__doc__"), (.str "__doc__" 166), .none⟩, ⟨(PySem.PyData.keyHash P "__package__"), (.str "__package__" 167), .none⟩, ⟨(PySem.PyData.keyHash P "__loader__"), (.str "__loader__" 168), (.builtin "__main__.__loader__#opaque")⟩, ⟨(PySem.PyData.keyHash P "__spec__"), (.str "__spec__" 169), .none⟩, ⟨(PySem.PyData.keyHash P "__annotations__"), (.str "__annotations__" 170), (.ref 6)⟩, ⟨(PySem.PyData.keyHash P "__builtins__"), (.str "__builtins__" 171), (.ref 4)⟩, ⟨(PySem.PyData.keyHash P "__file__"), (.str "__file__" 173), (.str "/claim/cut.py" 172)⟩, ⟨(PySem.PyData.keyHash P "__cached__"), (.str "__cached__" 174), .none⟩, ⟨(PySem.PyData.keyHash P "_wall"), (.str "_wall" 193), (.ref 21)⟩, ⟨(PySem.PyData.keyHash P "_int2digits"), (.str "_int2digits" 206), (.ref 28)⟩, ⟨(PySem.PyData.keyHash P "_digits2int"), (.str "_digits2int" 217), (.ref 35)⟩, ⟨(PySem.PyData.keyHash P "_NODE_OUT"), (.str "_NODE_OUT" 222), (.int (Neg.neg 1) 221)⟩, ⟨(PySem.PyData.keyHash P "_NODE_DONE"), (.str "_NODE_DONE" 225), (.int (Neg.neg 2) 224)⟩] 14), #[]⟩
noncomputable def hd.o50 (P : Params) : Obj := ⟨.none, none, (.fields #[(.int 1 0), (.int 0 0), (.ref 20), (.int 5 0), (.int 0 0), (.ref 27), (.int 21 0), (.int 0 0), (.ref 34)]), #[]⟩
noncomputable def hd.o51 (P : Params) : Obj := hd.kg P 15
noncomputable def hd.o52 (P : Params) : Obj := ⟨.none, none, (.fields #[]), #[]⟩
noncomputable def hd.o53 (P : Params) : Obj := hd.kg P 17
noncomputable def hd.o54 (P : Params) : Obj := hd.kg P 15
noncomputable def hd.o55 (P : Params) : Obj := ⟨.none, none, (.func ⟨"_wall", "_wall", (hd.kf P 21).params, (hd.kf P 21).body, (hd.kf P 21).scope, 0, [], .none, .none, .none, .none, none, .none, .none, 0⟩), #[]⟩
noncomputable def hd.o56 (P : Params) : Obj := hd.kg P 20
noncomputable def hd.o57 (P : Params) : Obj := hd.kg P 21
noncomputable def hd.o58 (P : Params) : Obj := hd.kg P 15
noncomputable def hd.o59 (P : Params) : Obj := ⟨.none, none, (.fields #[]), #[]⟩
noncomputable def hd.o60 (P : Params) : Obj := hd.kg P 24
noncomputable def hd.o61 (P : Params) : Obj := hd.kg P 25
noncomputable def hd.o62 (P : Params) : Obj := ⟨.none, none, (.func ⟨"_int2digits", "_int2digits", (hd.kf P 28).params, (hd.kf P 28).body, (hd.kf P 28).scope, 0, [], .none, .none, .none, .none, none, .none, .none, 0⟩), #[]⟩
noncomputable def hd.o63 (P : Params) : Obj := hd.kg P 27
noncomputable def hd.o64 (P : Params) : Obj := hd.kg P 28
noncomputable def hd.o65 (P : Params) : Obj := hd.kg P 15
noncomputable def hd.o66 (P : Params) : Obj := ⟨.none, none, (.fields #[]), #[]⟩
noncomputable def hd.o67 (P : Params) : Obj := hd.kg P 31
noncomputable def hd.o68 (P : Params) : Obj := hd.kg P 32
noncomputable def hd.o69 (P : Params) : Obj := ⟨.none, none, (.func ⟨"_digits2int", "_digits2int", (hd.kf P 35).params, (hd.kf P 35).body, (hd.kf P 35).scope, 0, [], .none, .none, .none, .none, none, .none, .none, 0⟩), #[]⟩
noncomputable def hd.o70 (P : Params) : Obj := hd.kg P 34
noncomputable def hd.o71 (P : Params) : Obj := hd.kg P 35
noncomputable def hd.o72 (P : Params) : Obj := ⟨(.type "dict"), none, (.dict #[⟨(PySem.PyData.keyHash P "__name__"), (.str "__name__" 165), (.str "cpy313.graphlib" 218)⟩, ⟨(PySem.PyData.keyHash P "__doc__"), (.str "__doc__" 166), .none⟩, ⟨(PySem.PyData.keyHash P "__package__"), (.str "__package__" 167), .none⟩, ⟨(PySem.PyData.keyHash P "__loader__"), (.str "__loader__" 168), (.builtin "__main__.__loader__#opaque")⟩, ⟨(PySem.PyData.keyHash P "__spec__"), (.str "__spec__" 169), .none⟩, ⟨(PySem.PyData.keyHash P "__annotations__"), (.str "__annotations__" 170), (.ref 6)⟩, ⟨(PySem.PyData.keyHash P "__builtins__"), (.str "__builtins__" 171), (.ref 4)⟩, ⟨(PySem.PyData.keyHash P "__file__"), (.str "__file__" 173), (.str "/claim/cut.py" 172)⟩, ⟨(PySem.PyData.keyHash P "__cached__"), (.str "__cached__" 174), .none⟩, ⟨(PySem.PyData.keyHash P "_wall"), (.str "_wall" 193), (.ref 21)⟩, ⟨(PySem.PyData.keyHash P "_int2digits"), (.str "_int2digits" 206), (.ref 28)⟩, ⟨(PySem.PyData.keyHash P "_digits2int"), (.str "_digits2int" 217), (.ref 35)⟩, ⟨(PySem.PyData.keyHash P "_NODE_OUT"), (.str "_NODE_OUT" 222), (.int (Neg.neg 1) 221)⟩, ⟨(PySem.PyData.keyHash P "_NODE_DONE"), (.str "_NODE_DONE" 225), (.int (Neg.neg 2) 224)⟩, ⟨(PySem.PyData.keyHash P "_NodeInfo"), (.str "_NodeInfo" 262), (.ref 54)⟩] 15), #[]⟩
noncomputable def hd.o73 (P : Params) : Obj := ⟨.none, none, (.fields #[(.int 1 0), (.int 0 0), (.ref 20), (.int 5 0), (.int 0 0), (.ref 27), (.int 21 0), (.int 0 0), (.ref 34), (.int 33 0), (.int 0 0), (.ref 41)]), #[]⟩
noncomputable def hd.o74 (P : Params) : Obj := hd.kg P 15
noncomputable def hd.o75 (P : Params) : Obj := ⟨(.type "builtin_function_or_method"), none, (.fields #[(.builtin "type.__prepare__"), (.type "type")]), #[]⟩
noncomputable def hd.o76 (P : Params) : Obj := ⟨(.type "dict"), none, (.dict #[⟨(PySem.PyData.keyHash P "__module__"), (.str "__module__" 233), (.str "cpy313.graphlib" 218)⟩, ⟨(PySem.PyData.keyHash P "__qualname__"), (.str "__qualname__" 235), (.str "_NodeInfo" 234)⟩, ⟨(PySem.PyData.keyHash P "__firstlineno__"), (.str "__firstlineno__" 237), (.int 33 236)⟩, ⟨(PySem.PyData.keyHash P "__slots__"), (.str "__slots__" 241), (.ref 43)⟩, ⟨(PySem.PyData.keyHash P "__init__"), (.str "__init__" 249), (.ref 50)⟩, ⟨(PySem.PyData.keyHash P "__static_attributes__"), (.str "__static_attributes__" 253), (.ref 51)⟩] 6), #[]⟩
noncomputable def hd.o77 (P : Params) : Obj := hd.kg P 15
noncomputable def hd.o78 (P : Params) : Obj := ⟨.none, none, (.fields #[(.int 36 0), (.int 4 0), (.ref 49)]), #[]⟩
noncomputable def hd.o79 (P : Params) : Obj := ⟨(.type "code"), none, (.fields (List.toArray ((.str "_NodeInfo" 228) :: (.str "_NodeInfo" 229) :: (.str "/claim/cut.py" 230) :: (.int 33 0) :: (.int 0 0) :: (.int 0 0) :: (.int 0 0) :: (.int 0 0) :: (.ref 39) :: (.bool false) :: (.int 181 0) :: (.ref 40) :: .none :: .none :: .none :: .none :: (.int 231 0) :: (.int 33 0) :: (.str "/claim/cut.py" 232) :: []))), #[]⟩
noncomputable def hd.o80 (P : Params) : Obj := ⟨(.type "frame"), none, .plain, #[(some (.ref 41)), (some (.ref 3)), (some (.ref 38)), none, (some (.str "cpy313.graphlib" 218)), none, (some (.ref 0))]⟩
noncomputable def hd.o81 (P : Params) : Obj := hd.kg P 43
noncomputable def hd.o82 (P : Params) : Obj := hd.kg P 15
noncomputable def hd.o83 (P : Params) : Obj := ⟨.none, none, (.fields #[]), #[]⟩
noncomputable def hd.o84 (P : Params) : Obj := hd.kg P 46
noncomputable def hd.o85 (P : Params) : Obj := hd.kg P 15
noncomputable def hd.o86 (P : Params) : Obj := ⟨.none, none, (.func ⟨"__init__", "_NodeInfo.__init__", (hd.kf P 50).params, (hd.kf P 50).body, (hd.kf P 50).scope, 0, [], .none, .none, .none, .none, none, .none, .none, 0⟩), #[]⟩
noncomputable def hd.o87 (P : Params) : Obj := hd.kg P 49
noncomputable def hd.o88 (P : Params) : Obj := hd.kg P 50
noncomputable def hd.o89 (P : Params) : Obj := hd.kg P 51
noncomputable def hd.o90 (P : Params) : Obj := ⟨(.type "list"), none, (.seq #[(.str "node" 238), (.str "npredecessors" 239), (.str "successors" 240)] 1), #[]⟩
noncomputable def hd.o91 (P : Params) : Obj := hd.kg P 53
noncomputable def hd.o92 (P : Params) : Obj := hd.kg P 54
noncomputable def hd.o93 (P : Params) : Obj := hd.kg P 55
noncomputable def hd.o94 (P : Params) : Obj := hd.kg P 56
noncomputable def hd.o95 (P : Params) : Obj := hd.kg P 57
noncomputable def hd.o96 (P : Params) : Obj := ⟨(.type "super"), none, (.fields #[(.ref 54), (.ref 54), (.ref 54)]), #[]⟩
noncomputable def hd.o97 (P : Params) : Obj := ⟨(.type "builtin_function_or_method"), none, (.fields #[(.builtin "object.__init_subclass__"), (.ref 54)]), #[]⟩
noncomputable def hd.o98 (P : Params) : Obj := ⟨(.type "dict"), none, (.dict (List.toArray (⟨(PySem.PyData.keyHash P "__name__"), (.str "__name__" 165), (.str "cpy313.graphlib" 218)⟩ :: ⟨(PySem.PyData.keyHash P "__doc__"), (.str "__doc__" 166), .none⟩ :: ⟨(PySem.PyData.keyHash P "__package__"), (.str "__package__" 167), .none⟩ :: ⟨(PySem.PyData.keyHash P "__loader__"), (.str "__loader__" 168), (.builtin "__main__.__loader__#opaque")⟩ :: ⟨(PySem.PyData.keyHash P "__spec__"), (.str "__spec__" 169), .none⟩ :: ⟨(PySem.PyData.keyHash P "__annotations__"), (.str "__annotations__" 170), (.ref 6)⟩ :: ⟨(PySem.PyData.keyHash P "__builtins__"), (.str "__builtins__" 171), (.ref 4)⟩ :: ⟨(PySem.PyData.keyHash P "__file__"), (.str "__file__" 173), (.str "/claim/cut.py" 172)⟩ :: ⟨(PySem.PyData.keyHash P "__cached__"), (.str "__cached__" 174), .none⟩ :: ⟨(PySem.PyData.keyHash P "_wall"), (.str "_wall" 193), (.ref 21)⟩ :: ⟨(PySem.PyData.keyHash P "_int2digits"), (.str "_int2digits" 206), (.ref 28)⟩ :: ⟨(PySem.PyData.keyHash P "_digits2int"), (.str "_digits2int" 217), (.ref 35)⟩ :: ⟨(PySem.PyData.keyHash P "_NODE_OUT"), (.str "_NODE_OUT" 222), (.int (Neg.neg 1) 221)⟩ :: ⟨(PySem.PyData.keyHash P "_NODE_DONE"), (.str "_NODE_DONE" 225), (.int (Neg.neg 2) 224)⟩ :: ⟨(PySem.PyData.keyHash P "_NodeInfo"), (.str "_NodeInfo" 262), (.ref 54)⟩ :: ⟨(PySem.PyData.keyHash P "CycleError"), (.str "CycleError" 280), (.ref 69)⟩ :: [])) 16), #[]⟩
noncomputable def hd.o99 (P : Params) : Obj := ⟨.none, none, (.fields #[(.int 1 0), (.int 0 0), (.ref 20), (.int 5 0), (.int 0 0), (.ref 27), (.int 21 0), (.int 0 0), (.ref 34), (.int 33 0), (.int 0 0), (.ref 41), (.int 40 0), (.int 0 0), (.ref 65)]), #[]⟩
noncomputable def hd.o100 (P : Params) : Obj := hd.kg P 60
noncomputable def hd.o101 (P : Params) : Obj := ⟨(.type "builtin_function_or_method"), none, (.fields #[(.builtin "type.__prepare__"), (.type "type")]), #[]⟩
noncomputable def hd.o102 (P : Params) : Obj := ⟨(.type "dict"), none, (.dict #[⟨(PySem.PyData.keyHash P "__module__"), (.str "__module__" 270), (.str "cpy313.graphlib" 218)⟩, ⟨(PySem.PyData.keyHash P "__qualname__"), (.str "__qualname__" 272), (.str "CycleError" 271)⟩, ⟨(PySem.PyData.keyHash P "__firstlineno__"), (.str "__firstlineno__" 274), (.int 40 273)⟩, ⟨(PySem.PyData.keyHash P "__static_attributes__"), (.str "__static_attributes__" 275), (.ref 67)⟩] 4), #[]⟩
noncomputable def hd.o103 (P : Params) : Obj := hd.kg P 15
noncomputable def hd.o104 (P : Params) : Obj := ⟨.none, none, (.fields #[]), #[]⟩
noncomputable def hd.o105 (P : Params) : Obj := ⟨(.type "code"), none, (.fields (List.toArray ((.str "CycleError" 265) :: (.str "CycleError" 266) :: (.str "/claim/cut.py" 267) :: (.int 40 0) :: (.int 0 0) :: (.int 0 0) :: (.int 0 0) :: (.int 0 0) :: (.ref 63) :: (.bool false) :: (.int 181 0) :: (.ref 64) :: .none :: .none :: .none :: .none :: (.int 268 0) :: (.int 40 0) :: (.str "/claim/cut.py" 269) :: []))), #[]⟩
noncomputable def hd.o106 (P : Params) : Obj := ⟨(.type "frame"), none, .plain, #[(some (.ref 65)), (some (.ref 3)), (some (.ref 62)), none, (some (.str "cpy313.graphlib" 218)), none, (some (.ref 0))]⟩
noncomputable def hd.o107 (P : Params) : Obj := hd.kg P 15
noncomputable def hd.o108 (P : Params) : Obj := hd.kg P 68
noncomputable def hd.o109 (P : Params) : Obj := hd.kg P 69
noncomputable def hd.o110 (P : Params) : Obj := hd.kg P 70
noncomputable def hd.o111 (P : Params) : Obj := ⟨(.type "super"), none, (.fields #[(.ref 69), (.ref 69), (.ref 69)]), #[]⟩
noncomputable def hd.o112 (P : Params) : Obj := ⟨(.type "builtin_function_or_method"), none, (.fields #[(.builtin "object.__init_subclass__"), (.ref 69)]), #[]⟩
noncomputable def hd.o113 (P : Params) : Obj := ⟨(.type "dict"), none, (.dict (List.toArray (⟨(PySem.PyData.keyHash P "__name__"), (.str "__name__" 165), (.str "cpy313.graphlib" 218)⟩ :: ⟨(PySem.PyData.keyHash P "__doc__"), (.str "__doc__" 166), .none⟩ :: ⟨(PySem.PyData.keyHash P "__package__"), (.str "__package__" 167), .none⟩ :: ⟨(PySem.PyData.keyHash P "__loader__"), (.str "__loader__" 168), (.builtin "__main__.__loader__#opaque")⟩ :: ⟨(PySem.PyData.keyHash P "__spec__"), (.str "__spec__" 169), .none⟩ :: ⟨(PySem.PyData.keyHash P "__annotations__"), (.str "__annotations__" 170), (.ref 6)⟩ :: ⟨(PySem.PyData.keyHash P "__builtins__"), (.str "__builtins__" 171), (.ref 4)⟩ :: ⟨(PySem.PyData.keyHash P "__file__"), (.str "__file__" 173), (.str "/claim/cut.py" 172)⟩ :: ⟨(PySem.PyData.keyHash P "__cached__"), (.str "__cached__" 174), .none⟩ :: ⟨(PySem.PyData.keyHash P "_wall"), (.str "_wall" 193), (.ref 21)⟩ :: ⟨(PySem.PyData.keyHash P "_int2digits"), (.str "_int2digits" 206), (.ref 28)⟩ :: ⟨(PySem.PyData.keyHash P "_digits2int"), (.str "_digits2int" 217), (.ref 35)⟩ :: ⟨(PySem.PyData.keyHash P "_NODE_OUT"), (.str "_NODE_OUT" 222), (.int (Neg.neg 1) 221)⟩ :: ⟨(PySem.PyData.keyHash P "_NODE_DONE"), (.str "_NODE_DONE" 225), (.int (Neg.neg 2) 224)⟩ :: ⟨(PySem.PyData.keyHash P "_NodeInfo"), (.str "_NodeInfo" 262), (.ref 54)⟩ :: ⟨(PySem.PyData.keyHash P "CycleError"), (.str "CycleError" 280), (.ref 69)⟩ :: ⟨(PySem.PyData.keyHash P "TopologicalSorter"), (.str "TopologicalSorter" 399), (.ref 151)⟩ :: [])) 17), #[]⟩
noncomputable def hd.o114 (P : Params) : Obj := ⟨.none, none, (.fields (List.toArray ((.int 1 0) :: (.int 0 0) :: (.ref 20) :: (.int 5 0) :: (.int 0 0) :: (.ref 27) :: (.int 21 0) :: (.int 0 0) :: (.ref 34) :: (.int 33 0) :: (.int 0 0) :: (.ref 41) :: (.int 40 0) :: (.int 0 0) :: (.ref 65) :: (.int 42 0) :: (.int 0 0) :: (.ref 78) :: []))), #[]⟩
noncomputable def hd.o115 (P : Params) : Obj := hd.kg P 15
noncomputable def hd.o116 (P : Params) : Obj := ⟨(.type "builtin_function_or_method"), none, (.fields #[(.builtin "type.__prepare__"), (.type "type")]), #[]⟩
noncomputable def hd.o117 (P : Params) : Obj := ⟨(.type "dict"), none, (.dict #[⟨(PySem.PyData.keyHash P "__module__"), (.str "__module__" 288), (.str "cpy313.graphlib" 218)⟩, ⟨(PySem.PyData.keyHash P "__qualname__"), (.str "__qualname__" 290), (.str "TopologicalSorter" 289)⟩, ⟨(PySem.PyData.keyHash P "__firstlineno__"), (.str "__firstlineno__" 292), (.int 42 291)⟩, ⟨(PySem.PyData.keyHash P "__init__"), (.str "__init__" 302), (.ref 87)⟩, ⟨(PySem.PyData.keyHash P "_get_nodeinfo"), (.str "_get_nodeinfo" 311), (.ref 94)⟩, ⟨(PySem.PyData.keyHash P "add"), (.str "add" 323), (.ref 101)⟩, ⟨(PySem.PyData.keyHash P "prepare"), (.str "prepare" 329), (.ref 106)⟩, ⟨(PySem.PyData.keyHash P "get_ready"), (.str "get_ready" 339), (.ref 113)⟩, ⟨(PySem.PyData.keyHash P "is_active"), (.str "is_active" 346), (.ref 120)⟩, ⟨(PySem.PyData.keyHash P "__bool__"), (.str "__bool__" 353), (.ref 127)⟩, ⟨(PySem.PyData.keyHash P "done"), (.str "done" 367), (.ref 134)⟩, ⟨(PySem.PyData.keyHash P "_find_cycle"), (.str "_find_cycle" 380), (.ref 141)⟩, ⟨(PySem.PyData.keyHash P "static_order"), (.str "static_order" 387), (.ref 148)⟩, ⟨(PySem.PyData.keyHash P "__static_attributes__"), (.str "__static_attributes__" 392), (.ref 149)⟩] 14), #[]⟩
noncomputable def hd.o118 (P : Params) : Obj := hd.kg P 15
noncomputable def hd.o119 (P : Params) : Obj := ⟨.none, none, (.fields (List.toArray ((.int 44 0) :: (.int 4 0) :: (.ref 86) :: (.int 53 0) :: (.int 4 0) :: (.ref 93) :: (.int 58 0) :: (.int 4 0) :: (.ref 100) :: (.int 67 0) :: (.int 4 0) :: (.ref 105) :: (.int 75 0) :: (.int 4 0) :: (.ref 112) :: (.int 86 0) :: (.int 4 0) :: (.ref 119) :: (.int 91 0) :: (.int 4 0) :: (.ref 126) :: (.int 94 0) :: (.int 4 0) :: (.ref 133) :: (.int 117 0) :: (.int 4 0) :: (.ref 140) :: (.int 146 0) :: (.int 4 0) :: (.ref 147) :: []))), #[]⟩
noncomputable def hd.o120 (P : Params) : Obj := ⟨(.type "code"), none, (.fields (List.toArray ((.str "TopologicalSorter" 283) :: (.str "TopologicalSorter" 284) :: (.str "/claim/cut.py" 285) :: (.int 42 0) :: (.int 0 0) :: (.int 0 0) :: (.int 0 0) :: (.int 0 0) :: (.ref 76) :: (.bool false) :: (.int 181 0) :: (.ref 77) :: .none :: .none :: .none :: .none :: (.int 286 0) :: (.int 42 0) :: (.str "/claim/cut.py" 287) :: []))), #[]⟩
noncomputable def hd.o121 (P : Params) : Obj := ⟨(.type "frame"), none, .plain, #[(some (.ref 78)), (some (.ref 3)), (some (.ref 75)), none, (some (.str "cpy313.graphlib" 218)), none, (some (.ref 0))]⟩
noncomputable def hd.o122 (P : Params) : Obj := hd.kg P 80
noncomputable def hd.o123 (P : Params) : Obj := hd.kg P 15
noncomputable def hd.o124 (P : Params) : Obj := ⟨.none, none, (.fields #[]), #[]⟩
noncomputable def hd.o125 (P : Params) : Obj := hd.kg P 83
noncomputable def hd.o126 (P : Params) : Obj := hd.kg P 15
noncomputable def hd.o127 (P : Params) : Obj := ⟨.none, none, (.func ⟨"__init__", "TopologicalSorter.__init__", (hd.kf P 87).params, (hd.kf P 87).body, (hd.kf P 87).scope, 0, [], .none, .none, .none, .none, none, .none, .none, 0⟩), #[]⟩
noncomputable def hd.o128 (P : Params) : Obj := hd.kg P 86
noncomputable def hd.o129 (P : Params) : Obj := hd.kg P 87
noncomputable def hd.o130 (P : Params) : Obj := hd.kg P 15
noncomputable def hd.o131 (P : Params) : Obj := ⟨.none, none, (.fields #[]), #[]⟩
noncomputable def hd.o132 (P : Params) : Obj := hd.kg P 90
noncomputable def hd.o133 (P : Params) : Obj := hd.kg P 15
noncomputable def hd.o134 (P : Params) : Obj := ⟨.none, none, (.func ⟨"_get_nodeinfo", "TopologicalSorter._get_nodeinfo", (hd.kf P 94).params, (hd.kf P 94).body, (hd.kf P 94).scope, 0, [], .none, .none, .none, .none, none, .none, .none, 0⟩), #[]⟩
noncomputable def hd.o135 (P : Params) : Obj := hd.kg P 93
noncomputable def hd.o136 (P : Params) : Obj := hd.kg P 94
noncomputable def hd.o137 (P : Params) : Obj := hd.kg P 15
noncomputable def hd.o138 (P : Params) : Obj := ⟨.none, none, (.fields #[]), #[]⟩
noncomputable def hd.o139 (P : Params) : Obj := hd.kg P 97
noncomputable def hd.o140 (P : Params) : Obj := hd.kg P 15
noncomputable def hd.o141 (P : Params) : Obj := ⟨.none, none, (.func ⟨"add", "TopologicalSorter.add", (hd.kf P 101).params, (hd.kf P 101).body, (hd.kf P 101).scope, 0, [], .none, .none, .none, .none, none, .none, .none, 0⟩), #[]⟩
noncomputable def hd.o142 (P : Params) : Obj := hd.kg P 100
noncomputable def hd.o143 (P : Params) : Obj := hd.kg P 101
noncomputable def hd.o144 (P : Params) : Obj := hd.kg P 15
noncomputable def hd.o145 (P : Params) : Obj := ⟨.none, none, (.fields #[]), #[]⟩
noncomputable def hd.o146 (P : Params) : Obj := ⟨.none, none, (.func ⟨"prepare", "TopologicalSorter.prepare", (hd.kf P 106).params, (hd.kf P 106).body, (hd.kf P 106).scope, 0, [], .none, .none, .none, .none, none, .none, .none, 0⟩), #[]⟩
noncomputable def hd.o147 (P : Params) : Obj := hd.kg P 105
noncomputable def hd.o148 (P : Params) : Obj := hd.kg P 106
noncomputable def hd.o149 (P : Params) : Obj := hd.kg P 15
noncomputable def hd.o150 (P : Params) : Obj := ⟨.none, none, (.fields #[]), #[]⟩
noncomputable def hd.o151 (P : Params) : Obj := hd.kg P 109
noncomputable def hd.o152 (P : Params) : Obj := hd.kg P 15
noncomputable def hd.o153 (P : Params) : Obj := ⟨.none, none, (.func ⟨"get_ready", "TopologicalSorter.get_ready", (hd.kf P 113).params, (hd.kf P 113).body, (hd.kf P 113).scope, 0, [], .none, .none, .none, .none, none, .none, .none, 0⟩), #[]⟩
noncomputable def hd.o154 (P : Params) : Obj := hd.kg P 112
noncomputable def hd.o155 (P : Params) : Obj := hd.kg P 113
noncomputable def hd.o156 (P : Params) : Obj := hd.kg P 15
noncomputable def hd.o157 (P : Params) : Obj := ⟨.none, none, (.fields #[]), #[]⟩
noncomputable def hd.o158 (P : Params) : Obj := hd.kg P 116
noncomputable def hd.o159 (P : Params) : Obj := hd.kg P 15
noncomputable def hd.o160 (P : Params) : Obj := ⟨.none, none, (.func ⟨"is_active", "TopologicalSorter.is_active", (hd.kf P 120).params, (hd.kf P 120).body, (hd.kf P 120).scope, 0, [], .none, .none, .none, .none, none, .none, .none, 0⟩), #[]⟩
noncomputable def hd.o161 (P : Params) : Obj := hd.kg P 119
noncomputable def hd.o162 (P : Params) : Obj := hd.kg P 120
noncomputable def hd.o163 (P : Params) : Obj := hd.kg P 15
noncomputable def hd.o164 (P : Params) : Obj := ⟨.none, none, (.fields #[]), #[]⟩
noncomputable def hd.o165 (P : Params) : Obj := hd.kg P 123
noncomputable def hd.o166 (P : Params) : Obj := hd.kg P 15
noncomputable def hd.o167 (P : Params) : Obj := ⟨.none, none, (.func ⟨"__bool__", "TopologicalSorter.__bool__", (hd.kf P 127).params, (hd.kf P 127).body, (hd.kf P 127).scope, 0, [], .none, .none, .none, .none, none, .none, .none, 0⟩), #[]⟩
noncomputable def hd.o168 (P : Params) : Obj := hd.kg P 126
noncomputable def hd.o169 (P : Params) : Obj := hd.kg P 127
noncomputable def hd.o170 (P : Params) : Obj := hd.kg P 15
noncomputable def hd.o171 (P : Params) : Obj := ⟨.none, none, (.fields #[]), #[]⟩
noncomputable def hd.o172 (P : Params) : Obj := hd.kg P 130
noncomputable def hd.o173 (P : Params) : Obj := hd.kg P 15
noncomputable def hd.o174 (P : Params) : Obj := ⟨.none, none, (.func ⟨"done", "TopologicalSorter.done", (hd.kf P 134).params, (hd.kf P 134).body, (hd.kf P 134).scope, 0, [], .none, .none, .none, .none, none, .none, .none, 0⟩), #[]⟩
noncomputable def hd.o175 (P : Params) : Obj := hd.kg P 133
noncomputable def hd.o176 (P : Params) : Obj := hd.kg P 134
noncomputable def hd.o177 (P : Params) : Obj := hd.kg P 15
noncomputable def hd.o178 (P : Params) : Obj := ⟨.none, none, (.fields #[]), #[]⟩
noncomputable def hd.o179 (P : Params) : Obj := hd.kg P 137
noncomputable def hd.o180 (P : Params) : Obj := hd.kg P 15
noncomputable def hd.o181 (P : Params) : Obj := ⟨.none, none, (.func ⟨"_find_cycle", "TopologicalSorter._find_cycle", (hd.kf P 141).params, (hd.kf P 141).body, (hd.kf P 141).scope, 0, [], .none, .none, .none, .none, none, .none, .none, 0⟩), #[]⟩
noncomputable def hd.o182 (P : Params) : Obj := hd.kg P 140
noncomputable def hd.o183 (P : Params) : Obj := hd.kg P 141
noncomputable def hd.o184 (P : Params) : Obj := hd.kg P 15
noncomputable def hd.o185 (P : Params) : Obj := ⟨.none, none, (.fields #[]), #[]⟩
noncomputable def hd.o186 (P : Params) : Obj := hd.kg P 144
noncomputable def hd.o187 (P : Params) : Obj := hd.kg P 15
noncomputable def hd.o188 (P : Params) : Obj := ⟨.none, none, (.func ⟨"static_order", "TopologicalSorter.static_order", (hd.kf P 148).params, (hd.kf P 148).body, (hd.kf P 148).scope, 0, [], .none, .none, .none, .none, none, .none, .none, 0⟩), #[]⟩
noncomputable def hd.o189 (P : Params) : Obj := hd.kg P 147
noncomputable def hd.o190 (P : Params) : Obj := hd.kg P 148
noncomputable def hd.o191 (P : Params) : Obj := hd.kg P 149
noncomputable def hd.o192 (P : Params) : Obj := hd.kg P 150
noncomputable def hd.o193 (P : Params) : Obj := hd.kg P 151
noncomputable def hd.o194 (P : Params) : Obj := hd.kg P 152
noncomputable def hd.o195 (P : Params) : Obj := hd.kg P 153
noncomputable def hd.o196 (P : Params) : Obj := ⟨(.type "super"), none, (.fields #[(.ref 151), (.ref 151), (.ref 151)]), #[]⟩
noncomputable def hd.o197 (P : Params) : Obj := ⟨(.type "builtin_function_or_method"), none, (.fields #[(.builtin "object.__init_subclass__"), (.ref 151)]), #[]⟩
noncomputable def hd.o198 (P : Params) : Obj := ⟨(.type "dict"), none, (.dict (List.toArray (⟨(PySem.PyData.keyHash P "__name__"), (.str "__name__" 165), (.str "cpy313.stat" 400)⟩ :: ⟨(PySem.PyData.keyHash P "__doc__"), (.str "__doc__" 166), .none⟩ :: ⟨(PySem.PyData.keyHash P "__package__"), (.str "__package__" 167), .none⟩ :: ⟨(PySem.PyData.keyHash P "__loader__"), (.str "__loader__" 168), (.builtin "__main__.__loader__#opaque")⟩ :: ⟨(PySem.PyData.keyHash P "__spec__"), (.str "__spec__" 169), .none⟩ :: ⟨(PySem.PyData.keyHash P "__annotations__"), (.str "__annotations__" 170), (.ref 6)⟩ :: ⟨(PySem.PyData.keyHash P "__builtins__"), (.str "__builtins__" 171), (.ref 4)⟩ :: ⟨(PySem.PyData.keyHash P "__file__"), (.str "__file__" 173), (.str "/claim/cut.py" 172)⟩ :: ⟨(PySem.PyData.keyHash P "__cached__"), (.str "__cached__" 174), .none⟩ :: ⟨(PySem.PyData.keyHash P "_wall"), (.str "_wall" 193), (.ref 21)⟩ :: ⟨(PySem.PyData.keyHash P "_int2digits"), (.str "_int2digits" 206), (.ref 28)⟩ :: ⟨(PySem.PyData.keyHash P "_digits2int"), (.str "_digits2int" 217), (.ref 35)⟩ :: ⟨(PySem.PyData.keyHash P "_NODE_OUT"), (.str "_NODE_OUT" 222), (.int (Neg.neg 1) 221)⟩ :: ⟨(PySem.PyData.keyHash P "_NODE_DONE"), (.str "_NODE_DONE" 225), (.int (Neg.neg 2) 224)⟩ :: ⟨(PySem.PyData.keyHash P "_NodeInfo"), (.str "_NodeInfo" 262), (.ref 54)⟩ :: ⟨(PySem.PyData.keyHash P "CycleError"), (.str "CycleError" 280), (.ref 69)⟩ :: ⟨(PySem.PyData.keyHash P "TopologicalSorter"), (.str "TopologicalSorter" 399), (.ref 151)⟩ :: ⟨(PySem.PyData.keyHash P "S_IFMT"), (.str "S_IFMT" 408), (.ref 162)⟩ :: ⟨(PySem.PyData.keyHash P "S_IFDIR"), (.str "S_IFDIR" 410), (.int 16384 409)⟩ :: ⟨(PySem.PyData.keyHash P "S_IFCHR"), (.str "S_IFCHR" 412), (.int 8192 411)⟩ :: ⟨(PySem.PyData.keyHash P "S_IFBLK"), (.str "S_IFBLK" 414), (.int 24576 413)⟩ :: ⟨(PySem.PyData.keyHash P "S_IFREG"), (.str "S_IFREG" 416), (.int 32768 415)⟩ :: ⟨(PySem.PyData.keyHash P "S_IFIFO"), (.str "S_IFIFO" 418), (.int 4096 417)⟩ :: ⟨(PySem.PyData.keyHash P "S_IFLNK"), (.str "S_IFLNK" 420), (.int 40960 419)⟩ :: ⟨(PySem.PyData.keyHash P "S_IFSOCK"), (.str "S_IFSOCK" 422), (.int 49152 421)⟩ :: ⟨(PySem.PyData.keyHash P "S_ISUID"), (.str "S_ISUID" 424), (.int 2048 423)⟩ :: ⟨(PySem.PyData.keyHash P "S_ISGID"), (.str "S_ISGID" 426), (.int 1024 425)⟩ :: ⟨(PySem.PyData.keyHash P "S_ISVTX"), (.str "S_ISVTX" 428), (.int 512 427)⟩ :: ⟨(PySem.PyData.keyHash P "S_IRUSR"), (.str "S_IRUSR" 430), (.int 256 429)⟩ :: ⟨(PySem.PyData.keyHash P "S_IWUSR"), (.str "S_IWUSR" 432), (.int 128 431)⟩ :: ⟨(PySem.PyData.keyHash P "S_IXUSR"), (.str "S_IXUSR" 434), (.int 64 433)⟩ :: ⟨(PySem.PyData.keyHash P "S_IRGRP"), (.str "S_IRGRP" 436), (.int 32 435)⟩ :: ⟨(PySem.PyData.keyHash P "S_IWGRP"), (.str "S_IWGRP" 438), (.int 16 437)⟩ :: ⟨(PySem.PyData.keyHash P "S_IXGRP"), (.str "S_IXGRP" 440), (.int 8 439)⟩ :: ⟨(PySem.PyData.keyHash P "S_IROTH"), (.str "S_IROTH" 442), (.int 4 441)⟩ :: ⟨(PySem.PyData.keyHash P "S_IWOTH"), (.str "S_IWOTH" 444), (.int 2 443)⟩ :: ⟨(PySem.PyData.keyHash P "S_IXOTH"), (.str "S_IXOTH" 446), (.int 1 445)⟩ :: ⟨(PySem.PyData.keyHash P "_filemode_table"), (.str "_filemode_table" 472), (.ref 195)⟩ :: [])) 38), #[]⟩
noncomputable def hd.o199 (P : Params) : Obj := ⟨.none, none, (.fields (List.toArray ((.int 1 0) :: (.int 0 0) :: (.ref 20) :: (.int 5 0) :: (.int 0 0) :: (.ref 27) :: (.int 21 0) :: (.int 0 0) :: (.ref 34) :: (.int 33 0) :: (.int 0 0) :: (.ref 41) :: (.int 40 0) :: (.int 0 0) :: (.ref 65) :: (.int 42 0) :: (.int 0 0) :: (.ref 78) :: (.int 149 0) :: (.int 0 0) :: (.ref 161) :: []))), #[]⟩
noncomputable def hd.o200 (P : Params) : Obj := hd.kg P 15
noncomputable def hd.o201 (P : Params) : Obj := ⟨.none, none, (.fields #[]), #[]⟩
noncomputable def hd.o202 (P : Params) : Obj := hd.kg P 158
noncomputable def hd.o203 (P : Params) : Obj := hd.kg P 15
noncomputable def hd.o204 (P : Params) : Obj := ⟨.none, none, (.func ⟨"S_IFMT", "S_IFMT", (hd.kf P 162).params, (hd.kf P 162).body, (hd.kf P 162).scope, 0, [], .none, .none, .none, .none, none, .none, .none, 0⟩), #[]⟩
noncomputable def hd.o205 (P : Params) : Obj := hd.kg P 161
noncomputable def hd.o206 (P : Params) : Obj := hd.kg P 162
noncomputable def hd.o207 (P : Params) : Obj := hd.kg P 163
noncomputable def hd.o208 (P : Params) : Obj := hd.kg P 164
noncomputable def hd.o209 (P : Params) : Obj := hd.kg P 165
noncomputable def hd.o210 (P : Params) : Obj := hd.kg P 166
noncomputable def hd.o211 (P : Params) : Obj := hd.kg P 167
noncomputable def hd.o212 (P : Params) : Obj := hd.kg P 168
noncomputable def hd.o213 (P : Params) : Obj := hd.kg P 169
noncomputable def hd.o214 (P : Params) : Obj := hd.kg P 170
noncomputable def hd.o215 (P : Params) : Obj := hd.kg P 171
noncomputable def hd.o216 (P : Params) : Obj := hd.kg P 172
noncomputable def hd.o217 (P : Params) : Obj := hd.kg P 173
noncomputable def hd.o218 (P : Params) : Obj := hd.kg P 174
noncomputable def hd.o219 (P : Params) : Obj := hd.kg P 175
noncomputable def hd.o220 (P : Params) : Obj := hd.kg P 176
noncomputable def hd.o221 (P : Params) : Obj := hd.kg P 177
noncomputable def hd.o222 (P : Params) : Obj := hd.kg P 178
noncomputable def hd.o223 (P : Params) : Obj := hd.kg P 179
noncomputable def hd.o224 (P : Params) : Obj := hd.kg P 180
noncomputable def hd.o225 (P : Params) : Obj := hd.kg P 181
noncomputable def hd.o226 (P : Params) : Obj := hd.kg P 182
noncomputable def hd.o227 (P : Params) : Obj := hd.kg P 183
noncomputable def hd.o228 (P : Params) : Obj := hd.kg P 184
noncomputable def hd.o229 (P : Params) : Obj := hd.kg P 185
noncomputable def hd.o230 (P : Params) : Obj := hd.kg P 186
noncomputable def hd.o231 (P : Params) : Obj := hd.kg P 187
noncomputable def hd.o232 (P : Params) : Obj := hd.kg P 188
noncomputable def hd.o233 (P : Params) : Obj := hd.kg P 189
noncomputable def hd.o234 (P : Params) : Obj := hd.kg P 190
noncomputable def hd.o235 (P : Params) : Obj := hd.kg P 191
noncomputable def hd.o236 (P : Params) : Obj := hd.kg P 192
noncomputable def hd.o237 (P : Params) : Obj := hd.kg P 193
noncomputable def hd.o238 (P : Params) : Obj := hd.kg P 194
noncomputable def hd.o239 (P : Params) : Obj := hd.kg P 195
noncomputable def hd.o240 (P : Params) : Obj := hd.kg P 3
noncomputable def hd.o241 (P : Params) : Obj := ⟨.none, none, (.fields (List.toArray ((.int 1 0) :: (.int 0 0) :: (.ref 20) :: (.int 5 0) :: (.int 0 0) :: (.ref 27) :: (.int 21 0) :: (.int 0 0) :: (.ref 34) :: (.int 33 0) :: (.int 0 0) :: (.ref 41) :: (.int 40 0) :: (.int 0 0) :: (.ref 65) :: (.int 42 0) :: (.int 0 0) :: (.ref 78) :: (.int 149 0) :: (.int 0 0) :: (.ref 161) :: (.int 171 0) :: (.int 0 0) :: (.ref 201) :: (.int 189 0) :: (.int 0 0) :: (.ref 206) :: (.int 206 0) :: (.int 0 0) :: (.ref 211) :: (.int 219 0) :: (.int 0 0) :: (.ref 216) :: []))), #[]⟩
noncomputable def hd.o242 (P : Params) : Obj := hd.kg P 15
noncomputable def hd.o243 (P : Params) : Obj := ⟨.none, none, (.fields #[]), #[]⟩
noncomputable def hd.o244 (P : Params) : Obj := hd.kg P 198
noncomputable def hd.o245 (P : Params) : Obj := hd.kg P 15
noncomputable def hd.o246 (P : Params) : Obj := ⟨.none, none, (.func ⟨"filemode", "filemode", (hd.kf P 202).params, (hd.kf P 202).body, (hd.kf P 202).scope, 0, [], .none, .none, .none, .none, none, .none, .none, 0⟩), #[]⟩
noncomputable def hd.o247 (P : Params) : Obj := hd.kg P 201
noncomputable def hd.o248 (P : Params) : Obj := hd.kg P 202
noncomputable def hd.o249 (P : Params) : Obj := hd.kg P 15
noncomputable def hd.o250 (P : Params) : Obj := ⟨.none, none, (.fields #[]), #[]⟩
noncomputable def hd.o251 (P : Params) : Obj := ⟨.none, none, (.func ⟨"_law_told", "_law_told", (hd.kf P 207).params, (hd.kf P 207).body, (hd.kf P 207).scope, 0, [], .none, .none, .none, .none, none, .none, .none, 0⟩), #[]⟩
noncomputable def hd.o252 (P : Params) : Obj := hd.kg P 206
noncomputable def hd.o253 (P : Params) : Obj := hd.kg P 207
noncomputable def hd.o254 (P : Params) : Obj := hd.kg P 15
noncomputable def hd.o255 (P : Params) : Obj := ⟨.none, none, (.fields #[]), #[]⟩
noncomputable def hd.o256 (P : Params) : Obj := ⟨.none, none, (.func ⟨"_law_due", "_law_due", (hd.kf P 212).params, (hd.kf P 212).body, (hd.kf P 212).scope, 0, [], .none, .none, .none, .none, none, .none, .none, 0⟩), #[]⟩
noncomputable def hd.o257 (P : Params) : Obj := hd.kg P 211
noncomputable def hd.o258 (P : Params) : Obj := hd.kg P 212
noncomputable def hd.o259 (P : Params) : Obj := hd.kg P 15
noncomputable def hd.o260 (P : Params) : Obj := ⟨.none, none, (.fields #[]), #[]⟩
noncomputable def hd.o261 (P : Params) : Obj := ⟨.none, none, (.func ⟨"law", "law", (hd.kf P 217).params, (hd.kf P 217).body, (hd.kf P 217).scope, 0, [], .none, .none, .none, .none, none, .none, .none, 0⟩), #[]⟩
noncomputable def hd.o262 (P : Params) : Obj := hd.kg P 216
noncomputable def hd.o263 (P : Params) : Obj := hd.kg P 217
noncomputable abbrev hd.lf (o : Obj) : BT := .node o .nil .nil
noncomputable def hd.tree_239 (P : Params) : BT := (.node (boot_o_0 P) (.node (boot_o_1 P) (.node (hd.o198 P) (.node (boot_o_7 P) (.node (hd.o51 P) (.node (hd.o67 P) (.node (hd.o103 P) (hd.lf (hd.o169 P)) (hd.lf (hd.o235 P))) (.node (hd.o137 P) (hd.lf (hd.o203 P)) .nil)) (.node (hd.o85 P) (.node (hd.o121 P) (hd.lf (hd.o185 P)) .nil) (.node (hd.o153 P) (hd.lf (hd.o219 P)) .nil))) (.node (hd.o59 P) (.node (hd.o77 P) (.node (hd.o111 P) (hd.lf (hd.o177 P)) .nil) (.node (hd.o145 P) (hd.lf (hd.o211 P)) .nil)) (.node (hd.o93 P) (.node (hd.o129 P) (hd.lf (hd.o193 P)) .nil) (.node (hd.o161 P) (hd.lf (hd.o227 P)) .nil)))) (.node (hd.o43 P) (.node (hd.o55 P) (.node (hd.o71 P) (.node (hd.o107 P) (hd.lf (hd.o173 P)) (hd.lf (hd.o239 P))) (.node (hd.o141 P) (hd.lf (hd.o207 P)) .nil)) (.node (hd.o89 P) (.node (hd.o125 P) (hd.lf (hd.o189 P)) .nil) (.node (hd.o157 P) (hd.lf (hd.o223 P)) .nil))) (.node (hd.o63 P) (.node (hd.o81 P) (.node (hd.o117 P) (hd.lf (hd.o181 P)) .nil) (.node (hd.o149 P) (hd.lf (hd.o215 P)) .nil)) (.node (hd.o97 P) (.node (hd.o133 P) (hd.lf (hd.o197 P)) .nil) (.node (hd.o165 P) (hd.lf (hd.o231 P)) .nil))))) (.node (boot_o_5 P) (.node (boot_o_9 P) (.node (hd.o53 P) (.node (hd.o69 P) (.node (hd.o105 P) (hd.lf (hd.o171 P)) (hd.lf (hd.o237 P))) (.node (hd.o139 P) (hd.lf (hd.o205 P)) .nil)) (.node (hd.o87 P) (.node (hd.o123 P) (hd.lf (hd.o187 P)) .nil) (.node (hd.o155 P) (hd.lf (hd.o221 P)) .nil))) (.node (hd.o61 P) (.node (hd.o79 P) (.node (hd.o115 P) (hd.lf (hd.o179 P)) .nil) (.node (hd.o147 P) (hd.lf (hd.o213 P)) .nil)) (.node (hd.o95 P) (.node (hd.o131 P) (hd.lf (hd.o195 P)) .nil) (.node (hd.o163 P) (hd.lf (hd.o229 P)) .nil)))) (.node (hd.o45 P) (.node (hd.o57 P) (.node (hd.o75 P) (.node (hd.o109 P) (hd.lf (hd.o175 P)) .nil) (.node (hd.o143 P) (hd.lf (hd.o209 P)) .nil)) (.node (hd.o91 P) (.node (hd.o127 P) (hd.lf (hd.o191 P)) .nil) (.node (hd.o159 P) (hd.lf (hd.o225 P)) .nil))) (.node (hd.o65 P) (.node (hd.o83 P) (.node (hd.o119 P) (hd.lf (hd.o183 P)) .nil) (.node (hd.o151 P) (hd.lf (hd.o217 P)) .nil)) (.node (hd.o101 P) (.node (hd.o135 P) (hd.lf (hd.o201 P)) .nil) (.node (hd.o167 P) (hd.lf (hd.o233 P)) .nil)))))) (.node (boot_o_2 P) (.node (boot_o_4 P) (.node (boot_o_8 P) (.node (hd.o52 P) (.node (hd.o68 P) (.node (hd.o104 P) (hd.lf (hd.o170 P)) (hd.lf (hd.o236 P))) (.node (hd.o138 P) (hd.lf (hd.o204 P)) .nil)) (.node (hd.o86 P) (.node (hd.o122 P) (hd.lf (hd.o186 P)) .nil) (.node (hd.o154 P) (hd.lf (hd.o220 P)) .nil))) (.node (hd.o60 P) (.node (hd.o78 P) (.node (hd.o112 P) (hd.lf (hd.o178 P)) .nil) (.node (hd.o146 P) (hd.lf (hd.o212 P)) .nil)) (.node (hd.o94 P) (.node (hd.o130 P) (hd.lf (hd.o194 P)) .nil) (.node (hd.o162 P) (hd.lf (hd.o228 P)) .nil)))) (.node (hd.o199 P) (.node (hd.o56 P) (.node (hd.o74 P) (.node (hd.o108 P) (hd.lf (hd.o174 P)) .nil) (.node (hd.o142 P) (hd.lf (hd.o208 P)) .nil)) (.node (hd.o90 P) (.node (hd.o126 P) (hd.lf (hd.o190 P)) .nil) (.node (hd.o158 P) (hd.lf (hd.o224 P)) .nil))) (.node (hd.o64 P) (.node (hd.o82 P) (.node (hd.o118 P) (hd.lf (hd.o182 P)) .nil) (.node (hd.o150 P) (hd.lf (hd.o216 P)) .nil)) (.node (hd.o100 P) (.node (hd.o134 P) (hd.lf (hd.o200 P)) .nil) (.node (hd.o166 P) (hd.lf (hd.o232 P)) .nil))))) (.node (boot_o_6 P) (.node (boot_o_10 P) (.node (hd.o54 P) (.node (hd.o70 P) (.node (hd.o106 P) (hd.lf (hd.o172 P)) (hd.lf (hd.o238 P))) (.node (hd.o140 P) (hd.lf (hd.o206 P)) .nil)) (.node (hd.o88 P) (.node (hd.o124 P) (hd.lf (hd.o188 P)) .nil) (.node (hd.o156 P) (hd.lf (hd.o222 P)) .nil))) (.node (hd.o62 P) (.node (hd.o80 P) (.node (hd.o116 P) (hd.lf (hd.o180 P)) .nil) (.node (hd.o148 P) (hd.lf (hd.o214 P)) .nil)) (.node (hd.o96 P) (.node (hd.o132 P) (hd.lf (hd.o196 P)) .nil) (.node (hd.o164 P) (hd.lf (hd.o230 P)) .nil)))) (.node (hd.o46 P) (.node (hd.o58 P) (.node (hd.o76 P) (.node (hd.o110 P) (hd.lf (hd.o176 P)) .nil) (.node (hd.o144 P) (hd.lf (hd.o210 P)) .nil)) (.node (hd.o92 P) (.node (hd.o128 P) (hd.lf (hd.o192 P)) .nil) (.node (hd.o160 P) (hd.lf (hd.o226 P)) .nil))) (.node (hd.o66 P) (.node (hd.o84 P) (.node (hd.o120 P) (hd.lf (hd.o184 P)) .nil) (.node (hd.o152 P) (hd.lf (hd.o218 P)) .nil)) (.node (hd.o102 P) (.node (hd.o136 P) (hd.lf (hd.o202 P)) .nil) (.node (hd.o168 P) (hd.lf (hd.o234 P)) .nil)))))))
noncomputable def hd.tree_71 (P : Params) : BT := (.node (boot_o_0 P) (.node (boot_o_1 P) (.node (hd.o49 P) (.node (boot_o_7 P) (.node (hd.o51 P) (hd.lf (hd.o67 P)) .nil) (hd.lf (hd.o59 P))) (.node (hd.o43 P) (.node (hd.o55 P) (hd.lf (hd.o71 P)) .nil) (hd.lf (hd.o63 P)))) (.node (boot_o_5 P) (.node (boot_o_9 P) (.node (hd.o53 P) (hd.lf (hd.o69 P)) .nil) (hd.lf (hd.o61 P))) (.node (hd.o45 P) (hd.lf (hd.o57 P)) (hd.lf (hd.o65 P))))) (.node (boot_o_2 P) (.node (boot_o_4 P) (.node (boot_o_8 P) (.node (hd.o52 P) (hd.lf (hd.o68 P)) .nil) (hd.lf (hd.o60 P))) (.node (hd.o50 P) (hd.lf (hd.o56 P)) (hd.lf (hd.o64 P)))) (.node (boot_o_6 P) (.node (boot_o_10 P) (.node (hd.o54 P) (hd.lf (hd.o70 P)) .nil) (hd.lf (hd.o62 P))) (.node (hd.o46 P) (hd.lf (hd.o58 P)) (hd.lf (hd.o66 P))))))
noncomputable def hd.tree_97 (P : Params) : BT := (.node (boot_o_0 P) (.node (boot_o_1 P) (.node (hd.o72 P) (.node (boot_o_7 P) (.node (hd.o51 P) (hd.lf (hd.o67 P)) (hd.lf (hd.o85 P))) (.node (hd.o59 P) (hd.lf (hd.o77 P)) (hd.lf (hd.o93 P)))) (.node (hd.o43 P) (.node (hd.o55 P) (hd.lf (hd.o71 P)) (hd.lf (hd.o89 P))) (.node (hd.o63 P) (hd.lf (hd.o81 P)) (hd.lf (hd.o97 P))))) (.node (boot_o_5 P) (.node (boot_o_9 P) (.node (hd.o53 P) (hd.lf (hd.o69 P)) (hd.lf (hd.o87 P))) (.node (hd.o61 P) (hd.lf (hd.o79 P)) (hd.lf (hd.o95 P)))) (.node (hd.o45 P) (.node (hd.o57 P) (hd.lf (hd.o75 P)) (hd.lf (hd.o91 P))) (.node (hd.o65 P) (hd.lf (hd.o83 P)) .nil)))) (.node (boot_o_2 P) (.node (boot_o_4 P) (.node (boot_o_8 P) (.node (hd.o52 P) (hd.lf (hd.o68 P)) (hd.lf (hd.o86 P))) (.node (hd.o60 P) (hd.lf (hd.o78 P)) (hd.lf (hd.o94 P)))) (.node (hd.o73 P) (.node (hd.o56 P) (hd.lf (hd.o74 P)) (hd.lf (hd.o90 P))) (.node (hd.o64 P) (hd.lf (hd.o82 P)) .nil))) (.node (boot_o_6 P) (.node (boot_o_10 P) (.node (hd.o54 P) (hd.lf (hd.o70 P)) (hd.lf (hd.o88 P))) (.node (hd.o62 P) (hd.lf (hd.o80 P)) (hd.lf (hd.o96 P)))) (.node (hd.o46 P) (.node (hd.o58 P) (hd.lf (hd.o76 P)) (hd.lf (hd.o92 P))) (.node (hd.o66 P) (hd.lf (hd.o84 P)) .nil)))))
noncomputable def hd.tree_112 (P : Params) : BT := (.node (boot_o_0 P) (.node (boot_o_1 P) (.node (hd.o98 P) (.node (boot_o_7 P) (.node (hd.o51 P) (.node (hd.o67 P) (hd.lf (hd.o103 P)) .nil) (hd.lf (hd.o85 P))) (.node (hd.o59 P) (.node (hd.o77 P) (hd.lf (hd.o111 P)) .nil) (hd.lf (hd.o93 P)))) (.node (hd.o43 P) (.node (hd.o55 P) (.node (hd.o71 P) (hd.lf (hd.o107 P)) .nil) (hd.lf (hd.o89 P))) (.node (hd.o63 P) (hd.lf (hd.o81 P)) (hd.lf (hd.o97 P))))) (.node (boot_o_5 P) (.node (boot_o_9 P) (.node (hd.o53 P) (.node (hd.o69 P) (hd.lf (hd.o105 P)) .nil) (hd.lf (hd.o87 P))) (.node (hd.o61 P) (hd.lf (hd.o79 P)) (hd.lf (hd.o95 P)))) (.node (hd.o45 P) (.node (hd.o57 P) (.node (hd.o75 P) (hd.lf (hd.o109 P)) .nil) (hd.lf (hd.o91 P))) (.node (hd.o65 P) (hd.lf (hd.o83 P)) (hd.lf (hd.o101 P)))))) (.node (boot_o_2 P) (.node (boot_o_4 P) (.node (boot_o_8 P) (.node (hd.o52 P) (.node (hd.o68 P) (hd.lf (hd.o104 P)) .nil) (hd.lf (hd.o86 P))) (.node (hd.o60 P) (.node (hd.o78 P) (hd.lf (hd.o112 P)) .nil) (hd.lf (hd.o94 P)))) (.node (hd.o99 P) (.node (hd.o56 P) (.node (hd.o74 P) (hd.lf (hd.o108 P)) .nil) (hd.lf (hd.o90 P))) (.node (hd.o64 P) (hd.lf (hd.o82 P)) (hd.lf (hd.o100 P))))) (.node (boot_o_6 P) (.node (boot_o_10 P) (.node (hd.o54 P) (.node (hd.o70 P) (hd.lf (hd.o106 P)) .nil) (hd.lf (hd.o88 P))) (.node (hd.o62 P) (hd.lf (hd.o80 P)) (hd.lf (hd.o96 P)))) (.node (hd.o46 P) (.node (hd.o58 P) (.node (hd.o76 P) (hd.lf (hd.o110 P)) .nil) (hd.lf (hd.o92 P))) (.node (hd.o66 P) (hd.lf (hd.o84 P)) (hd.lf (hd.o102 P)))))))
noncomputable def hd.tree_263 (P : Params) : BT := (.node (boot_o_0 P) (.node (boot_o_1 P) (.node (hd.o240 P) (.node (boot_o_7 P) (.node (hd.o51 P) (.node (hd.o67 P) (.node (hd.o103 P) (hd.lf (hd.o169 P)) (hd.lf (hd.o235 P))) (.node (hd.o137 P) (hd.lf (hd.o203 P)) .nil)) (.node (hd.o85 P) (.node (hd.o121 P) (hd.lf (hd.o185 P)) (hd.lf (hd.o253 P))) (.node (hd.o153 P) (hd.lf (hd.o219 P)) .nil))) (.node (hd.o59 P) (.node (hd.o77 P) (.node (hd.o111 P) (hd.lf (hd.o177 P)) (hd.lf (hd.o245 P))) (.node (hd.o145 P) (hd.lf (hd.o211 P)) .nil)) (.node (hd.o93 P) (.node (hd.o129 P) (hd.lf (hd.o193 P)) (hd.lf (hd.o261 P))) (.node (hd.o161 P) (hd.lf (hd.o227 P)) .nil)))) (.node (hd.o43 P) (.node (hd.o55 P) (.node (hd.o71 P) (.node (hd.o107 P) (hd.lf (hd.o173 P)) (hd.lf (hd.o239 P))) (.node (hd.o141 P) (hd.lf (hd.o207 P)) .nil)) (.node (hd.o89 P) (.node (hd.o125 P) (hd.lf (hd.o189 P)) (hd.lf (hd.o257 P))) (.node (hd.o157 P) (hd.lf (hd.o223 P)) .nil))) (.node (hd.o63 P) (.node (hd.o81 P) (.node (hd.o117 P) (hd.lf (hd.o181 P)) (hd.lf (hd.o249 P))) (.node (hd.o149 P) (hd.lf (hd.o215 P)) .nil)) (.node (hd.o97 P) (.node (hd.o133 P) (hd.lf (hd.o197 P)) .nil) (.node (hd.o165 P) (hd.lf (hd.o231 P)) .nil))))) (.node (boot_o_5 P) (.node (boot_o_9 P) (.node (hd.o53 P) (.node (hd.o69 P) (.node (hd.o105 P) (hd.lf (hd.o171 P)) (hd.lf (hd.o237 P))) (.node (hd.o139 P) (hd.lf (hd.o205 P)) .nil)) (.node (hd.o87 P) (.node (hd.o123 P) (hd.lf (hd.o187 P)) (hd.lf (hd.o255 P))) (.node (hd.o155 P) (hd.lf (hd.o221 P)) .nil))) (.node (hd.o61 P) (.node (hd.o79 P) (.node (hd.o115 P) (hd.lf (hd.o179 P)) (hd.lf (hd.o247 P))) (.node (hd.o147 P) (hd.lf (hd.o213 P)) .nil)) (.node (hd.o95 P) (.node (hd.o131 P) (hd.lf (hd.o195 P)) (hd.lf (hd.o263 P))) (.node (hd.o163 P) (hd.lf (hd.o229 P)) .nil)))) (.node (hd.o45 P) (.node (hd.o57 P) (.node (hd.o75 P) (.node (hd.o109 P) (hd.lf (hd.o175 P)) (hd.lf (hd.o243 P))) (.node (hd.o143 P) (hd.lf (hd.o209 P)) .nil)) (.node (hd.o91 P) (.node (hd.o127 P) (hd.lf (hd.o191 P)) (hd.lf (hd.o259 P))) (.node (hd.o159 P) (hd.lf (hd.o225 P)) .nil))) (.node (hd.o65 P) (.node (hd.o83 P) (.node (hd.o119 P) (hd.lf (hd.o183 P)) (hd.lf (hd.o251 P))) (.node (hd.o151 P) (hd.lf (hd.o217 P)) .nil)) (.node (hd.o101 P) (.node (hd.o135 P) (hd.lf (hd.o201 P)) .nil) (.node (hd.o167 P) (hd.lf (hd.o233 P)) .nil)))))) (.node (boot_o_2 P) (.node (boot_o_4 P) (.node (boot_o_8 P) (.node (hd.o52 P) (.node (hd.o68 P) (.node (hd.o104 P) (hd.lf (hd.o170 P)) (hd.lf (hd.o236 P))) (.node (hd.o138 P) (hd.lf (hd.o204 P)) .nil)) (.node (hd.o86 P) (.node (hd.o122 P) (hd.lf (hd.o186 P)) (hd.lf (hd.o254 P))) (.node (hd.o154 P) (hd.lf (hd.o220 P)) .nil))) (.node (hd.o60 P) (.node (hd.o78 P) (.node (hd.o112 P) (hd.lf (hd.o178 P)) (hd.lf (hd.o246 P))) (.node (hd.o146 P) (hd.lf (hd.o212 P)) .nil)) (.node (hd.o94 P) (.node (hd.o130 P) (hd.lf (hd.o194 P)) (hd.lf (hd.o262 P))) (.node (hd.o162 P) (hd.lf (hd.o228 P)) .nil)))) (.node (hd.o241 P) (.node (hd.o56 P) (.node (hd.o74 P) (.node (hd.o108 P) (hd.lf (hd.o174 P)) (hd.lf (hd.o242 P))) (.node (hd.o142 P) (hd.lf (hd.o208 P)) .nil)) (.node (hd.o90 P) (.node (hd.o126 P) (hd.lf (hd.o190 P)) (hd.lf (hd.o258 P))) (.node (hd.o158 P) (hd.lf (hd.o224 P)) .nil))) (.node (hd.o64 P) (.node (hd.o82 P) (.node (hd.o118 P) (hd.lf (hd.o182 P)) (hd.lf (hd.o250 P))) (.node (hd.o150 P) (hd.lf (hd.o216 P)) .nil)) (.node (hd.o100 P) (.node (hd.o134 P) (hd.lf (hd.o200 P)) .nil) (.node (hd.o166 P) (hd.lf (hd.o232 P)) .nil))))) (.node (boot_o_6 P) (.node (boot_o_10 P) (.node (hd.o54 P) (.node (hd.o70 P) (.node (hd.o106 P) (hd.lf (hd.o172 P)) (hd.lf (hd.o238 P))) (.node (hd.o140 P) (hd.lf (hd.o206 P)) .nil)) (.node (hd.o88 P) (.node (hd.o124 P) (hd.lf (hd.o188 P)) (hd.lf (hd.o256 P))) (.node (hd.o156 P) (hd.lf (hd.o222 P)) .nil))) (.node (hd.o62 P) (.node (hd.o80 P) (.node (hd.o116 P) (hd.lf (hd.o180 P)) (hd.lf (hd.o248 P))) (.node (hd.o148 P) (hd.lf (hd.o214 P)) .nil)) (.node (hd.o96 P) (.node (hd.o132 P) (hd.lf (hd.o196 P)) .nil) (.node (hd.o164 P) (hd.lf (hd.o230 P)) .nil)))) (.node (hd.o46 P) (.node (hd.o58 P) (.node (hd.o76 P) (.node (hd.o110 P) (hd.lf (hd.o176 P)) (hd.lf (hd.o244 P))) (.node (hd.o144 P) (hd.lf (hd.o210 P)) .nil)) (.node (hd.o92 P) (.node (hd.o128 P) (hd.lf (hd.o192 P)) (hd.lf (hd.o260 P))) (.node (hd.o160 P) (hd.lf (hd.o226 P)) .nil))) (.node (hd.o66 P) (.node (hd.o84 P) (.node (hd.o120 P) (hd.lf (hd.o184 P)) (hd.lf (hd.o252 P))) (.node (hd.o152 P) (hd.lf (hd.o218 P)) .nil)) (.node (hd.o102 P) (.node (hd.o136 P) (hd.lf (hd.o202 P)) .nil) (.node (hd.o168 P) (hd.lf (hd.o234 P)) .nil)))))))
noncomputable def hd.tree_47 (P : Params) : BT := (.node (boot_o_0 P) (.node (boot_o_1 P) (.node (boot_o_3 P) (hd.lf (boot_o_7 P)) (hd.lf (hd.o43 P))) (.node (boot_o_5 P) (hd.lf (boot_o_9 P)) (hd.lf (hd.o45 P)))) (.node (boot_o_2 P) (.node (boot_o_4 P) (hd.lf (boot_o_8 P)) (hd.lf (hd.o44 P))) (.node (boot_o_6 P) (hd.lf (boot_o_10 P)) (hd.lf (hd.o46 P)))))
noncomputable def hd.tree_197 (P : Params) : BT := (.node (boot_o_0 P) (.node (boot_o_1 P) (.node (hd.o113 P) (.node (boot_o_7 P) (.node (hd.o51 P) (.node (hd.o67 P) (.node (hd.o103 P) (hd.lf (hd.o169 P)) .nil) (hd.lf (hd.o137 P))) (.node (hd.o85 P) (.node (hd.o121 P) (hd.lf (hd.o185 P)) .nil) (hd.lf (hd.o153 P)))) (.node (hd.o59 P) (.node (hd.o77 P) (.node (hd.o111 P) (hd.lf (hd.o177 P)) .nil) (hd.lf (hd.o145 P))) (.node (hd.o93 P) (.node (hd.o129 P) (hd.lf (hd.o193 P)) .nil) (hd.lf (hd.o161 P))))) (.node (hd.o43 P) (.node (hd.o55 P) (.node (hd.o71 P) (.node (hd.o107 P) (hd.lf (hd.o173 P)) .nil) (hd.lf (hd.o141 P))) (.node (hd.o89 P) (.node (hd.o125 P) (hd.lf (hd.o189 P)) .nil) (hd.lf (hd.o157 P)))) (.node (hd.o63 P) (.node (hd.o81 P) (.node (hd.o117 P) (hd.lf (hd.o181 P)) .nil) (hd.lf (hd.o149 P))) (.node (hd.o97 P) (.node (hd.o133 P) (hd.lf (hd.o197 P)) .nil) (hd.lf (hd.o165 P)))))) (.node (boot_o_5 P) (.node (boot_o_9 P) (.node (hd.o53 P) (.node (hd.o69 P) (.node (hd.o105 P) (hd.lf (hd.o171 P)) .nil) (hd.lf (hd.o139 P))) (.node (hd.o87 P) (.node (hd.o123 P) (hd.lf (hd.o187 P)) .nil) (hd.lf (hd.o155 P)))) (.node (hd.o61 P) (.node (hd.o79 P) (.node (hd.o115 P) (hd.lf (hd.o179 P)) .nil) (hd.lf (hd.o147 P))) (.node (hd.o95 P) (.node (hd.o131 P) (hd.lf (hd.o195 P)) .nil) (hd.lf (hd.o163 P))))) (.node (hd.o45 P) (.node (hd.o57 P) (.node (hd.o75 P) (.node (hd.o109 P) (hd.lf (hd.o175 P)) .nil) (hd.lf (hd.o143 P))) (.node (hd.o91 P) (.node (hd.o127 P) (hd.lf (hd.o191 P)) .nil) (hd.lf (hd.o159 P)))) (.node (hd.o65 P) (.node (hd.o83 P) (.node (hd.o119 P) (hd.lf (hd.o183 P)) .nil) (hd.lf (hd.o151 P))) (.node (hd.o101 P) (hd.lf (hd.o135 P)) (hd.lf (hd.o167 P))))))) (.node (boot_o_2 P) (.node (boot_o_4 P) (.node (boot_o_8 P) (.node (hd.o52 P) (.node (hd.o68 P) (.node (hd.o104 P) (hd.lf (hd.o170 P)) .nil) (hd.lf (hd.o138 P))) (.node (hd.o86 P) (.node (hd.o122 P) (hd.lf (hd.o186 P)) .nil) (hd.lf (hd.o154 P)))) (.node (hd.o60 P) (.node (hd.o78 P) (.node (hd.o112 P) (hd.lf (hd.o178 P)) .nil) (hd.lf (hd.o146 P))) (.node (hd.o94 P) (.node (hd.o130 P) (hd.lf (hd.o194 P)) .nil) (hd.lf (hd.o162 P))))) (.node (hd.o114 P) (.node (hd.o56 P) (.node (hd.o74 P) (.node (hd.o108 P) (hd.lf (hd.o174 P)) .nil) (hd.lf (hd.o142 P))) (.node (hd.o90 P) (.node (hd.o126 P) (hd.lf (hd.o190 P)) .nil) (hd.lf (hd.o158 P)))) (.node (hd.o64 P) (.node (hd.o82 P) (.node (hd.o118 P) (hd.lf (hd.o182 P)) .nil) (hd.lf (hd.o150 P))) (.node (hd.o100 P) (hd.lf (hd.o134 P)) (hd.lf (hd.o166 P)))))) (.node (boot_o_6 P) (.node (boot_o_10 P) (.node (hd.o54 P) (.node (hd.o70 P) (.node (hd.o106 P) (hd.lf (hd.o172 P)) .nil) (hd.lf (hd.o140 P))) (.node (hd.o88 P) (.node (hd.o124 P) (hd.lf (hd.o188 P)) .nil) (hd.lf (hd.o156 P)))) (.node (hd.o62 P) (.node (hd.o80 P) (.node (hd.o116 P) (hd.lf (hd.o180 P)) .nil) (hd.lf (hd.o148 P))) (.node (hd.o96 P) (.node (hd.o132 P) (hd.lf (hd.o196 P)) .nil) (hd.lf (hd.o164 P))))) (.node (hd.o46 P) (.node (hd.o58 P) (.node (hd.o76 P) (.node (hd.o110 P) (hd.lf (hd.o176 P)) .nil) (hd.lf (hd.o144 P))) (.node (hd.o92 P) (.node (hd.o128 P) (hd.lf (hd.o192 P)) .nil) (hd.lf (hd.o160 P)))) (.node (hd.o66 P) (.node (hd.o84 P) (.node (hd.o120 P) (hd.lf (hd.o184 P)) .nil) (hd.lf (hd.o152 P))) (.node (hd.o102 P) (hd.lf (hd.o136 P)) (hd.lf (hd.o168 P))))))))
noncomputable def hd.heap_46 (P : Params) : Heap := ⟨Array.mk (boot_o_0 P :: boot_o_1 P :: boot_o_2 P :: boot_o_3 P :: boot_o_4 P :: boot_o_5 P :: boot_o_6 P :: boot_o_7 P :: boot_o_8 P :: boot_o_9 P :: boot_o_10 P :: hd.o43 P :: hd.o44 P :: hd.o45 P :: hd.o46 P :: []), ⟨[], [], [], 0, [], [], false, #[], [], 0, false, false, false, 0, [2000, 10, 10], false, 0, true, [], [], 0, false⟩⟩
noncomputable def hd.heap_264 (P : Params) : Heap := ⟨Array.mk (boot_o_0 P :: boot_o_1 P :: boot_o_2 P :: hd.o240 P :: boot_o_4 P :: boot_o_5 P :: boot_o_6 P :: boot_o_7 P :: boot_o_8 P :: boot_o_9 P :: boot_o_10 P :: hd.o43 P :: hd.o241 P :: hd.o45 P :: hd.o46 P :: hd.o51 P :: hd.o52 P :: hd.o53 P :: hd.o54 P :: hd.o55 P :: hd.o56 P :: hd.o57 P :: hd.o58 P :: hd.o59 P :: hd.o60 P :: hd.o61 P :: hd.o62 P :: hd.o63 P :: hd.o64 P :: hd.o65 P :: hd.o66 P :: hd.o67 P :: hd.o68 P :: hd.o69 P :: hd.o70 P :: hd.o71 P :: hd.o74 P :: hd.o75 P :: hd.o76 P :: hd.o77 P :: hd.o78 P :: hd.o79 P :: hd.o80 P :: hd.o81 P :: hd.o82 P :: hd.o83 P :: hd.o84 P :: hd.o85 P :: hd.o86 P :: hd.o87 P :: hd.o88 P :: hd.o89 P :: hd.o90 P :: hd.o91 P :: hd.o92 P :: hd.o93 P :: hd.o94 P :: hd.o95 P :: hd.o96 P :: hd.o97 P :: hd.o100 P :: hd.o101 P :: hd.o102 P :: hd.o103 P :: hd.o104 P :: hd.o105 P :: hd.o106 P :: hd.o107 P :: hd.o108 P :: hd.o109 P :: hd.o110 P :: hd.o111 P :: hd.o112 P :: hd.o115 P :: hd.o116 P :: hd.o117 P :: hd.o118 P :: hd.o119 P :: hd.o120 P :: hd.o121 P :: hd.o122 P :: hd.o123 P :: hd.o124 P :: hd.o125 P :: hd.o126 P :: hd.o127 P :: hd.o128 P :: hd.o129 P :: hd.o130 P :: hd.o131 P :: hd.o132 P :: hd.o133 P :: hd.o134 P :: hd.o135 P :: hd.o136 P :: hd.o137 P :: hd.o138 P :: hd.o139 P :: hd.o140 P :: hd.o141 P :: hd.o142 P :: hd.o143 P :: hd.o144 P :: hd.o145 P :: hd.o146 P :: hd.o147 P :: hd.o148 P :: hd.o149 P :: hd.o150 P :: hd.o151 P :: hd.o152 P :: hd.o153 P :: hd.o154 P :: hd.o155 P :: hd.o156 P :: hd.o157 P :: hd.o158 P :: hd.o159 P :: hd.o160 P :: hd.o161 P :: hd.o162 P :: hd.o163 P :: hd.o164 P :: hd.o165 P :: hd.o166 P :: hd.o167 P :: hd.o168 P :: hd.o169 P :: hd.o170 P :: hd.o171 P :: hd.o172 P :: hd.o173 P :: hd.o174 P :: hd.o175 P :: hd.o176 P :: hd.o177 P :: hd.o178 P :: hd.o179 P :: hd.o180 P :: hd.o181 P :: hd.o182 P :: hd.o183 P :: hd.o184 P :: hd.o185 P :: hd.o186 P :: hd.o187 P :: hd.o188 P :: hd.o189 P :: hd.o190 P :: hd.o191 P :: hd.o192 P :: hd.o193 P :: hd.o194 P :: hd.o195 P :: hd.o196 P :: hd.o197 P :: hd.o200 P :: hd.o201 P :: hd.o202 P :: hd.o203 P :: hd.o204 P :: hd.o205 P :: hd.o206 P :: hd.o207 P :: hd.o208 P :: hd.o209 P :: hd.o210 P :: hd.o211 P :: hd.o212 P :: hd.o213 P :: hd.o214 P :: hd.o215 P :: hd.o216 P :: hd.o217 P :: hd.o218 P :: hd.o219 P :: hd.o220 P :: hd.o221 P :: hd.o222 P :: hd.o223 P :: hd.o224 P :: hd.o225 P :: hd.o226 P :: hd.o227 P :: hd.o228 P :: hd.o229 P :: hd.o230 P :: hd.o231 P :: hd.o232 P :: hd.o233 P :: hd.o234 P :: hd.o235 P :: hd.o236 P :: hd.o237 P :: hd.o238 P :: hd.o239 P :: hd.o242 P :: hd.o243 P :: hd.o244 P :: hd.o245 P :: hd.o246 P :: hd.o247 P :: hd.o248 P :: hd.o249 P :: hd.o250 P :: hd.o251 P :: hd.o252 P :: hd.o253 P :: hd.o254 P :: hd.o255 P :: hd.o256 P :: hd.o257 P :: hd.o258 P :: hd.o259 P :: hd.o260 P :: hd.o261 P :: hd.o262 P :: hd.o263 P :: []), ⟨[], [], [], 0, [], [], false, #[], [], 0, false, false, false, 0, [2000, 10, 10], false, 0, true, [], [], 0, false⟩⟩
noncomputable abbrev hd.pw : Program := PySem.Challenge.pw_nq0238_01
noncomputable def hd.view_39 : Program := view hd.pw (0 :: 2 :: 3 :: 5 :: 6 :: 7 :: 8 :: 9 :: 11 :: 12 :: 13 :: 14 :: 15 :: 16 :: 17 :: 18 :: 19 :: 20 :: 21 :: 22 :: 23 :: 24 :: 25 :: 26 :: 27 :: 28 :: 29 :: 30 :: 31 :: 32 :: 34 :: 35 :: 36 :: [])
noncomputable def hd.env : Env := { scope := hd.pw.main.scope, locals := mainNs, globals := mainNs, cells := [], code := .ref 13, frame := some 14 }
noncomputable abbrev hd.cd : Code := .body (behindTheImports hd.pw) hd.env
noncomputable abbrev hd.S (T : BT) (n k : Nat) (os : OsState) : SharedT := ⟨T, n, {}, Array.mk [], {}, k, os⟩
noncomputable abbrev hd.z : Pos := ⟨0, 0, 0, 0⟩
noncomputable def hd.sl (i n : Nat) : List Stmt := ((behindTheImports hd.pw).drop i).take n
noncomputable abbrev hd.an : Option Value := some (.ref 6)
theorem hd.p0 (w : World) (os : OsState) : segRunT treeTable hd.pw w 11 hd.an 1 142 (hd.S (hd.tree_47 w.params) 15 187 os) (piecesOf (hd.sl 0 7) hd.env hd.cd ⟨0, 0, 0, 0⟩ [topFrame hd.z]) = some (.next, hd.S (hd.tree_71 w.params) 36 226 os, hd.cd, ⟨32, 0, 32, 10⟩) := by
  rw [PySem.W.Fast.te10110043849684766642, PySem.W.Fast.te14364793385576792824]
  kernel_rfl
theorem hd.p1 (w : World) (os : OsState) : segRunT treeTable hd.pw w 11 hd.an 1 264 (hd.S (hd.tree_71 w.params) 36 226 os) (piecesOf (hd.sl 7 1) hd.env hd.cd ⟨32, 0, 32, 10⟩ [topFrame hd.z]) = some (.next, hd.S (hd.tree_97 w.params) 60 263 os, hd.cd, ⟨33, 0, 39, 28⟩) := by
  rw [PySem.W.Fast.te10110043849684766642, PySem.W.Fast.te14364793385576792824]
  kernel_rfl
theorem hd.p2 (w : World) (os : OsState) : segRunT treeTable hd.pw w 11 hd.an 1 187 (hd.S (hd.tree_97 w.params) 60 263 os) (piecesOf (hd.sl 8 1) hd.env hd.cd ⟨33, 0, 39, 28⟩ [topFrame hd.z]) = some (.next, hd.S (hd.tree_112 w.params) 73 281 os, hd.cd, ⟨40, 0, 41, 8⟩) := by
  rw [PySem.W.Fast.te10110043849684766642, PySem.W.Fast.te14364793385576792824]
  kernel_rfl
theorem hd.p3 (w : World) (os : OsState) : segRunT treeTable hd.pw w 11 hd.an 1 528 (hd.S (hd.tree_112 w.params) 73 281 os) (piecesOf (hd.sl 9 1) hd.env hd.cd ⟨40, 0, 41, 8⟩ [topFrame hd.z]) = some (.next, hd.S (hd.tree_197 w.params) 156 400 os, hd.cd, ⟨42, 0, 147, 16⟩) := by
  rw [PySem.W.Fast.te10110043849684766642, PySem.W.Fast.te14364793385576792824]
  kernel_rfl
theorem hd.p4 (w : World) (os : OsState) : segRunT treeTable hd.pw w 11 hd.an 1 371 (hd.S (hd.tree_197 w.params) 156 400 os) (piecesOf (hd.sl 10 22) hd.env hd.cd ⟨42, 0, 147, 16⟩ [topFrame hd.z]) = some (.next, hd.S (hd.tree_239 w.params) 196 473 os, hd.cd, ⟨170, 0, 170, 15⟩) := by
  rw [PySem.W.Fast.te10110043849684766642, PySem.W.Fast.te14364793385576792824]
  kernel_rfl
theorem hd.p5 (w : World) (os : OsState) : segRunT treeTable hd.pw w 11 hd.an 1 122 (hd.S (hd.tree_239 w.params) 196 473 os) (piecesOf (hd.sl 32 5) hd.env hd.cd ⟨170, 0, 170, 15⟩ [topFrame hd.z]) = some (.next, hd.S (hd.tree_263 w.params) 218 505 os, hd.cd, ⟨219, 0, 222, 101⟩) := by
  rw [PySem.W.Fast.te10110043849684766642, PySem.W.Fast.te14364793385576792824]
  kernel_rfl
theorem hd.q0 (w : World) (os : OsState) : topGo treeTable hd.pw w 11 hd.an 12 ⟨boot_heap w.params, Array.mk [], boot_drawn, boot_toks, os⟩ (topStub hd.pw) = some (⟨hd.heap_46 w.params, Array.mk [], {}, 187, os⟩, ⟨denote treeTable hd.cd, hd.cd, hd.z, [topFrame hd.z]⟩) := by kernel_rfl
theorem hd.q1 (w : World) (os : OsState) : segRun treeTable hd.pw w 11 hd.an 1 1 ⟨hd.heap_46 w.params, Array.mk [], {}, 187, os⟩ (blockOf (behindTheImports hd.pw) hd.env hd.cd hd.z [topFrame hd.z]) = some (.next, (hd.S (hd.tree_47 w.params) 15 187 os).abs, hd.cd, hd.z) := by kernel_rfl
noncomputable abbrev hd.fin (w : World) (os : OsState) : Shared := ⟨hd.heap_264 w.params, Array.mk [], {}, 505, os⟩
theorem hd.q2 (w : World) (os : OsState) : topRun treeTable hd.pw w 11 hd.an 2 (hd.S (hd.tree_263 w.params) 218 505 os).abs ⟨doneF .next, hd.cd, ⟨219, 0, 222, 101⟩, [topFrame hd.z]⟩ = some (hd.fin w os) := by kernel_rfl
theorem hd.bod : behindTheImports hd.pw = hd.sl 0 7 ++ (hd.sl 7 1 ++ (hd.sl 8 1 ++ (hd.sl 9 1 ++ (hd.sl 10 22 ++ (hd.sl 32 5 ++ []))))) := by kernel_rfl
theorem hd.run (w : World) (os : OsState) : topRun treeTable hd.pw w 11 hd.an (12 + (1 + (142 + (264 + (187 + (528 + (371 + (122 + (2))))))))) ⟨boot_heap w.params, Array.mk [], boot_drawn, boot_toks, os⟩ (topStub hd.pw) = some (hd.fin w os) := by
  refine go_top (hd.q0 w os) (piece_block (hd.q1 w os) ?_)
  have h := piece_app (q := hd.z) (segRun_of (hd.p0 w os)) (piece_app (q := hd.z) (segRun_of (hd.p1 w os)) (piece_app (q := hd.z) (segRun_of (hd.p2 w os)) (piece_app (q := hd.z) (segRun_of (hd.p3 w os)) (piece_app (q := hd.z) (segRun_of (hd.p4 w os)) (piece_app (q := hd.z) (segRun_of (hd.p5 w os)) (piece_nil (hd.q2 w os)))))))
  rw [← hd.bod] at h
  exact h
noncomputable abbrev hd.lo : List Str := ["_NodeInfo", "_filemode_table"]
noncomputable def hd.lv : List (Str × WData) := [("_filemode_table", (.tuple [(.tuple [(.tuple [(.int 40960), (.str ⟨#[108]⟩)]), (.tuple [(.int 49152), (.str ⟨#[115]⟩)]), (.tuple [(.int 32768), (.str ⟨#[45]⟩)]), (.tuple [(.int 24576), (.str ⟨#[98]⟩)]), (.tuple [(.int 16384), (.str ⟨#[100]⟩)]), (.tuple [(.int 8192), (.str ⟨#[99]⟩)]), (.tuple [(.int 4096), (.str ⟨#[112]⟩)])]), (.tuple [(.tuple [(.int 256), (.str ⟨#[114]⟩)])]), (.tuple [(.tuple [(.int 128), (.str ⟨#[119]⟩)])]), (.tuple [(.tuple [(.int 2112), (.str ⟨#[115]⟩)]), (.tuple [(.int 2048), (.str ⟨#[83]⟩)]), (.tuple [(.int 64), (.str ⟨#[120]⟩)])]), (.tuple [(.tuple [(.int 32), (.str ⟨#[114]⟩)])]), (.tuple [(.tuple [(.int 16), (.str ⟨#[119]⟩)])]), (.tuple [(.tuple [(.int 1032), (.str ⟨#[115]⟩)]), (.tuple [(.int 1024), (.str ⟨#[83]⟩)]), (.tuple [(.int 8), (.str ⟨#[120]⟩)])]), (.tuple [(.tuple [(.int 4), (.str ⟨#[114]⟩)])]), (.tuple [(.tuple [(.int 2), (.str ⟨#[119]⟩)])]), (.tuple [(.tuple [(.int 513), (.str ⟨#[116]⟩)]), (.tuple [(.int 512), (.str ⟨#[84]⟩)]), (.tuple [(.int 1), (.str ⟨#[120]⟩)])])]))]
noncomputable abbrev hd.ro : OpenRow := PySem.Challenge.rw_nq0238_01.row
noncomputable abbrev hd.mo : List Str := importedModules hd.pw.main.body
noncomputable abbrev hd.xt : Shared → Bool := fun s => xlAt hd.view_39 hd.lv s && recOk (RowW.records hd.ro.toRowW) s
theorem hd.as (P : Params) : ((2 :: 3 :: 15 :: 17 :: 18 :: 20 :: 21 :: 22 :: 24 :: 25 :: 27 :: 28 :: 29 :: 31 :: 32 :: 34 :: 35 :: 43 :: 44 :: 46 :: 47 :: 49 :: 50 :: 51 :: 53 :: 54 :: 55 :: 56 :: 57 :: 60 :: 67 :: 68 :: 69 :: 70 :: 80 :: 81 :: 83 :: 84 :: 86 :: 87 :: 88 :: 90 :: 91 :: 93 :: 94 :: 95 :: 97 :: 98 :: 100 :: 101 :: 102 :: 105 :: 106 :: 107 :: 109 :: 110 :: 112 :: 113 :: 114 :: 116 :: 117 :: 119 :: 120 :: 121 :: 123 :: 124 :: 126 :: 127 :: 128 :: 130 :: 131 :: 133 :: 134 :: 135 :: 137 :: 138 :: 140 :: 141 :: 142 :: 144 :: 145 :: 147 :: 148 :: 149 :: 150 :: 151 :: 152 :: 153 :: 156 :: 158 :: 159 :: 161 :: 162 :: 163 :: 164 :: 165 :: 166 :: 167 :: 168 :: 169 :: 170 :: 171 :: 172 :: 173 :: 174 :: 175 :: 176 :: 177 :: 178 :: 179 :: 180 :: 181 :: 182 :: 183 :: 184 :: 185 :: 186 :: 187 :: 188 :: 189 :: 190 :: 191 :: 192 :: 193 :: 194 :: 195 :: 196 :: 198 :: 199 :: 201 :: 202 :: 203 :: 206 :: 207 :: 208 :: 211 :: 212 :: 213 :: 216 :: 217 :: []) : List Addr) = (hd.heap_39 P).map (·.1) := by kernel_rfl
noncomputable abbrev hd.hk : Hook := kmHook hd.heap_39 (2 :: 3 :: 15 :: 17 :: 18 :: 20 :: 21 :: 22 :: 24 :: 25 :: 27 :: 28 :: 29 :: 31 :: 32 :: 34 :: 35 :: 43 :: 44 :: 46 :: 47 :: 49 :: 50 :: 51 :: 53 :: 54 :: 55 :: 56 :: 57 :: 60 :: 67 :: 68 :: 69 :: 70 :: 80 :: 81 :: 83 :: 84 :: 86 :: 87 :: 88 :: 90 :: 91 :: 93 :: 94 :: 95 :: 97 :: 98 :: 100 :: 101 :: 102 :: 105 :: 106 :: 107 :: 109 :: 110 :: 112 :: 113 :: 114 :: 116 :: 117 :: 119 :: 120 :: 121 :: 123 :: 124 :: 126 :: 127 :: 128 :: 130 :: 131 :: 133 :: 134 :: 135 :: 137 :: 138 :: 140 :: 141 :: 142 :: 144 :: 145 :: 147 :: 148 :: 149 :: 150 :: 151 :: 152 :: 153 :: 156 :: 158 :: 159 :: 161 :: 162 :: 163 :: 164 :: 165 :: 166 :: 167 :: 168 :: 169 :: 170 :: 171 :: 172 :: 173 :: 174 :: 175 :: 176 :: 177 :: 178 :: 179 :: 180 :: 181 :: 182 :: 183 :: 184 :: 185 :: 186 :: 187 :: 188 :: 189 :: 190 :: 191 :: 192 :: 193 :: 194 :: 195 :: 196 :: 198 :: 199 :: 201 :: 202 :: 203 :: 206 :: 207 :: 208 :: 211 :: 212 :: 213 :: 216 :: 217 :: []) hd.as [23, 30]
theorem hd.size (w : World) : ((boot_heap w.params).isNs mainGlobals && (Array.mk [] : Array GenState).size == 0, (boot_heap w.params).objs.size, (boot_heap w.params).nsMap mainGlobals "__annotations__") = (true, 11, hd.an) := by kernel_rfl
theorem hd.g0 (w : World) (os : OsState) : (staticsOk hd.mo (boot_heap w.params) (hd.heap_264 w.params) && namesBound hd.pw (hd.heap_264 w.params) && gensDone (hd.fin w os) && laidKept (boot_heap w.params) (hd.heap_264 w.params)) = true := by kernel_rfl
theorem hd.l1 (w : World) (os : OsState) : seen ((recsOf hd.view_39).map (·.name)) (ownsOf hd.view_39) [] { hd.fin w os with gens := #[] } = expectedOf hd.view_39 := by kernel_rfl
theorem hd.l2 (w : World) (os : OsState) : (hd.fin w os).heap.bltView = bltViewBooted := by kernel_rfl
theorem hd.l3 (w : World) (os : OsState) : ((hd.fin w os).heap.keysOk (looseW hd.view_39 hd.lo) ((recsOf hd.view_39).map (·.name)) ((litsOf hd.view_39).map (·.1)) ((clssOf hd.view_39 (looseW hd.view_39 hd.lo)).map (·.name)) && (hd.fin w os).heap.accountedOkI hd.mo && (hd.fin w os).heap.isNs mainGlobals && (hd.fin w os).heap.isNs builtinsNs && tablesOk hd.view_39 (hd.fin w os).heap && hd.xt (hd.fin w os) && (if true then (hd.fin w os).gens.size == 0 else !leftWithCleanup (hd.fin w os).gens)) = true := by kernel_rfl
theorem hd.l4 (w : World) (os : OsState) : tabsOk hd.view_39 (hd.fin w os) = true := by kernel_rfl
theorem hd.l5 (w : World) (os : OsState) : pinSeenD hd.view_39 (drecsOf hd.view_39) (hd.fin w os) = pinGoodD (drecsOf hd.view_39) := by kernel_rfl
theorem hd.l6 (w : World) (os : OsState) : plainSeenE hd.view_39 (looseW hd.view_39 hd.lo) (hd.fin w os) = plainGoodE hd.view_39 (looseW hd.view_39 hd.lo) := by kernel_rfl
theorem hd.l7 (w : World) (os : OsState) : plainSeenD hd.view_39 hd.lo (hd.fin w os) = plainGoodD hd.view_39 hd.lo := by kernel_rfl
theorem hd.l8 (w : World) (os : OsState) : wideSeen hd.view_39 (hd.fin w os) = wideGood hd.view_39 := by kernel_rfl
theorem hd.l9 (w : World) (os : OsState) : clsSeenW hd.view_39 hd.lo (hd.fin w os) = clsGoodW hd.view_39 hd.lo := by kernel_rfl
theorem hd.l0 (w : World) (os : OsState) : hd.hk.obs (hd.fin w os) = hd.hk.val w := by kernel_rfl
theorem hd.left : LeftO hd.ro.prog hd.view_39 hd.lo hd.xt hd.hk.obs hd.hk.val 3342 :=
  LeftO.of_pieces (H₀ := boot_heap) (H₁ := hd.heap_264) (boot_open (by kernel_rfl) (by decide) (fun _ => by kernel_rfl)) hd.size hd.run (by decide)
    (fun w => funext fun os => looks_pair (hd.g0 w os) (looks_pair (show openSeen _ _ _ _ _ _ = openGood _ _ from looks_pair (hd.l1 w os) (looks_pair (hd.l2 w os) (looks_pair (hd.l3 w os) (looks_pair (hd.l4 w os) (looks_pair (hd.l5 w os) (looks_pair (hd.l6 w os) (looks_pair (hd.l7 w os) (looks_pair (hd.l8 w os) (hd.l9 w os))))))))) (hd.l0 w os)))
theorem hd.n1 : namesResolve hd.pw = true := by kernel_rfl
theorem hd.n2 : noRoadLSs { strict := !(importedModules hd.pw.main.body).all cThrough.contains, foot := none, bare := (["vars", "dir", "locals"] : List Str).filter (readsOut hd.pw hd.pw.main.body) } hd.pw.main.body = true := by kernel_rfl
theorem hd.n3 : (namesMeet hd.pw hd.pw.main.body fun _ n => attrL n) = true := by kernel_rfl
theorem hd.n4 : looksOpen hd.pw = true := by
  unfold looksOpen
  rw [hd.n1, hd.n2, hd.n3]
  kernel_rfl
theorem hd.sa : PySem.Challenge.rw_nq0238_01.row.wellSaid = true := by
  unfold OpenRow.wellSaid OpenRow.partSaid
  rw [show looksOpen PySem.Challenge.rw_nq0238_01.row.prog = true from hd.n4]
  kernel_rfl
theorem hd.said : OpenLaw.wellSaid PySem.Challenge.rw_nq0238_01 = true := by
  unfold OpenLaw.wellSaid
  rw [hd.sa]
  kernel_rfl
set_option maxHeartbeats 8000000 in
theorem fill : PySem.Challenge.rw_nq0238_01 = PySem.Challenge.rw_nq0238_01 ∧ Mine.hd.heap_39 = Mine.hd.heap_39 := by
  k_fill
  exact ⟨rfl, rfl⟩
set_option maxHeartbeats 1000000
theorem reset10base : True := by
  k_with_none
  w_top off
  try (walk1; fail)
  exact True.intro
section
/-- the program -/
abbrev PR : Program := PySem.Challenge.rw_nq0238_01.prog
abbrev AA (d : Nat) (env : Env) (outer : List Env) (gs : Option (List Code)) (u : Nat) : Around := ⟨none, d, some (env :: outer), gs, u⟩
abbrev srtEs (w : World) (t1 t2 t3 t4 : Tok) (v1 v2 v3 v4 : Value) : List DictEntry :=
  [⟨PyData.keyHash w.params "_node2info", .str "_node2info" t1, v1⟩, ⟨PyData.keyHash w.params "_ready_nodes", .str "_ready_nodes" t2, v2⟩,
   ⟨PyData.keyHash w.params "_npassedout", .str "_npassedout" t3, v3⟩, ⟨PyData.keyHash w.params "_nfinished", .str "_nfinished" t4, v4⟩]
/-- the values of a list of ints with their marks -/
abbrev vals (xs : List (Int × Tok)) : List Value := xs.map fun p => Value.int p.1 p.2
theorem vals_size (xs : List (Int × Tok)) : (((vals xs).toArray.size : Nat) : Int) = (xs.length : Int) := by simp
/-- the walk halts here -/
@[irreducible] def Halt (P : Prop) : Prop := P
theorem halt {P : Prop} (h : Halt P) : P := by unfold Halt at h; exact h
theorem unhalt {P : Prop} (h : P) : Halt P := by unfold Halt; exact h
/-- a node of the sorter, with its places in the heap -/
structure NR where
  key : Int
  a : Addr
  d : Addr
  l : Addr
  kt : Tok
  np : Int
  nt : Tok
  sv : List (Int × Tok)
  ep : Nat
abbrev infoO (d l : Addr) (key : Int) (kt : Tok) (np : Int) (nt : Tok) : Obj := ⟨.ref 54, some d, .plain, [some (Value.int key kt), some (Value.int np nt), some (Value.ref l)].toArray⟩
abbrev NR.info (r : NR) : Obj := infoO r.d r.l r.key r.kt r.np r.nt
abbrev NR.lst (r : NR) : Obj := listOf (vals r.sv).toArray r.ep
def NR.list (r : NR) : List (Addr × Obj) := [(r.a, r.info), (r.d, dictOf [] 0), (r.l, r.lst)]
/-- the sorter itself: rd is the list of the ready, if there is one -/
structure SR where
  sx : Addr
  dx : Addr
  nx : Addr
  on : Obj
  t1 : Tok
  t2 : Tok
  t3 : Tok
  t4 : Tok
  rd : Option (Addr × List (Int × Tok) × Nat)
  po : Int
  tp : Tok
  fi : Int
  tf : Tok
abbrev rdV : Option (Addr × List (Int × Tok) × Nat) → Value
  | none => .none
  | some (a, _) => .ref a
def rdL : Option (Addr × List (Int × Tok) × Nat) → List (Addr × Obj)
  | none => []
  | some (a, xs, ep) => [(a, listOf (vals xs).toArray ep)]
abbrev SR.dict (w : World) (S : SR) : Obj := dictOf (srtEs w S.t1 S.t2 S.t3 S.t4 (.ref S.nx) (rdV S.rd) (.int S.po S.tp) (.int S.fi S.tf)) 4
def SR.list (w : World) (S : SR) : List (Addr × Obj) := (S.sx, instObj 151 S.dx) :: (S.dx, S.dict w) :: (S.nx, S.on) :: rdL S.rd
@[irreducible] def canon (w : World) (F : List (Addr × Obj)) (S : SR) (G : List NR) : List (Addr × Obj) := S.list w ++ (G.flatMap NR.list ++ F)
@[irreducible] def kvsOf (G : List NR) : List (Int × Value) := G.map fun r => (r.key, Value.ref r.a)
structure Good (w : World) (F : List (Addr × Obj)) (S : SR) (G : List NR) : Prop where
  nd : ((canon w F S G).map (·.1)).Nodup
  dict : S.on.IsDictOf (PySem.intKind PR w) (kvsOf G)
  keys : (G.map NR.key).Nodup
  lo : (S.nx == sysModules) = false
abbrev AG := List (Int × Int × List Int)
def NR.abs (r : NR) : Int × Int × List Int := (r.key, r.np, r.sv.map (·.1))
def absG (G : List NR) : AG := G.map NR.abs

section
variable {w : World} {F : List (Addr × Obj)} {S : SR} {G : List NR} {r : NR}
theorem mem_sx : (S.sx, instObj 151 S.dx) ∈ canon w F S G := by simp [canon, SR.list]
theorem mem_dx : (S.dx, S.dict w) ∈ canon w F S G := by simp [canon, SR.list]
theorem mem_nx : (S.nx, S.on) ∈ canon w F S G := by simp [canon, SR.list]
theorem mem_rd {a : Addr} {xs : List (Int × Tok)} {ep : Nat} (h : S.rd = some (a, xs, ep)) : (a, listOf (vals xs).toArray ep) ∈ canon w F S G := by simp [canon, SR.list, h, rdL]
theorem mem_node (hr : r ∈ G) {p : Addr × Obj} (hp : p ∈ r.list) : p ∈ canon w F S G := by
  unfold canon
  exact List.mem_append_right _ (List.mem_append_left _ (List.mem_flatMap.mpr ⟨r, hr, hp⟩))
theorem mem_info (hr : r ∈ G) : (r.a, r.info) ∈ canon w F S G := mem_node hr (by simp [NR.list])
theorem mem_nd (hr : r ∈ G) : (r.d, dictOf [] 0) ∈ canon w F S G := mem_node hr (by simp [NR.list])
theorem mem_lst (hr : r ∈ G) : (r.l, r.lst) ∈ canon w F S G := mem_node hr (by simp [NR.list])
theorem mem_fr {p : Addr × Obj} (hp : p ∈ F) : p ∈ canon w F S G := by
  unfold canon
  exact List.mem_append_right _ (List.mem_append_right _ hp)
theorem valueAt_in (hk : (G.map NR.key).Nodup) (hr : r ∈ G) : valueAt (kvsOf G) r.key = some (.ref r.a) := by
  unfold valueAt kvsOf
  induction G with
  | nil => cases hr
  | cons x G ih =>
    rw [List.map_cons, List.nodup_cons] at hk
    rw [List.map_cons, List.find?_cons]
    by_cases e : x.key = r.key
    · rcases List.mem_cons.mp hr with rfl | h
      · simp
      · exact absurd (e ▸ List.mem_map_of_mem h) hk.1
    · simp only [e, decide_false]
      rcases List.mem_cons.mp hr with rfl | h
      · exact absurd rfl e
      · exact ih hk.2 h
theorem valueAt_out {k : Int} (hk : k ∉ G.map NR.key) : valueAt (kvsOf G) k = none := by
  unfold valueAt kvsOf
  rw [Option.map_eq_none_iff, List.find?_eq_none]
  intro x hx
  obtain ⟨r, hr, rfl⟩ := List.mem_map.mp hx
  simp only [decide_eq_true_eq]
  intro e
  exact hk (e ▸ List.mem_map_of_mem hr)
theorem mem_or (k : Int) : (∃ r ∈ G, r.key = k) ∨ k ∉ G.map NR.key := by
  by_cases h : k ∈ G.map NR.key
  · obtain ⟨r, hr, e⟩ := List.mem_map.mp h
    exact .inl ⟨r, hr, e⟩
  · exact .inr h
theorem Upd.mid {d : Addr} {o o' : Obj} : ∀ {pre post : List (Addr × Obj)}, (∀ p ∈ pre, p.1 ≠ d) → (∀ p ∈ post, p.1 ≠ d) → Upd d o o' (pre ++ (d, o) :: post) (pre ++ (d, o') :: post)
  | [], _, _, h2 => .head h2
  | _ :: _, _, h1, h2 => .tail (h1 _ (.head _)) (Upd.mid (fun p hp => h1 p (.tail _ hp)) h2)
theorem Upd.nd {d : Addr} {o o' : Obj} {pre post : List (Addr × Obj)} (h : ((pre ++ (d, o) :: post).map (·.1)).Nodup) : Upd d o o' (pre ++ (d, o) :: post) (pre ++ (d, o') :: post) := by
  rw [List.map_append, List.map_cons, List.nodup_append] at h
  obtain ⟨_, h2, h3⟩ := h
  refine Upd.mid (fun p hp => h3 _ (List.mem_map_of_mem hp) _ (.head _)) fun p hp e => ?_
  exact (List.nodup_cons.mp h2).1 (List.mem_map.mpr ⟨p, hp, e⟩)
theorem UpdF.nd {d : Addr} {o : Obj} {pre post : List (Addr × Obj)} (h : ((pre ++ (d, o) :: post).map (·.1)).Nodup) : UpdF d o (pre ++ (d, o) :: post) fun o' => pre ++ (d, o') :: post := by
  rw [List.map_append, List.map_cons, List.nodup_append] at h
  obtain ⟨h1, h2, h3⟩ := h
  have h4 : ∀ p ∈ post, p.1 ≠ d := fun p hp e => (List.nodup_cons.mp h2).1 (List.mem_map.mpr ⟨p, hp, e⟩)
  have h5 : ∀ p ∈ pre, p.1 ≠ d := fun p hp => h3 _ (List.mem_map_of_mem hp) _ (.head _)
  clear h1 h2 h3
  induction pre with
  | nil => exact UpdF.head h4
  | cons p pre ih => exact UpdF.tail (h5 p (.head _)) (ih fun q hq => h5 q (.tail _ hq))
theorem ne_all {l : List (Addr × Obj)} {a b c : Nat} {o : Obj} (h : ∀ p ∈ l, p.1 < a) (hm : (b, o) ∈ l) (hc : a ≤ c) : c ≠ b := by
  have := h _ hm
  dsimp only at this
  intro e; rw [e] at hc; exact absurd (Nat.lt_of_lt_of_le this hc) (Nat.lt_irrefl _)
theorem ne_all' {l : List (Addr × Obj)} {a b c : Nat} {o : Obj} (h : ∀ p ∈ l, p.1 < a) (hm : (b, o) ∈ l) (hc : a ≤ c) : b ≠ c := (ne_all h hm hc).symm
theorem all_ne {l : List (Addr × Obj)} {a c : Nat} (h : ∀ p ∈ l, p.1 < a) (hc : a ≤ c) : ∀ p ∈ l, p.1 ≠ c := fun p hp e => by
  have := h p hp
  rw [e] at this; exact absurd (Nat.lt_of_lt_of_le this hc) (Nat.lt_irrefl _)
/-- one node turned -/
@[irreducible] def modK (G : List NR) (k : Int) (f : NR → NR) : List NR := G.map fun x => if x.key = k then f x else x
theorem modK_split (hk : (G.map NR.key).Nodup) (hr : r ∈ G) (f : NR → NR) : ∃ G1 G2, G = G1 ++ r :: G2 ∧ modK G r.key f = G1 ++ f r :: G2 := by
  obtain ⟨G1, G2, rfl⟩ := List.append_of_mem hr
  refine ⟨G1, G2, rfl, ?_⟩
  rw [List.map_append, List.map_cons, List.nodup_append] at hk
  obtain ⟨_, h2, h3⟩ := hk
  unfold modK
  rw [List.map_append, List.map_cons, if_pos rfl]
  congr 1
  · conv => rhs; rw [← List.map_id G1]
    refine List.map_congr_left fun x hx => if_neg fun e => ?_
    exact h3 _ (List.mem_map_of_mem hx) _ (.head _) e
  · congr 1
    conv => rhs; rw [← List.map_id G2]
    refine List.map_congr_left fun x hx => if_neg fun e => ?_
    exact (List.nodup_cons.mp h2).1 (e ▸ List.mem_map_of_mem hx)
end
theorem allLt_get {d : Addr} {l : List (Addr × Obj)} (h : AllLt d l) {p : Addr × Obj} (hp : p ∈ l) : @LT.lt Nat _ p.1 d := by
  induction l with
  | nil => cases hp
  | cons x l ih =>
    rcases List.mem_cons.mp hp with rfl | hp
    · exact h.1
    · exact ih h.2 hp
theorem allLt_ne {d a : Addr} {o : Obj} {l : List (Addr × Obj)} (h : AllLt d l) (hm : (a, o) ∈ l) : d ≠ a := Nat.ne_of_gt (allLt_get h hm)
theorem allLt_ne' {d a : Addr} {o : Obj} {l : List (Addr × Obj)} (h : AllLt d l) (hm : (a, o) ∈ l) : a ≠ d := Nat.ne_of_lt (allLt_get h hm)
section
variable {w : World} {F : List (Addr × Obj)} {S : SR} {G : List NR} {r : NR}
theorem updNp (g : Good w F S G) (hr : r ∈ G) {np : Int} {nt : Tok} :
    Upd r.a r.info (infoO r.d r.l r.key r.kt np nt) (canon w F S G) (canon w F S (modK G r.key fun x => { x with np := np, nt := nt })) := by
  obtain ⟨G1, G2, rfl, e⟩ := modK_split g.keys hr fun x => { x with np := np, nt := nt }
  rw [e]
  have nd := g.nd
  have e1 : canon w F S (G1 ++ r :: G2) = (S.list w ++ G1.flatMap NR.list) ++ (r.a, r.info) :: ((r.d, dictOf [] 0) :: (r.l, r.lst) :: (G2.flatMap NR.list ++ F)) := by simp [canon, NR.list]
  have e2 : canon w F S (G1 ++ { r with np := np, nt := nt } :: G2) = (S.list w ++ G1.flatMap NR.list) ++ (r.a, infoO r.d r.l r.key r.kt np nt) :: ((r.d, dictOf [] 0) :: (r.l, r.lst) :: (G2.flatMap NR.list ++ F)) := by simp [canon, NR.list]
  rw [e1] at nd ⊢
  rw [e2]
  exact Upd.nd nd
theorem updSv (g : Good w F S G) (hr : r ∈ G) {sv : List (Int × Tok)} {ep : Nat} :
    Upd r.l r.lst (listOf (vals sv).toArray ep) (canon w F S G) (canon w F S (modK G r.key fun x => { x with sv := sv, ep := ep })) := by
  obtain ⟨G1, G2, rfl, e⟩ := modK_split g.keys hr fun x => { x with sv := sv, ep := ep }
  rw [e]
  have nd := g.nd
  have e1 : canon w F S (G1 ++ r :: G2) = (S.list w ++ (G1.flatMap NR.list ++ [(r.a, r.info), (r.d, dictOf [] 0)])) ++ (r.l, r.lst) :: (G2.flatMap NR.list ++ F) := by simp [canon, NR.list]
  have e2 : canon w F S (G1 ++ { r with sv := sv, ep := ep } :: G2) = (S.list w ++ (G1.flatMap NR.list ++ [(r.a, r.info), (r.d, dictOf [] 0)])) ++ (r.l, listOf (vals sv).toArray ep) :: (G2.flatMap NR.list ++ F) := by simp [canon, NR.list]
  rw [e1] at nd ⊢
  rw [e2]
  exact Upd.nd nd
theorem updDict (g : Good w F S G) {po fi : Int} {tp tf : Tok} :
    Upd S.dx (S.dict w) (dictOf (srtEs w S.t1 S.t2 S.t3 S.t4 (.ref S.nx) (rdV S.rd) (.int po tp) (.int fi tf)) 4) (canon w F S G) (canon w F { S with po := po, tp := tp, fi := fi, tf := tf } G) := by
  have nd := g.nd
  have e1 : canon w F S G = [(S.sx, instObj 151 S.dx)] ++ (S.dx, S.dict w) :: ((S.nx, S.on) :: rdL S.rd ++ (G.flatMap NR.list ++ F)) := by simp [canon, SR.list]
  have e2 : canon w F { S with po := po, tp := tp, fi := fi, tf := tf } G = [(S.sx, instObj 151 S.dx)] ++ (S.dx, (dictOf (srtEs w S.t1 S.t2 S.t3 S.t4 (.ref S.nx) (rdV S.rd) (.int po tp) (.int fi tf)) 4)) :: ((S.nx, S.on) :: rdL S.rd ++ (G.flatMap NR.list ++ F)) := by simp [canon, SR.list]
  rw [e1] at nd ⊢
  rw [e2]
  exact Upd.nd nd
theorem updRd (g : Good w F S G) {a : Addr} {xs ys : List (Int × Tok)} {ep ep' : Nat} (h : S.rd = some (a, xs, ep)) :
    Upd a (listOf (vals xs).toArray ep) (listOf (vals ys).toArray ep') (canon w F S G) (canon w F { S with rd := some (a, ys, ep') } G) := by
  have nd := g.nd
  have e1 : canon w F S G = [(S.sx, instObj 151 S.dx), (S.dx, S.dict w), (S.nx, S.on)] ++ (a, listOf (vals xs).toArray ep) :: (G.flatMap NR.list ++ F) := by simp [canon, SR.list, h, rdL]
  have e2 : canon w F { S with rd := some (a, ys, ep') } G = [(S.sx, instObj 151 S.dx), (S.dx, S.dict w), (S.nx, S.on)] ++ (a, listOf (vals ys).toArray ep') :: (G.flatMap NR.list ++ F) := by simp [canon, SR.list, h, rdL]
  rw [e1] at nd ⊢
  rw [e2]
  exact Upd.nd nd
theorem updOn (g : Good w F S G) : UpdF S.nx S.on (canon w F S G) fun o' => canon w F { S with on := o' } G := by
  have nd := g.nd
  have e1 : canon w F S G = [(S.sx, instObj 151 S.dx), (S.dx, S.dict w)] ++ (S.nx, S.on) :: (rdL S.rd ++ (G.flatMap NR.list ++ F)) := by simp [canon, SR.list]
  have e2 : (fun o' => canon w F { S with on := o' } G) = fun o' => [(S.sx, instObj 151 S.dx), (S.dx, S.dict w)] ++ (S.nx, o') :: (rdL S.rd ++ (G.flatMap NR.list ++ F)) := by funext o'; simp [canon, SR.list]
  rw [e1] at nd ⊢
  rw [e2]
  exact UpdF.nd nd
theorem canon_cons_perm (w : World) (F : List (Addr × Obj)) (S : SR) (G : List NR) (x : Addr × Obj) : (canon w (x :: F) S G).Perm (x :: canon w F S G) := by
  unfold canon
  have e1 : SR.list w S ++ (G.flatMap NR.list ++ x :: F) = (SR.list w S ++ G.flatMap NR.list) ++ x :: F := by simp
  have e2 : x :: (SR.list w S ++ (G.flatMap NR.list ++ F)) = x :: ((SR.list w S ++ G.flatMap NR.list) ++ F) := by simp
  rw [e1, e2]
  exact List.perm_middle
theorem news_in {h₀ h : Heap} {L : Addr} {x : Addr × Obj} (N : News h₀ L h (x :: canon w F S G)) : News h₀ L h (canon w (x :: F) S G) := fun p hp => N p ((canon_cons_perm w F S G x).mem_iff.mp hp)
theorem news_out {h₀ h : Heap} {L : Addr} {x : Addr × Obj} (N : News h₀ L h (canon w (x :: F) S G)) : News h₀ L h (canon w F S G) := fun p hp => N p ((canon_cons_perm w F S G x).mem_iff.mpr (.tail _ hp))
theorem good_in (g : Good w F S G) {a : Addr} {o : Obj} (h : ∀ p ∈ canon w F S G, p.1 < a) : Good w ((a, o) :: F) S G := by
  refine ⟨?_, g.dict, g.keys, g.lo⟩
  rw [((canon_cons_perm w F S G (a, o)).map _).nodup_iff, List.map_cons]
  refine List.nodup_cons.mpr ⟨fun hm => ?_, g.nd⟩
  obtain ⟨q, hq, e⟩ := List.mem_map.mp hm
  have := h q hq
  rw [e] at this
  exact absurd this (Nat.lt_irrefl _)
theorem good_out {x : Addr × Obj} (g : Good w (x :: F) S G) : Good w F S G := by
  refine ⟨?_, g.dict, g.keys, g.lo⟩
  have := g.nd
  rw [((canon_cons_perm w F S G x).map _).nodup_iff, List.map_cons] at this
  exact (List.nodup_cons.mp this).2
theorem addr_mod (k : Int) (f : NR → NR) (hf : ∀ x, (f x).a = x.a ∧ (f x).d = x.d ∧ (f x).l = x.l) : (canon w F S (modK G k f)).map (·.1) = (canon w F S G).map (·.1) := by
  unfold canon
  rw [List.map_append, List.map_append, List.map_append, List.map_append]
  congr 2
  unfold modK
  induction G with
  | nil => rfl
  | cons x G ih =>
    rw [List.map_cons, List.flatMap_cons, List.flatMap_cons, List.map_append, List.map_append, ih]
    congr 1
    split
    · obtain ⟨h1, h2, h3⟩ := hf x
      simp [NR.list, h1, h2, h3]
    · rfl
theorem keys_mod (k : Int) (f : NR → NR) (hf : ∀ x, (f x).key = x.key) : (modK G k f).map NR.key = G.map NR.key := by
  unfold modK
  rw [List.map_map]
  refine List.map_congr_left fun x _ => ?_
  show NR.key (if x.key = k then f x else x) = x.key
  split
  · exact hf x
  · rfl
theorem kvs_mod (k : Int) (f : NR → NR) (hf : ∀ x, (f x).key = x.key ∧ (f x).a = x.a) : kvsOf (modK G k f) = kvsOf G := by
  unfold modK kvsOf
  rw [List.map_map]
  refine List.map_congr_left fun x _ => ?_
  show ((if x.key = k then f x else x).key, Value.ref (if x.key = k then f x else x).a) = (x.key, Value.ref x.a)
  split
  · rw [(hf x).1, (hf x).2]
  · rfl
theorem good_mod (g : Good w F S G) (k : Int) (f : NR → NR) (hf : ∀ x, (f x).key = x.key ∧ (f x).a = x.a ∧ (f x).d = x.d ∧ (f x).l = x.l) : Good w F S (modK G k f) :=
  ⟨by rw [addr_mod k f fun x => (hf x).2]; exact g.nd, by rw [kvs_mod k f fun x => ⟨(hf x).1, (hf x).2.1⟩]; exact g.dict, by rw [keys_mod k f fun x => (hf x).1]; exact g.keys, g.lo⟩
theorem good_np (g : Good w F S G) (k : Int) {np : Int} {nt : Tok} : Good w F S (modK G k fun x => { x with np := np, nt := nt }) := good_mod g k _ fun _ => ⟨rfl, rfl, rfl, rfl⟩
theorem good_sv (g : Good w F S G) (k : Int) {sv : List (Int × Tok)} {ep : Nat} : Good w F S (modK G k fun x => { x with sv := sv, ep := ep }) := good_mod g k _ fun _ => ⟨rfl, rfl, rfl, rfl⟩
theorem good_dict (g : Good w F S G) {po fi : Int} {tp tf : Tok} : Good w F { S with po := po, tp := tp, fi := fi, tf := tf } G :=
  ⟨by have e : (canon w F { S with po := po, tp := tp, fi := fi, tf := tf } G).map (·.1) = (canon w F S G).map (·.1) := by simp [canon, SR.list]
      rw [e]; exact g.nd, g.dict, g.keys, g.lo⟩
theorem good_rd (g : Good w F S G) {a : Addr} {xs ys : List (Int × Tok)} {ep ep' : Nat} (h : S.rd = some (a, xs, ep)) : Good w F { S with rd := some (a, ys, ep') } G :=
  ⟨by have e : (canon w F { S with rd := some (a, ys, ep') } G).map (·.1) = (canon w F S G).map (·.1) := by simp [canon, SR.list, h, rdL]
      rw [e]; exact g.nd, g.dict, g.keys, g.lo⟩
theorem updPush (g : Good w F S G) (hr : r ∈ G) {v : Int} {tv : Tok} {ep : Nat} :
    Upd r.l r.lst (listOf ((vals r.sv).toArray.push (.int v tv)) ep) (canon w F S G) (canon w F S (modK G r.key fun x => { x with sv := r.sv ++ [(v, tv)], ep := ep })) := by
  have e : (vals r.sv).toArray.push (.int v tv) = (vals (r.sv ++ [(v, tv)])).toArray := by simp [vals]
  rw [e]
  exact updSv g hr
theorem good_in' (g : Good w F S G) {a : Addr} {o : Obj} (h : ∀ p ∈ canon w F S G, p.1 ≠ a) : Good w ((a, o) :: F) S G := by
  refine ⟨?_, g.dict, g.keys, g.lo⟩
  rw [((canon_cons_perm w F S G (a, o)).map _).nodup_iff, List.map_cons]
  refine List.nodup_cons.mpr ⟨fun hm => ?_, g.nd⟩
  obtain ⟨q, hq, e⟩ := List.mem_map.mp hm
  exact h q hq e
theorem head_ne {a : Addr} {o : Obj} (g : Good w ((a, o) :: F) S G) : ∀ p ∈ canon w F S G, p.1 ≠ a := by
  have := g.nd
  rw [((canon_cons_perm w F S G (a, o)).map _).nodup_iff, List.map_cons] at this
  exact fun p hp e => (List.nodup_cons.mp this).1 (List.mem_map.mpr ⟨p, hp, e⟩)
theorem news_cons {h₀ h : Heap} {L : Addr} {x : Addr × Obj} (N : News h₀ L h (canon w (x :: F) S G)) : News h₀ L h (x :: canon w F S G) := fun p hp => N p ((canon_cons_perm w F S G x).mem_iff.mpr hp)
theorem key_inj (hk : (G.map NR.key).Nodup) {x y : NR} (hx : x ∈ G) (hy : y ∈ G) (e : x.key = y.key) : x = y := by
  induction G with
  | nil => cases hx
  | cons z G ih =>
    rw [List.map_cons, List.nodup_cons] at hk
    rcases List.mem_cons.mp hx with h1 | h1
    · rcases List.mem_cons.mp hy with h2 | h2
      · rw [h1, h2]
      · exact absurd (List.mem_map.mpr ⟨y, h2, by rw [← e, h1]⟩) hk.1
    · rcases List.mem_cons.mp hy with h2 | h2
      · exact absurd (List.mem_map.mpr ⟨x, h1, by rw [e, h2]⟩) hk.1
      · exact ih hk.2 h1 h2
theorem abs_mod (hk : (G.map NR.key).Nodup) (hr : r ∈ G) (f : NR → NR) (φ : Int × Int × List Int → Int × Int × List Int) (h : (f r).abs = φ r.abs) : absG (modK G r.key f) = (absG G).map fun x => if x.1 = r.key then φ x else x := by
  unfold absG modK
  rw [List.map_map, List.map_map]
  refine List.map_congr_left fun x hx => ?_
  show NR.abs (if x.key = r.key then f x else x) = if x.key = r.key then φ x.abs else x.abs
  split
  · rename_i e
    rw [key_inj hk hx hr e]; exact h
  · rfl
end
def bump (A : AG) (k : Int) (n : Int) : AG := A.map fun x => if x.1 = k then (x.1, x.2.1 + n, x.2.2) else x
def pushS (A : AG) (p k : Int) : AG := A.map fun x => if x.1 = p then (x.1, x.2.1, x.2.2 ++ [k]) else x
theorem map2 {m : Str → Option Value} {a b : Str} {va vb : Value} (ha : m a = some va) (hb : m b = some vb) : m = fun y => if y = a then some va else if y = b then some vb else m y := by
  funext y
  by_cases h : y = a
  · subst h; simp [ha]
  · by_cases h' : y = b
    · subst h'; simp [h, hb]
    · simp [h, h']

end
local macro_rules | `(tactic| walk_at $s:str) => `(tactic| k_extra $s)
local macro_rules | `(tactic| k_mem) => `(tactic| first | exact List.Mem.head _ | (refine' List.Mem.tail _ ?_; k_mem) | exact mem_sx | exact mem_dx | exact mem_nx | exact mem_info (by assumption) | exact mem_nd (by assumption) | exact mem_lst (by assumption) | exact mem_rd rfl | exact mem_rd (by assumption) | exact mem_fr (by k_mem) | assumption)
local macro_rules | `(tactic| k_room) => `(tactic| (show _ < 1000; (try simp only [depth_under_make, depth_under_kw, depth_in1, depth_deeper, depth_caller]); (try dsimp only [Around.deeper]); omega))
local macro_rules | `(tactic| k_ne) => `(tactic| first | (refine neN ?_; (try dsimp only); omega) | (refine neN ?_; (try dsimp only); first | exact ne_all (by assumption) (by k_mem) (by omega) | exact ne_all' (by assumption) (by k_mem) (by omega)))
local macro_rules | `(tactic| k_all) => `(tactic| first | exact List.forall_mem_nil _ | exact all_ne (by assumption) (by omega) | (refine' List.forall_mem_cons.mpr ⟨?a, ?b⟩; (case a => k_ne); (case b => k_all)))
local macro_rules | `(tactic| k_upd) => `(tactic| first | exact updNp (by assumption) (by assumption) | exact updPush (by assumption) (by assumption) | exact updSv (by assumption) (by assumption) | exact updDict (by assumption) | exact updRd (by assumption) (by assumption) | (refine' Upd.head ?a; (case a => k_all)) | (refine' Upd.tail ?a ?b; (case a => k_ne); (case b => k_upd)))
local macro_rules | `(tactic| k_updF) => `(tactic| first | exact updOn (by assumption) | (refine' UpdF.head ?a; (case a => k_all)) | (refine' UpdF.tail ?a ?b; (case a => k_ne); (case b => k_updF)))
local macro_rules | `(tactic| walk_at "call builtin:len") => `(tactic| (k_here; (with_reducible show wpAny _ _ (call (Value.builtin "len") [Value.ref _]) _ _ _); k_dflt (first
  | (refine' kun_lenT ?k1 ?k2 ?k3 ?_; (case k1 => exact News.isTup (items := (vals _).toArray) (by k_asm) (by k_mem)); (case k2 => exact vals_size _); (case k3 => omega); k_whole)
  | (refine' kun_lenL ?k1 ?k2 ?k3 ?_; (case k1 => exact News.isList (items := (vals _).toArray) (by k_asm) (by k_mem)); (case k2 => exact vals_size _); (case k3 => omega); k_whole))))
local macro_rules | `(tactic| walk_at "getMethod ref") => `(tactic| (k_here; (with_reducible show wpAny _ _ (getMethod (Value.ref _) (Str.ofString "get") _) _ _ _); k_dflt (refine kdg_method (knd := PySem.intKind _ _) (by k_asm) (by k_mem) (Good.dict (by k_asm)) ?_)))
local macro_rules | `(tactic| walk_at "call builtin:dict.get") => `(tactic| (k_here; k_dflt (first
  | refine kdg_get1 (knd := PySem.intKind _ _) (by k_asm) (by k_mem) (Good.dict (by k_asm)) (Good.lo (by k_asm)) (intKind_is _ _ _ _) (some _) (by k_asm) ?_
  | refine kdg_get1 (knd := PySem.intKind _ _) (by k_asm) (by k_mem) (Good.dict (by k_asm)) (Good.lo (by k_asm)) (intKind_is _ _ _ _) none (by k_asm) ?_); dsimp only [Option.getD]))
local macro_rules | `(tactic| walk_at "subscriptTail Name Name ref int") => `(tactic| (k_here; (with_reducible show wpAny _ _ (subscriptTail _ _ (Value.ref _) (Value.int _ _)) _ _ _); k_dflt (refine' kda_item (knd := PySem.intKind _ _) ?k1 ?k2 ?k3 (intKind_is _ _ _ _) ?k4 ?_; (case k1 => k_asm); (case k2 => k_mem); (case k3 => exact Good.dict (by k_asm)); (case k4 => assumption); k_whole)))
theorem reset20gni : True := by
  k_with_none
  w_top off
  try (walk1; fail)
  exact True.intro
section
theorem kvs_fit {G : List NR} (h : G.length ≤ 1000) : (kvsOf G).length ≤ sizeLine := by
  rw [sizeLine_eq]; unfold kvsOf; rw [List.length_map]; omega
local macro_rules | `(tactic| walk_at "setItem ref int") => `(tactic| (k_here; k_dflt (refine' kda_set (knd := PySem.intKind _ _) ?F ?N ?U ?d (intKind_is _ _ _ _) ?z ?_; (case F => k_asm); (case N => k_asm); (case U => k_updF); (case d => exact Good.dict (by k_asm)); (case z => exact kvs_fit (by assumption))); intro h' o' F' N' hd'; (try dsimp only at N'); (try k_sweep)))
section
variable {w : World} {A₀ : Around} {base h₀ : Heap} {env : Env} {outer : List Env} {gs : Option (List Code)} {d u : Nat} {L : Addr} {m mg mb : Str → Option Value} {p : Program} {loose : List Str} {mean : ExcName → Option Value} {s : Shared} {R : Result → Shared → Prop} {F : List (Addr × Obj)} {S : SR} {G : List NR}

theorem gni_new (B : Below A₀ base outer h₀) (F₀ : Fr h₀ L s.heap m) (X₀ : (Mine.hd.heap_39 w.params).In h₀) (N : News h₀ L s.heap (canon w F S G)) (T : Top p loose mean mg mb h₀) (hf : env.frame = some L) (hke : env.scope.kind = .function) (hroom : d < 800)
    (g : Good w F S G) {k : Int} {tk : Tok} (hv : valueAt (kvsOf G) k = none) (hsz : G.length ≤ 1000)
    (h : ∀ h' tk' nt ep (a dd l : Nat) on', Fr h₀ L h' m → News h₀ L h' ((l, listOf #[] ep) :: (a, infoO dd l k tk 0 nt) :: (dd, dictOf [] 0) :: canon w F { S with on := on' } G) → (∀ p ∈ canon w F S G, p.1 < dd) → dd < a → a < l → on'.IsDictOf (PySem.intKind PR w) (stored (kvsOf G) k (.ref a)) → R (.ok (.ret (.ref a))) { s with heap := h', toks := tk' }) :
    codeAny (model PR w) (AA d env outer gs u) (.call (.ref 94) ⟨[.ref S.sx, .int k tk], []⟩) R s := by
  refine' code_def B F₀ X₀ N T rfl hf hke ?k6 ?k7 ?k8 ?k9 ?kB ?_ ?c2 ?c3 ?c4 ?c5
  case k6 => k_is
  case k7 => k_is
  case k8 => k_room
  case k9 => exact BindsTo.of_eq rfl
  case c5 => decide
  case kB => exact locs rfl
  case c2 => exact rfl
  case c3 => exact rfl
  case c4 => exact rfl
  intro g' L' h' FG' F' N' B' X' T'; (try dsimp only); k_fold
  clear F₀ N
  w_strict k_steps
  exact h _ _ _ _ _ _ _ _ (by assumption) (by assumption) (by assumption) (by assumption) (by omega) (by assumption)

theorem gni_old (B : Below A₀ base outer h₀) (F₀ : Fr h₀ L s.heap m) (X₀ : (Mine.hd.heap_39 w.params).In h₀) (N : News h₀ L s.heap (canon w F S G)) (T : Top p loose mean mg mb h₀) (hf : env.frame = some L) (hke : env.scope.kind = .function) (hroom : d < 800)
    (g : Good w F S G) {k : Int} {tk : Tok} {a : Addr} (hv : valueAt (kvsOf G) k = some (.ref a))
    (h : ∀ h' tk', Fr h₀ L h' m → News h₀ L h' (canon w F S G) → R (.ok (.ret (.ref a))) { s with heap := h', toks := tk' }) :
    codeAny (model PR w) (AA d env outer gs u) (.call (.ref 94) ⟨[.ref S.sx, .int k tk], []⟩) R s := by
  refine' code_def B F₀ X₀ N T rfl hf hke ?k6 ?k7 ?k8 ?k9 ?kB ?_ ?c2 ?c3 ?c4 ?c5
  case k6 => k_is
  case k7 => k_is
  case k8 => k_room
  case k9 => exact BindsTo.of_eq rfl
  case c5 => decide
  case kB => exact locs rfl
  case c2 => exact rfl
  case c3 => exact rfl
  case c4 => exact rfl
  intro g' L' h' FG' F' N' B' X' T'; (try dsimp only); k_fold
  clear F₀ N
  w_strict k_steps
  exact h _ _ (by assumption) (by assumption)
end

def ensure (A : AG) (k : Int) : AG := if k ∈ A.map (·.1) then A else A ++ [(k, 0, [])]
theorem keys_abs (G : List NR) : (absG G).map (·.1) = G.map NR.key := by simp [absG, NR.abs]
theorem canon_snoc_perm (w : World) (F : List (Addr × Obj)) (S : SR) (G : List NR) (r : NR) : (canon w F S (G ++ [r])).Perm (r.list ++ canon w F S G) := by
  unfold canon
  rw [List.flatMap_append, List.flatMap_singleton]
  refine List.Perm.trans (List.Perm.append_left _ (List.Perm.append_right _ List.perm_append_comm)) ?_
  have e1 : SR.list w S ++ (r.list ++ G.flatMap NR.list ++ F) = (SR.list w S ++ r.list) ++ (G.flatMap NR.list ++ F) := by simp
  have e2 : r.list ++ (SR.list w S ++ (G.flatMap NR.list ++ F)) = (r.list ++ SR.list w S) ++ (G.flatMap NR.list ++ F) := by simp
  rw [e1, e2]
  exact List.Perm.append_right _ List.perm_append_comm
theorem good_snoc {w : World} {F : List (Addr × Obj)} {S : SR} {G : List NR} (g : Good w F S G) {r : NR} {on' : Obj} (hd : on'.IsDictOf (PySem.intKind PR w) (stored (kvsOf G) r.key (.ref r.a)))
    (hk : r.key ∉ G.map NR.key) (h1 : ∀ p ∈ canon w F S G, p.1 < r.d) (h2 : r.d < r.a) (h3 : r.a < r.l) : Good w F { S with on := on' } (G ++ [r]) := by
  refine ⟨?_, ?_, ?_, g.lo⟩
  · rw [((canon_snoc_perm w F { S with on := on' } G r).map _).nodup_iff]
    have e : (canon w F { S with on := on' } G).map (·.1) = (canon w F S G).map (·.1) := by simp [canon, SR.list]
    rw [List.map_append, e]
    have hl : ∀ b ∈ (canon w F S G).map (·.1), b < r.d := fun b hb => by
      obtain ⟨q, hq, rfl⟩ := List.mem_map.mp hb
      exact h1 q hq
    have nd := g.nd
    generalize (canon w F S G).map (·.1) = cs at hl nd
    show (r.a :: r.d :: r.l :: cs).Nodup
    have q2 : ∀ b ∈ cs, b ≠ r.d := fun b hb => Nat.ne_of_lt (hl b hb)
    have q1 : ∀ b ∈ cs, b ≠ r.a := fun b hb => Nat.ne_of_lt (Nat.lt_trans (hl b hb) h2)
    have q3 : ∀ b ∈ cs, b ≠ r.l := fun b hb => Nat.ne_of_lt (Nat.lt_trans (Nat.lt_trans (hl b hb) h2) h3)
    refine List.nodup_cons.mpr ⟨?_, List.nodup_cons.mpr ⟨?_, List.nodup_cons.mpr ⟨?_, nd⟩⟩⟩
    · intro hm
      rcases List.mem_cons.mp hm with e | hm
      · exact absurd h2 (e ▸ Nat.lt_irrefl _)
      · rcases List.mem_cons.mp hm with e | hm
        · exact absurd h3 (e ▸ Nat.lt_irrefl _)
        · exact q1 _ hm rfl
    · intro hm
      rcases List.mem_cons.mp hm with e | hm
      · exact absurd (Nat.lt_trans h2 h3) (e ▸ Nat.lt_irrefl _)
      · exact q2 _ hm rfl
    · exact fun hm => q3 _ hm rfl
  · rw [stored_absent (valueAt_out hk)] at hd
    simpa [kvsOf] using hd
  · rw [List.map_append, List.map_singleton, List.nodup_append]
    refine ⟨g.keys, by simp, fun a ha b hb e => ?_⟩
    rw [List.mem_singleton.mp hb] at e
    exact hk (e ▸ ha)
section
variable {w : World} {A₀ : Around} {base h₀ : Heap} {env : Env} {outer : List Env} {gs : Option (List Code)} {d u : Nat} {L : Addr} {m mg mb : Str → Option Value} {p : Program} {loose : List Str} {mean : ExcName → Option Value} {s : Shared} {R : Result → Shared → Prop} {F : List (Addr × Obj)} {S : SR} {G : List NR}
/-- THE CONTRACT of _get_nodeinfo -/
theorem gni {A : Around} (B : Below A₀ base outer h₀) (F₀ : Fr h₀ L s.heap m) (X₀ : (Mine.hd.heap_39 w.params).In h₀) (N : News h₀ L s.heap (canon w F S G)) (T : Top p loose mean mg mb h₀) (hA : A.frames = some (env :: outer)) (hh : A.handled = none) (hf : env.frame = some L) (hke : env.scope.kind = .function) (hroom : A.depth < 800)
    (g : Good w F S G) {k : Int} {tk : Tok} (hsz : G.length ≤ 1000)
    (h : ∀ h' tk' G' on' r, Fr h₀ L h' m → News h₀ L h' (canon w F { S with on := on' } G') → Good w F { S with on := on' } G' → r ∈ G' → r.key = k → absG G' = ensure (absG G) k → R (.ok (.ret (.ref r.a))) { s with heap := h', toks := tk' }) :
    codeAny (model PR w) A (.call (.ref 94) ⟨[.ref S.sx, .int k tk], []⟩) R s := by
  obtain ⟨hd, dp, fr, gs, u⟩ := A
  dsimp only at hA hh hroom
  subst hA hh
  rcases mem_or (G := G) k with ⟨r, hr, rfl⟩ | hk
  · refine gni_old B F₀ X₀ N T hf hke hroom g (valueAt_in g.keys hr) fun h' tk' F' N' => ?_
    refine h h' tk' G S.on r F' N' g hr rfl ?_
    unfold ensure
    rw [keys_abs, if_pos (List.mem_map_of_mem hr)]
  · refine gni_new B F₀ X₀ N T hf hke hroom g (valueAt_out hk) hsz fun h' tk' nt ep a dd l on' F' N' h1 h2 h3 hd => ?_
    refine h h' tk' (G ++ [⟨k, a, dd, l, tk, 0, nt, [], ep⟩]) on' ⟨k, a, dd, l, tk, 0, nt, [], ep⟩ F' (fun q hq => N' q ?_) (good_snoc g hd hk h1 h2 h3) (by simp) rfl ?_
    · have := (canon_snoc_perm w F { S with on := on' } G ⟨k, a, dd, l, tk, 0, nt, [], ep⟩).mem_iff.mp hq
      rcases List.mem_append.mp this with h | h
      · simp only [NR.list, List.mem_cons, List.not_mem_nil, or_false] at h
        rcases h with rfl | rfl | rfl
        · exact .tail _ (.head _)
        · exact .tail _ (.tail _ (.head _))
        · exact .head _
      · exact .tail _ (.tail _ (.tail _ h))
    · unfold ensure
      rw [keys_abs, if_neg hk]
      simp [absG, NR.abs]
end

end
theorem reset25iter : True := by
  k_with_none
  w_top off
  try (walk1; fail)
  exact True.intro
section
/-- a turn's end: the iterator stands as it stood, the rest of the ledger fits J -/
def TurnEnd (h₀ : Heap) (L I : Addr) (oI : Obj) (J : (Str → Option Value) → List (Addr × Obj) → Prop) (s₁ : Shared) (Q : Flow → Shared → Prop) (f : Flow) (s₂ : Shared) : Prop :=
  match f with
  | .ret v => Q (.ret v) s₂
  | .brk => Q .next s₂
  | _ => ∃ h' tk m' news', s₂ = { s₁ with heap := h', toks := tk } ∧ Fr h₀ L h' m' ∧ News h₀ L h' ((I, oI) :: news') ∧ (∀ p ∈ news', p.1 ≠ I) ∧ J m' news'
theorem TurnEnd.next {h₀ : Heap} {L I : Addr} {oI : Obj} {J : (Str → Option Value) → List (Addr × Obj) → Prop} {s₁ : Shared} {Q : Flow → Shared → Prop} {h' : Heap} {tk : Nat} {m' : Str → Option Value} {news' : List (Addr × Obj)}
    (F : Fr h₀ L h' m') (N : News h₀ L h' ((I, oI) :: news')) (hi : ∀ p ∈ news', p.1 ≠ I) (hj : J m' news') : TurnEnd h₀ L I oI J s₁ Q .next { s₁ with heap := h', toks := tk } := ⟨h', tk, m', news', rfl, F, N, hi, hj⟩
theorem TurnEnd.cont {h₀ : Heap} {L I : Addr} {oI : Obj} {J : (Str → Option Value) → List (Addr × Obj) → Prop} {s₁ : Shared} {Q : Flow → Shared → Prop} {h' : Heap} {tk : Nat} {m' : Str → Option Value} {news' : List (Addr × Obj)}
    (F : Fr h₀ L h' m') (N : News h₀ L h' ((I, oI) :: news')) (hi : ∀ p ∈ news', p.1 ≠ I) (hj : J m' news') : TurnEnd h₀ L I oI J s₁ Q .cont { s₁ with heap := h', toks := tk } := ⟨h', tk, m', news', rfl, F, N, hi, hj⟩
section
variable {prog : Program} {w : World} {A : Around} {E : Value → Shared → Prop} {env : Env} {h₀ : Heap} {x : Str} {body : List Stmt} {Q : Flow → Shared → Prop}
/-- a loop over what an iterator I walks, the source t in the ledger -/
theorem loop_gen {s₂ : Shared} {I t : Addr} {ot : Obj} {n : Nat} {P : Nat → Value → Prop} {St : Nat → Heap → Prop} {m₀ : Str → Option Value} {news₀ : List (Addr × Obj)} (J : Nat → (Str → Option Value) → List (Addr × Obj) → Prop)
    (W : Walks prog w A I [I, t] [I] n P St) (hI : ∀ i h, St i h → ∃ o, h.get? I = some o) (st : St 0 s₂.heap) (F : Fr h₀ env.locals s₂.heap m₀) (N : News h₀ env.locals s₂.heap news₀) (hIn : h₀.get? I = none) (hIL : env.locals ≠ I) (hn : ∀ p ∈ news₀, p.1 ≠ I)
    (hj : J 0 m₀ news₀) (hkeep : ∀ i m news, J i m news → (t, ot) ∈ news)
    (turn : ∀ i v m₁ news₁ h tk oI, i < n → P i v → J i m₁ news₁ → (∀ p ∈ news₁, p.1 ≠ I) → Fr h₀ env.locals h (fun y => if y = x then some v else m₁ y) → News h₀ env.locals h ((I, oI) :: news₁) →
      wpAny (model prog w) A (execs body env) (TurnEnd h₀ env.locals I oI (J (i + 1)) { s₂ with heap := h, toks := tk } Q) E { s₂ with heap := h, toks := tk })
    (done : ∀ m₁ news₁ h tk, J n m₁ news₁ → Fr h₀ env.locals h m₁ → News h₀ env.locals h news₁ → Q .next { s₂ with heap := h, toks := tk }) :
    LoopAtV prog w A h₀ env x body Q E (.ref I) s₂ := by
  have ht := (N _ (hkeep 0 m₀ news₀ hj))
  refine ⟨I, [I, t], [I], n, P, St, m₀, news₀, J, rfl, W, ?_, ?_, ?_, st, F, N, hj, ?_, ?_⟩
  · intro hm
    rcases List.mem_cons.mp hm with e | hm
    · exact hIL e
    · exact ht.2.1 (List.mem_singleton.mp hm).symm
  · intro b hb; rw [List.mem_singleton.mp hb]; exact hIn
  · intro p hp hI; exact hn p hp (List.mem_singleton.mp hI)
  · rintro i v m₁ news₁ s₁ own ⟨h, tk, rfl⟩ hin hP hJ hoff hown hget hall st₁ F₁ N₁
    obtain ⟨oI, hoI⟩ := hI _ _ st₁
    have hmI : (I, oI) ∈ own := hall I (.head _) hIn oI hoI
    have N₂ : News h₀ env.locals h ((I, oI) :: news₁) := fun p hp => by
      rcases List.mem_cons.mp hp with rfl | hp
      · exact N₁ _ (List.mem_append_left _ hmI)
      · exact N₁ p (List.mem_append_right _ hp)
    refine wpAny_mono (turn i v m₁ news₁ h tk oI hin hP hJ (fun p hp e => hoff p hp (e ▸ .head _)) F₁ N₂) (fun f s₃ q => ?_) fun _ _ e => e
    have fin : (∃ h' tk' m' news', s₃ = { s₂ with heap := h', toks := tk' } ∧ Fr h₀ env.locals h' m' ∧ News h₀ env.locals h' ((I, oI) :: news') ∧ (∀ p ∈ news', p.1 ≠ I) ∧ J (i + 1) m' news') →
        LoopStepU h₀ env.locals [I] own (J (i + 1)) { s₂ with heap := h, toks := tk } .next s₃ := by
      rintro ⟨h', tk', m', news', rfl, F', N', hi', hJ'⟩
      refine ⟨rfl, h', tk', m', news', rfl, F', fun p hp => ?_, fun p hp hb => hi' p hp (List.mem_singleton.mp hb), hJ'⟩
      rcases List.mem_append.mp hp with hp | hp
      · have hg := hget p hp
        rcases List.mem_cons.mp (hown p hp) with e | e
        · have : p = (I, oI) := by
            obtain ⟨a, o⟩ := p
            dsimp only at e hg
            subst e
            rw [hoI] at hg
            rw [Option.some.inj hg]
          rw [this]; exact N' _ (.head _)
        · have e := List.mem_singleton.mp e
          have : p = (t, ot) := by
            obtain ⟨a, o⟩ := p
            dsimp only at e hg
            subst e
            have h1 := (N₂ _ (.tail _ (hkeep i m₁ news₁ hJ))).1
            dsimp only at h1
            rw [h1] at hg
            rw [Option.some.inj hg]
          rw [this]; exact N' _ (.tail _ (hkeep (i + 1) m' news' hJ'))
      · exact N' p (.tail _ hp)
    cases f with
    | ret v => exact .ret q
    | brk => exact .brk q
    | next => exact .next (fin q)
    | cont => exact .cont (fin q)
  · rintro h' tk m' news' F' N' _ hJ
    exact done m' news' h' tk hJ F' N'
/-- over a tuple of the ledger -/
theorem iter_tup {s : Shared} {t : Addr} {items : Array Value} {n : Nat} {dd : Option Addr} {sl : Array (Option Value)} {m₀ : Str → Option Value} {news₀ : List (Addr × Obj)} (J : Nat → (Str → Option Value) → List (Addr × Obj) → Prop)
    (hh : A.handled = none) (F : Fr h₀ env.locals s.heap m₀) (N : News h₀ env.locals s.heap news₀) (hj : J 0 m₀ news₀)
    (hkeep : ∀ i m news, J i m news → (t, (⟨.type "tuple", dd, .seq items n, sl⟩ : Obj)) ∈ news)
    (turn : ∀ i v m₁ news₁ I oI h tk, items[i]? = some v → J i m₁ news₁ → (∀ p ∈ news₁, p.1 ≠ I) → Fr h₀ env.locals h (fun y => if y = x then some v else m₁ y) → News h₀ env.locals h ((I, oI) :: news₁) →
      wpAny (model prog w) A (execs body env) (TurnEnd h₀ env.locals I oI (J (i + 1)) { s with heap := h, toks := tk } Q) E { s with heap := h, toks := tk })
    (done : ∀ m₁ news₁ h tk, J items.size m₁ news₁ → Fr h₀ env.locals h m₁ → News h₀ env.locals h news₁ → Q .next { s with heap := h, toks := tk }) :
    wpAny (model prog w) A (pyIter (.ref t)) (fun it s₂ => LoopAtV prog w A h₀ env x body Q E it s₂) E s := by
  have hm := N _ (hkeep 0 m₀ news₀ hj)
  have hT : s.heap.IsTuple t items := ⟨_, hm.1, rfl, n, rfl⟩
  refine wpAny_pyIter_tuple hT ?_
  have hlt := Heap.lt_size hm.1
  refine loop_gen (s₂ := { s with heap := s.heap.push _ }) J (Walks.tuple hh s.heap.objs.size t (Nat.ne_of_lt hlt) items) (fun i h st => let ⟨o, ho, _⟩ := st.1; ⟨o, ho⟩) ⟨⟨_, Heap.get?_push_size _ rfl, rfl, rfl⟩, ⟨_, Heap.get?_push_of_some _ hm.1, rfl, n, rfl⟩⟩
    (F.push _) (fun p hp => ⟨Heap.get?_push_of_some _ (N p hp).1, (N p hp).2⟩) (next_is_new F) (Nat.ne_of_lt F.ns.lt) (fun p hp => Nat.ne_of_lt (Heap.lt_size (N p hp).1)) hj hkeep
    (fun i v m₁ news₁ h tk oI _ hP hJ hi F' N' => turn i v m₁ news₁ _ oI h tk hP hJ hi F' N') done
/-- over a list of the ledger (it stands as it stood) -/
theorem iter_lst {s : Shared} {t : Addr} {items : Array Value} {n : Nat} {m₀ : Str → Option Value} {news₀ : List (Addr × Obj)} (J : Nat → (Str → Option Value) → List (Addr × Obj) → Prop)
    (hh : A.handled = none) (F : Fr h₀ env.locals s.heap m₀) (N : News h₀ env.locals s.heap news₀) (hj : J 0 m₀ news₀)
    (hkeep : ∀ i m news, J i m news → (t, listOf items n) ∈ news)
    (turn : ∀ i v m₁ news₁ I oI h tk, items[i]? = some v → J i m₁ news₁ → (∀ p ∈ news₁, p.1 ≠ I) → Fr h₀ env.locals h (fun y => if y = x then some v else m₁ y) → News h₀ env.locals h ((I, oI) :: news₁) →
      wpAny (model prog w) A (execs body env) (TurnEnd h₀ env.locals I oI (J (i + 1)) { s with heap := h, toks := tk } Q) E { s with heap := h, toks := tk })
    (done : ∀ m₁ news₁ h tk, J items.size m₁ news₁ → Fr h₀ env.locals h m₁ → News h₀ env.locals h news₁ → Q .next { s with heap := h, toks := tk }) :
    wpAny (model prog w) A (pyIter (.ref t)) (fun it s₂ => LoopAtV prog w A h₀ env x body Q E it s₂) E s := by
  have hm := N _ (hkeep 0 m₀ news₀ hj)
  have hT : s.heap.IsList t items := ⟨_, hm.1, rfl, n, rfl⟩
  refine wpAny_pyIter_list hT ?_
  have hlt := Heap.lt_size hm.1
  refine loop_gen (s₂ := { s with heap := s.heap.push _ }) J (Walks.list hh s.heap.objs.size t (Nat.ne_of_lt hlt) items) (fun i h st => let ⟨o, ho, _⟩ := st.1; ⟨o, ho⟩) ⟨⟨_, Heap.get?_push_size _ rfl, rfl, rfl⟩, ⟨_, Heap.get?_push_of_some _ hm.1, rfl, n, rfl⟩⟩
    (F.push _) (fun p hp => ⟨Heap.get?_push_of_some _ (N p hp).1, (N p hp).2⟩) (next_is_new F) (Nat.ne_of_lt F.ns.lt) (fun p hp => Nat.ne_of_lt (Heap.lt_size (N p hp).1)) hj hkeep
    (fun i v m₁ news₁ h tk oI _ hP hJ hi F' N' => turn i v m₁ news₁ _ oI h tk hP hJ hi F' N') done
end

end
theorem reset30add : True := by
  k_with_none
  w_top off
  try (walk1; fail)
  exact True.intro
section
def addPs (A : AG) (k : Int) (ps : List Int) : AG := ps.foldl (fun A p => pushS (ensure A p) p k) A
def addA (A : AG) (k : Int) (ps : List Int) : AG := addPs (bump (ensure A k) k ps.length) k ps
theorem ensure_len (A : AG) (k : Int) : (ensure A k).length ≤ A.length + 1 := by
  unfold ensure; split <;> simp
theorem addPs_len (k : Int) (ps : List Int) : ∀ A : AG, (addPs A k ps).length ≤ A.length + ps.length := by
  induction ps with
  | nil => intro A; exact Nat.le_refl _
  | cons p ps ih =>
    intro A
    have h1 := ih (pushS (ensure A p) p k)
    have h2 : (pushS (ensure A p) p k).length = (ensure A p).length := by unfold pushS; simp
    have h3 := ensure_len A p
    show (addPs (pushS (ensure A p) p k) k ps).length ≤ _
    rw [List.length_cons]; omega
theorem addPs_snoc (A : AG) (k p : Int) (ps : List Int) : addPs A k (ps ++ [p]) = pushS (ensure (addPs A k ps) p) p k := by unfold addPs; rw [List.foldl_append]; rfl
theorem ensure_sv {A : AG} {k : Int} {b : Nat} (h : ∀ x ∈ A, x.2.2.length ≤ b) : ∀ x ∈ ensure A k, x.2.2.length ≤ b := by
  unfold ensure
  split
  · exact h
  · intro x hx
    rcases List.mem_append.mp hx with hx | hx
    · exact h x hx
    · rw [List.mem_singleton.mp hx]; exact Nat.zero_le _
theorem pushS_sv {A : AG} {p k : Int} {b : Nat} (h : ∀ x ∈ A, x.2.2.length ≤ b) : ∀ x ∈ pushS A p k, x.2.2.length ≤ b + 1 := by
  intro x hx
  unfold pushS at hx
  obtain ⟨y, hy, rfl⟩ := List.mem_map.mp hx
  have := h y hy
  split
  · dsimp only; rw [List.length_append]; simp only [List.length_cons, List.length_nil]; omega
  · omega
theorem bump_sv {A : AG} {k n : Int} {b : Nat} (h : ∀ x ∈ A, x.2.2.length ≤ b) : ∀ x ∈ bump A k n, x.2.2.length ≤ b := by
  intro x hx
  unfold bump at hx
  obtain ⟨y, hy, rfl⟩ := List.mem_map.mp hx
  have := h y hy
  split
  · exact this
  · exact this
theorem addPs_sv {k : Int} (ps : List Int) : ∀ {A : AG} {b : Nat}, (∀ x ∈ A, x.2.2.length ≤ b) → ∀ x ∈ addPs A k ps, x.2.2.length ≤ b + ps.length := by
  induction ps with
  | nil => intro A b h; exact h
  | cons p ps ih =>
    intro A b h x hx
    have := ih (pushS_sv (ensure_sv h)) x hx
    rw [List.length_cons]; omega
theorem sv_fit {G G' : List NR} {r : NR} {k : Int} (ha : absG G' = ensure (absG G) k) (hb : ∀ x ∈ absG G, x.2.2.length ≤ 1000) (hr : r ∈ G') : (vals r.sv).toArray.size ≤ sizeLine := by
  have h := ensure_sv (k := k) hb r.abs (by rw [← ha]; unfold absG; exact List.mem_map_of_mem hr)
  rw [sizeLine_eq]
  simp only [NR.abs, List.length_map] at h
  simp only [vals, List.size_toArray, List.length_map]
  omega
theorem fr2 {h₀ h : Heap} {L : Addr} {m : Str → Option Value} {x a b : Str} {v va vb : Value} (F : Fr h₀ L h (fun y => if y = x then some v else m y)) (ha : m a = some va) (hb : m b = some vb) :
    Fr h₀ L h (fun y => if y = x then some v else if y = a then some va else if y = b then some vb else m y) := by
  have e : (fun y => if y = x then some v else m y) = (fun y => if y = x then some v else if y = a then some va else if y = b then some vb else m y) := by
    funext y
    exact congrArg (fun z => if y = x then some v else z) (congrFun (map2 ha hb) y)
  exact e ▸ F
theorem vals_get {ps : List (Int × Tok)} {i : Nat} {v : Value} (h : (vals ps).toArray[i]? = some v) : ∃ q, ps[i]? = some q ∧ v = .int q.1 q.2 := by
  simp only [vals, List.getElem?_toArray, List.getElem?_map, Option.map_eq_some_iff] at h
  obtain ⟨q, h1, h2⟩ := h
  exact ⟨q, h1, h2.symm⟩
theorem bump_len (A : AG) (k n : Int) : (bump A k n).length = A.length := by unfold bump; simp
theorem abs_len (G : List NR) : (absG G).length = G.length := by unfold absG; simp
section
variable {w : World} {A₀ : Around} {base h₀ : Heap} {env : Env} {outer : List Env} {L : Addr} {m mg mb : Str → Option Value} {p : Program} {loose : List Str} {mean : ExcName → Option Value} {s : Shared} {R : Result → Shared → Prop} {F : List (Addr × Obj)} {S : SR} {G : List NR}
local macro_rules | `(tactic| walk_at "call builtin:list.append") => `(tactic| (k_here; (with_reducible show wpAny _ _ (call (Value.builtin _) [Value.ref _, _]) _ _ _); k_dflt (refine' append_K ?k1 ?k2 ?k3 ?_ ?z; (case k1 => k_asm); (case k2 => k_asm); (case k3 => k_upd); (case z => exact sv_fit (by assumption) (by assumption) (by assumption)); k_whole); intro h' F' N'; (try k_sweep)))
local macro_rules | `(tactic| walk_at "call ref") => `(tactic| (k_here; (with_reducible show wpAny _ _ (call (Value.ref 94) _ _) _ _ _); refine wpAny_call ?_; k_dflt ((with_reducible rename News _ _ _ (canon _ _ _ _) => kN); (with_reducible rename Fr _ _ _ _ => kF); (with_reducible rename Good _ _ _ _ => kG); (refine' gni ?k1 kF ?k2 kN ?k3 ?k4 ?k5 ?k6 ?k7 ?k8 kG ?k9 ?_); (case k4 => exact rfl); (case k5 => exact rfl); (case k6 => exact rfl); (case k7 => exact rfl); (case k1 => k_asm); (case k2 => k_asm); (case k3 => k_asm); (case k8 => dsimp only [Around.deeper]; omega); (case k9 => omega); intro h' tk' G' on' r' F' N' g1' hr' hk' ha'; (try dsimp only); (try k_sweep))))
/-- THE CONTRACT of add -/
theorem add_ok {A : Around} (B : Below A₀ base outer h₀) (F₀ : Fr h₀ L s.heap m) (X₀ : (Mine.hd.heap_39 w.params).In h₀) (N : News h₀ L s.heap (canon w F S G)) (T : Top p loose mean mg mb h₀) (hA : A.frames = some (env :: outer)) (hh : A.handled = none) (hf : env.frame = some L) (hke : env.scope.kind = .function) (hroom : A.depth < 700)
    (g : Good w F S G) (hrd : S.rd = none) {k : Int} {kt : Tok} {ps : List (Int × Tok)} (hsz : G.length ≤ 900) (hps : ps.length ≤ 9) (hsv : ∀ x ∈ absG G, x.2.2.length ≤ 900)
    (hR : ∀ h' tk' G' on', Fr h₀ L h' m → News h₀ L h' (canon w F { S with on := on' } G') → Good w F { S with on := on' } G' → absG G' = addA (absG G) k (ps.map (·.1)) → R (.ok (.ret .none)) { s with heap := h', toks := tk' }) :
    codeAny (model PR w) A (.call (.ref 101) ⟨.ref S.sx :: .int k kt :: vals ps, []⟩) R s := by
  obtain ⟨hd, d, fr, gs, u⟩ := A
  dsimp only at hA hh hroom
  subst hA hh
  obtain ⟨sx, dx, nx, on, t1, t2, t3, t4, rd, po, tp, fi, tf⟩ := S
  try dsimp only at hrd
  subst hrd
  refine' kp_rest (vs := vals ps) (g₁ := fun D => some [(Str.ofString "self", .ref sx), (Str.ofString "node", .int k kt), (Str.ofString "predecessors", .ref D)]) (binds := fun D => [(Str.ofString "self", .ref sx), (Str.ofString "node", .int k kt), (Str.ofString "predecessors", .ref D)]) B F₀ X₀ N T rfl hf hke ?k6 ?k7 ?k8 ?kV ?kP ?kG ?kB ?_ ?c2 ?c3 ?c4 ?c5
  case k6 => k_is
  case k7 => k_is
  case k8 => k_room
  case kV => rfl
  case kP =>
    rcases ps with _ | ⟨a1, _ | ⟨a2, _ | ⟨a3, _ | ⟨a4, _ | ⟨a5, _ | ⟨a6, _ | ⟨a7, _ | ⟨a8, _ | ⟨a9, _ | ⟨a10, r⟩⟩⟩⟩⟩⟩⟩⟩⟩⟩
    all_goals first | (exfalso; simp only [List.length_cons] at hps; omega) | exact rfl
  case kG => exact fun _ => rfl
  case kB => exact fun _ => locs rfl
  case c5 => decide
  case c2 => exact rfl
  case c3 => exact rfl
  case c4 => exact rfl
  intro D' g' L' h' l1 FG' F' N' B' X' T'; (try dsimp only); (try k_fold)
  clear F₀ N
  replace N' := news_in N'
  have g0 := good_in (o := { cls := .type "tuple", data := .seq (vals ps).toArray }) g l1
  clear g
  k_with_none
  k_with "pyIter ref" => refine halt ?_
  w_strict k_steps
  rename News _ _ _ _ => N2
  rename Fr g' L' _ _ => F2
  rename absG _ = ensure _ _ => ha
  rename Good _ _ _ _ => g2
  rename (_ : NR) ∈ _ => hr
  rename NR.key _ = k => hk
  rename NR => r
  refine unhalt ?_
  dsimp only at N2 g2
  generalize hG2 : modK _ _ _ = G2 at N2
  have g3 := hG2 ▸ good_np g2 r.key
  have a3 : absG G2 = bump (ensure (absG G) k) k ps.length := by
    rw [← hG2, abs_mod g2.keys hr _ (fun x => (x.1, x.2.1 + (ps.length : Int), x.2.2)) rfl, ha, hk]; rfl
  clear g2 hG2 hr ha
  refine iter_tup (dd := none) (sl := #[]) (n := 0) (items := (vals ps).toArray) (fun i m₁ news₁ => ∃ G₁ on₁, news₁ = canon w ((D', { cls := .type "tuple", data := .seq (vals ps).toArray }) :: F) ⟨sx, dx, nx, on₁, t1, t2, t3, t4, none, po, tp, fi, tf⟩ G₁ ∧
    Good w ((D', { cls := .type "tuple", data := .seq (vals ps).toArray }) :: F) ⟨sx, dx, nx, on₁, t1, t2, t3, t4, none, po, tp, fi, tf⟩ G₁ ∧ absG G₁ = addPs (bump (ensure (absG G) k) k ps.length) k ((ps.take i).map (·.1)) ∧
    m₁ (Str.ofString "self") = some (.ref sx) ∧ m₁ (Str.ofString "node") = some (.int k kt)) rfl F2 N2 ⟨G2, _, rfl, g3, a3, rfl, rfl⟩ ?keep ?turn ?done
  case keep =>
    rintro i m₁ news₁ ⟨G₁, on₁, rfl, _⟩
    exact mem_fr (.head _)
  case done =>
    rintro m₁ news₁ h9 tk9 ⟨G₁, on₁, rfl, g4, a4, _⟩ F9 N9
    clear F2 N2 g3 a3
    w_strict k_steps
    refine hR _ _ G₁ on₁ (by assumption) (news_out (by assumption)) (good_out g4) ?_
    rw [a4]
    unfold addA
    rw [List.length_map, List.take_of_length_le (by simp [vals])]
  case turn =>
    rintro i v m₁ news₁ I oI h9 tk9 hv ⟨G₁, on₁, rfl, g4, a4, hs, hn⟩ hI F9 N9
    obtain ⟨q, hq, rfl⟩ := vals_get hv
    replace F9 := fr2 F9 hs hn
    replace N9 := news_in N9
    have g5 := good_in' (o := oI) g4 hI
    have hb : ∀ x ∈ absG G₁, x.2.2.length ≤ 1000 := by
      intro x hx
      rw [a4] at hx
      have := addPs_sv _ (bump_sv (ensure_sv hsv)) x hx
      simp only [List.length_map, List.length_take] at this
      omega
    have hz : G₁.length ≤ 1000 := by
      rw [← abs_len, a4]
      have h1 := addPs_len k ((ps.take i).map (·.1)) (bump (ensure (absG G) k) k ps.length)
      have h2 := ensure_len (absG G) k
      rw [abs_len] at h2
      rw [bump_len] at h1
      simp only [List.length_map, List.length_take] at h1
      omega
    clear F2 N2 g3 a3 g4 hs hn hv
    w_strict k_steps
    rename absG _ = ensure _ _ => ha
    rename Good _ _ _ _ => g6
    rename (_ : NR) ∈ _ => hr2
    rename NR.key _ = q.1 => hk2
    rename NR => r2
    dsimp only at g6
    refine TurnEnd.next (by assumption) (news_cons (by assumption)) (head_ne (good_sv g6 _)) ⟨_, _, rfl, good_out (good_sv g6 _), ?_, rfl, rfl⟩
    have e : (ps.take (i + 1)).map (·.1) = (ps.take i).map (·.1) ++ [q.1] := by rw [List.take_add_one, hq]; simp
    rw [e, addPs_snoc, ← a4, ← ha, abs_mod g6.keys hr2 _ (fun x => (x.1, x.2.1, x.2.2 ++ [k])) (by simp [NR.abs]), hk2]
    rfl
end

end
theorem reset32active : True := by
  k_with_none
  w_top off
  try (walk1; fail)
  exact True.intro
section
theorem meets_bool_new_list (l : Addr) (items : Array Value) (hfit : (items.size : Int) < 2 ^ 63) :
    Meets (Builtin.«bool.__new__» ⟨[.type "bool", .ref l], []⟩) (fun _ R s => s.heap.IsList l items ∧ R (.ok (.ret (.bool (!items.isEmpty)))) { s with toks := s.toks + 1 + 1 }) :=
  Meets.of_wp fun prog w A R s hs => by
    obtain ⟨hl, hs⟩ := hs
    obtain ⟨hp, g, d, tk, os⟩ := s
    have f1 := F.conv_sub_bool
    repeat (any_goals (first | assumption | (with_reducible refine wpAny_truthy_list (items := items) hl hfit ?_) | wp_step))
    all_goals first | exact ⟨_, rfl, hs⟩ | exact hs | skip
theorem call_bool_list {prog : Program} {w : World} {A : Around} {E : Value → Shared → Prop} {s : Shared} {l : Addr} {items : Array Value} {Q : Value → Shared → Prop} (hl : s.heap.IsList l items) (hfit : (items.size : Int) < 2 ^ 63) (h : Q (.bool (!items.isEmpty)) { s with toks := s.toks + 1 + 1 }) :
    wpAny (model prog w) A (call (.type "bool") [.ref l]) Q E s :=
  call_bool_1 (meets_bool_new_list l items hfit) (show s.heap.IsList l items ∧ wants (fun obj s₁ => s₁.TypeIs obj "bool" ∧ Q obj s₁) E _ _ from ⟨hl, rfl, h⟩)
section
variable {w : World} {A₀ : Around} {base h₀ : Heap} {env : Env} {outer : List Env} {L : Addr} {m mg mb : Str → Option Value} {p : Program} {loose : List Str} {mean : ExcName → Option Value} {s : Shared} {R : Result → Shared → Prop} {F : List (Addr × Obj)} {S : SR} {G : List NR}
local macro_rules | `(tactic| walk_at "call type:bool") => `(tactic| (k_here; k_dflt ((try dsimp only [rdV]); refine' call_bool_list ?k1 ?k2 ?_; (case k1 => exact News.isList (items := (vals _).toArray) (by k_asm) (mem_rd rfl)); (case k2 => rw [vals_size]; omega); k_whole)))
/-- THE CONTRACT of is_active -/
theorem active_ok {A : Around} (B : Below A₀ base outer h₀) (F₀ : Fr h₀ L s.heap m) (X₀ : (Mine.hd.heap_39 w.params).In h₀) (N : News h₀ L s.heap (canon w F S G)) (T : Top p loose mean mg mb h₀) (hA : A.frames = some (env :: outer)) (hh : A.handled = none) (hf : env.frame = some L) (hke : env.scope.kind = .function) (hroom : A.depth < 700)
    {ra : Addr} {xs : List (Int × Tok)} {ep : Nat} (hrd : S.rd = some (ra, xs, ep)) (hxs : xs.length ≤ 1000)
    (hR : ∀ h' tk', Fr h₀ L h' m → News h₀ L h' (canon w F S G) → R (.ok (.ret (.bool (decide (S.fi < S.po) || !xs.isEmpty)))) { s with heap := h', toks := tk' }) :
    codeAny (model PR w) A (.call (.ref 120) ⟨[.ref S.sx], []⟩) R s := by
  obtain ⟨hd, d, fr, gs, u⟩ := A
  dsimp only at hA hh hroom
  subst hA hh
  obtain ⟨sx, dx, nx, on, t1, t2, t3, t4, rd, po, tp, fi, tf⟩ := S
  try dsimp only at hrd
  subst hrd
  refine' code_def B F₀ X₀ N T rfl hf hke ?k6 ?k7 ?k8 ?k9 ?kB ?_ ?c2 ?c3 ?c4 ?c5
  case k6 => k_is
  case k7 => k_is
  case k8 => k_room
  case k9 => exact BindsTo.of_eq rfl
  case c5 => decide
  case kB => exact locs rfl
  case c2 => exact rfl
  case c3 => exact rfl
  case c4 => exact rfl
  intro g' L' h' FG' F' N' B' X' T'; (try dsimp only); k_fold
  clear F₀ N
  k_with_none
  dsimp only at hR
  w_strict k_steps
  · rename _ < _ => hlt
    dsimp only at hlt
    have e : (decide (fi < po) || !xs.isEmpty) = decide (fi < po) := by simp [hlt]
    rw [e] at hR
    exact hR _ _ (by assumption) (by assumption)
  · rename ¬ (_ < _) => hlt
    dsimp only at hlt
    have e : (decide (fi < po) || !xs.isEmpty) = !(vals xs).toArray.isEmpty := by simp [hlt, vals]
    rw [e] at hR
    exact hR _ _ (by assumption) (by assumption)
end

end
theorem reset34ready : True := by
  k_with_none
  w_top off
  try (walk1; fail)
  exact True.intro
section
theorem updClear {w : World} {F : List (Addr × Obj)} {S : SR} {G : List NR} (g : Good w F S G) {a : Addr} {xs : List (Int × Tok)} {ep ep' : Nat} (h : S.rd = some (a, xs, ep)) :
    Upd a (listOf (vals xs).toArray ep) (listOf #[] ep') (canon w F S G) (canon w F { S with rd := some (a, [], ep') } G) := updRd (ys := []) g h
def setNp (A : AG) (k : Int) (v : Int) : AG := A.map fun x => if x.1 = k then (x.1, v, x.2.2) else x
def outA (A : AG) (ks : List Int) : AG := ks.foldl (fun A k => setNp A k (-1)) A
theorem outA_snoc (A : AG) (ks : List Int) (k : Int) : outA A (ks ++ [k]) = setNp (outA A ks) k (-1) := by unfold outA; rw [List.foldl_append]; rfl
section
variable {w : World} {A₀ : Around} {base h₀ : Heap} {env : Env} {outer : List Env} {L : Addr} {m mg mb : Str → Option Value} {p : Program} {loose : List Str} {mean : ExcName → Option Value} {s : Shared} {R : Result → Shared → Prop} {F : List (Addr × Obj)} {S : SR} {G : List NR}
theorem for_inv {prog : Program} {A : Around} {E : Value → Shared → Prop} {Q : Flow → Shared → Prop} {x : Str} {px pos : Pos} {iter : Expr} {body : List Stmt} (_F : Fr h₀ env.locals s.heap m) (hx : env.kindOf x = some .local)
    (hp : (env.scope.kind == .class || (env.scope.kind == .module && env.locals != env.globals)) = false)
    (h : wpAny (model prog w) A (eval iter env) (fun xv s₁ => wpAny (model prog w) A (pyIter xv) (fun it s₂ => LoopAtV prog w A h₀ env x body Q E it s₂) E s₁) E s)
    (hs : ∀ x, foldedSetIterable iter env x = pure x) (hE : PassesOwn (model prog w) A env E) :
    wpAny (model prog w) A (exec (.For (.Name x px) iter body [] pos) env) Q E s := For_invV h₀ hx hp h hs hE
local macro_rules | `(tactic| walk_at "exec For Name Name cons nil") => `(tactic| (k_here; (with_reducible rename Fr _ _ _ _ => kF); k_dflt (refine' for_inv kF ?k1 ?k2 ?_ ?k3 ?k4; (case k1 => exact rfl); (case k2 => exact rfl); (case k3 => intro _; exact rfl); (case k4 => passes_own))))
theorem frm2 {h₀ h : Heap} {L : Addr} {m : Str → Option Value} {a b : Str} {va vb : Value} (F : Fr h₀ L h m) (ha : m a = some va) (hb : m b = some vb) : Fr h₀ L h (fun y => if y = a then some va else if y = b then some vb else m y) := (map2 ha hb) ▸ F
local macro_rules | `(tactic| walk_at "call builtin:list.clear") => `(tactic| (k_here; (with_reducible show wpAny _ _ (call (Value.builtin _) [Value.ref _]) _ _ _); k_dflt (refine' kl_clear ?F ?N ?U ?ne ?z ?_; (case F => k_asm); (case N => k_asm); (case U => exact updClear (by k_asm) rfl); (case ne => simpa [vals] using hne); (case z => rw [sizeLine_eq]; simp only [vals, List.length_map]; omega)); intro h' F' N'; (try k_sweep)))
/-- THE CONTRACT of get_ready -/
theorem ready_ok {A : Around} (B : Below A₀ base outer h₀) (F₀ : Fr h₀ L s.heap m) (X₀ : (Mine.hd.heap_39 w.params).In h₀) (N : News h₀ L s.heap (canon w F S G)) (T : Top p loose mean mg mb h₀) (hA : A.frames = some (env :: outer)) (hh : A.handled = none) (hf : env.frame = some L) (hke : env.scope.kind = .function) (hroom : A.depth < 700)
    (g : Good w F S G) {ra : Addr} {xs : List (Int × Tok)} {ep : Nat} (hrd : S.rd = some (ra, xs, ep)) (hxs : xs.length ≤ 1000) (hin : ∀ q ∈ xs, q.1 ∈ G.map NR.key) (hne : xs ≠ [])
    (hR : ∀ h' tk' G' t ep' tp', Fr h₀ L h' m → News h₀ L h' (canon w ((t, { cls := .type "tuple", data := .seq (vals xs).toArray }) :: F) { S with rd := some (ra, [], ep'), po := S.po + xs.length, tp := tp' } G') → Good w ((t, { cls := .type "tuple", data := .seq (vals xs).toArray }) :: F) { S with rd := some (ra, [], ep'), po := S.po + xs.length, tp := tp' } G' → absG G' = outA (absG G) (xs.map (·.1)) → R (.ok (.ret (.ref t))) { s with heap := h', toks := tk' }) :
    codeAny (model PR w) A (.call (.ref 113) ⟨[.ref S.sx], []⟩) R s := by
  obtain ⟨hd, d, fr, gs, u⟩ := A
  dsimp only at hA hh hroom
  subst hA hh
  obtain ⟨sx, dx, nx, on, t1, t2, t3, t4, rd, po, tp, fi, tf⟩ := S
  try dsimp only at hrd
  subst hrd
  refine' code_def B F₀ X₀ N T rfl hf hke ?k6 ?k7 ?k8 ?k9 ?kB ?_ ?c2 ?c3 ?c4 ?c5
  case k6 => k_is
  case k7 => k_is
  case k8 => k_room
  case k9 => exact BindsTo.of_eq rfl
  case c5 => decide
  case kB => exact locs rfl
  case c2 => exact rfl
  case c3 => exact rfl
  case c4 => exact rfl
  intro g' L' h' FG' F' N' B' X' T'; (try dsimp only); k_fold
  clear F₀ N
  k_with_none
  k_with "pyIter ref" => refine halt ?_
  k_with "call type:tuple" => (k_dflt ((try dsimp only [rdV]); refine' kde_tupleOf (zs := vals _) ?k1 ?k2 ?k3 ?k4 ?k5 ?_; (case k1 => k_asm); (case k2 => k_asm); (case k3 => exact News.isList (items := (vals _).toArray) (by k_asm) (mem_rd rfl)); (case k4 => simp only [vals, List.size_toArray, List.length_map]; omega); (case k5 => rfl); k_whole)); intro D' h8 F8 N8 l1; (try k_sweep)
  w_strict k_steps
  rename News _ _ _ _ => N2
  rename Fr g' L' _ _ => F2
  refine unhalt ?_
  replace N2 := news_in N2
  have g2 := good_in (o := { cls := .type "tuple", data := .seq (vals xs).toArray }) g l1
  refine iter_tup (dd := none) (sl := #[]) (n := 0) (items := (vals xs).toArray) (fun i m₁ news₁ => ∃ G₁, news₁ = canon w ((D', { cls := .type "tuple", data := .seq (vals xs).toArray }) :: F) ⟨sx, dx, nx, on, t1, t2, t3, t4, some (ra, xs, ep), po, tp, fi, tf⟩ G₁ ∧
    Good w ((D', { cls := .type "tuple", data := .seq (vals xs).toArray }) :: F) ⟨sx, dx, nx, on, t1, t2, t3, t4, some (ra, xs, ep), po, tp, fi, tf⟩ G₁ ∧ G₁.map NR.key = G.map NR.key ∧ absG G₁ = outA (absG G) ((xs.take i).map (·.1)) ∧
    m₁ (Str.ofString "self") = some (.ref sx) ∧ m₁ (Str.ofString "n2i") = some (.ref nx) ∧ m₁ (Str.ofString "result") = some (.ref D')) rfl F2 N2 ⟨G, rfl, g2, rfl, rfl, rfl, rfl, rfl⟩ ?keep ?turn ?done
  case keep =>
    rintro i m₁ news₁ ⟨G₁, rfl, _⟩
    exact mem_fr (.head _)
  case done =>
    rintro m₁ news₁ h9 tk9 ⟨G₁, rfl, g4, _, a4, hs, _, hr⟩ F9 N9
    clear F2 N2 g2
    replace F9 := frm2 F9 hs hr
    k_with "call builtin:list.clear" => (k_dflt (refine' kl_clear ?F ?N ?U ?ne ?z ?_; (case F => k_asm); (case N => k_asm); (case U => exact updClear g4 rfl); (case ne => simpa [vals] using hne); (case z => rw [sizeLine_eq]; simp only [vals, List.length_map]; omega)); intro h9 F9 N9; have g5 := good_rd g4 (ys := []) (ep' := ep + 1) rfl)
    w_strict k_steps
    refine hR _ _ G₁ D' (ep + 1) _ (by assumption) (by assumption) (good_dict g5) ?_
    rw [a4, List.take_of_length_le (by simp [vals])]
  case turn =>
    rintro i v m₁ news₁ I oI h9 tk9 hv ⟨G₁, rfl, g4, k4, a4, hs, hn, hr⟩ hI F9 N9
    obtain ⟨q, hq, rfl⟩ := vals_get hv
    replace F9 := fr2 F9 hs hn
    replace N9 := news_in N9
    have g5 := good_in' (o := oI) g4 hI
    obtain ⟨r, hr1, hr2⟩ := List.mem_map.mp (k4 ▸ hin q (List.mem_of_getElem? hq))
    have hva := valueAt_in g4.keys hr1
    rw [hr2] at hva
    clear F2 N2 g2 g4 hs hn hv
    w_strict k_steps
    refine TurnEnd.next (by assumption) (news_cons (by assumption)) (head_ne (good_np g5 _)) ⟨_, rfl, good_out (good_np g5 _), (by rw [keys_mod]; exact k4; exact fun _ => rfl), ?_, (by exact rfl), (by exact rfl), (by exact hr)⟩
    have e : (xs.take (i + 1)).map (·.1) = (xs.take i).map (·.1) ++ [q.1] := by rw [List.take_add_one, hq]; simp
    rw [e, outA_snoc, ← a4, abs_mod g5.keys hr1 _ (fun x => (x.1, -1, x.2.2)) rfl, hr2]
    rfl
end

end
theorem reset36done : True := by
  k_with_none
  w_top off
  try (walk1; fail)
  exact True.intro
section
def decA (A : AG) (k : Int) : AG := A.map fun x => if x.1 = k then (x.1, x.2.1 - 1, x.2.2) else x
def npOf (A : AG) (k : Int) : Int := ((A.find? fun x => x.1 = k).map (·.2.1)).getD 0
def sucOf (A : AG) (k : Int) : List Int := ((A.find? fun x => x.1 = k).map (·.2.2)).getD []
def decS (st : AG × List Int) (j : Int) : AG × List Int := (decA st.1 j, if npOf (decA st.1 j) j = 0 then st.2 ++ [j] else st.2)
def doneOne (st : AG × List Int) (k : Int) : AG × List Int := (sucOf st.1 k).foldl decS (setNp st.1 k (-2), st.2)
def doneAll (st : AG × List Int) (ks : List Int) : AG × List Int := ks.foldl doneOne st
theorem find_abs {G : List NR} {r : NR} (hk : (G.map NR.key).Nodup) (hr : r ∈ G) : (absG G).find? (fun x => x.1 = r.key) = some r.abs := by
  unfold absG
  induction G with
  | nil => cases hr
  | cons x G ih =>
    rw [List.map_cons, List.nodup_cons] at hk
    rw [List.map_cons, List.find?_cons]
    by_cases e : x.key = r.key
    · have : x = r := by
        rcases List.mem_cons.mp hr with h | h
        · exact h.symm
        · exact absurd (List.mem_map.mpr ⟨r, h, e.symm⟩) hk.1
      subst this
      simp [NR.abs]
    · have : decide ((NR.abs x).1 = r.key) = false := by simp [NR.abs, e]
      rw [this]
      rcases List.mem_cons.mp hr with h | h
      · exact absurd (by rw [h]) e
      · exact ih hk.2 h
theorem npOf_abs {G : List NR} {r : NR} (hk : (G.map NR.key).Nodup) (hr : r ∈ G) : npOf (absG G) r.key = r.np := by unfold npOf; rw [find_abs hk hr]; rfl
theorem sucOf_abs {G : List NR} {r : NR} (hk : (G.map NR.key).Nodup) (hr : r ∈ G) : sucOf (absG G) r.key = r.sv.map (·.1) := by unfold sucOf; rw [find_abs hk hr]; rfl
def shape (A : AG) : List (Int × List Int) := A.map fun x => (x.1, x.2.2)
theorem shape_setNp (A : AG) (k v : Int) : shape (setNp A k v) = shape A := by
  unfold shape setNp; rw [List.map_map]; refine List.map_congr_left fun x _ => ?_
  simp only [Function.comp]; split <;> rfl
theorem shape_decA (A : AG) (k : Int) : shape (decA A k) = shape A := by
  unfold shape decA; rw [List.map_map]; refine List.map_congr_left fun x _ => ?_
  simp only [Function.comp]; split <;> rfl
theorem sucOf_shape {A A' : AG} (h : shape A = shape A') (k : Int) : sucOf A k = sucOf A' k := by
  have e : ∀ B : AG, sucOf B k = (((shape B).find? fun x => x.1 = k).map (·.2)).getD [] := by
    intro B
    unfold sucOf shape
    rw [List.find?_map]
    cases hB : B.find? ((fun x : Int × List Int => decide (x.1 = k)) ∘ fun x : Int × Int × List Int => (x.1, x.2.2)) with
    | none =>
      have : B.find? (fun x => decide (x.1 = k)) = none := hB
      rw [this]; rfl
    | some y =>
      have : B.find? (fun x => decide (x.1 = k)) = some y := hB
      rw [this]; rfl
  rw [e, e, h]
theorem foldDec_shape (js : List Int) : ∀ st : AG × List Int, shape (js.foldl decS st).1 = shape st.1 := by
  induction js with
  | nil => intro st; rfl
  | cons j js ih => intro st; rw [List.foldl_cons, ih]; exact shape_decA _ _
theorem foldDec_len (js : List Int) : ∀ st : AG × List Int, (js.foldl decS st).2.length ≤ st.2.length + js.length := by
  induction js with
  | nil => intro st; exact Nat.le_refl _
  | cons j js ih =>
    intro st
    rw [List.foldl_cons]
    refine Nat.le_trans (ih _) ?_
    have : (decS st j).2.length ≤ st.2.length + 1 := by unfold decS; dsimp only; split <;> simp
    rw [List.length_cons]; omega
theorem doneOne_shape (st : AG × List Int) (k : Int) : shape (doneOne st k).1 = shape st.1 := by unfold doneOne; rw [foldDec_shape]; exact shape_setNp _ _ _
theorem doneAll_shape (ks : List Int) : ∀ st : AG × List Int, shape (doneAll st ks).1 = shape st.1 := by
  induction ks with
  | nil => intro st; rfl
  | cons k ks ih => intro st; show shape (doneAll (doneOne st k) ks).1 = _; rw [ih, doneOne_shape]
theorem sucOf_le {A : AG} {b : Nat} (h : ∀ x ∈ A, x.2.2.length ≤ b) (k : Int) : (sucOf A k).length ≤ b := by
  unfold sucOf
  cases e : A.find? (fun x => decide (x.1 = k)) with
  | none => exact Nat.zero_le _
  | some x => exact h x (List.mem_of_find?_eq_some e)
theorem shape_le {A A' : AG} (h : shape A = shape A') {b : Nat} (hb : ∀ x ∈ A', x.2.2.length ≤ b) : ∀ x ∈ A, x.2.2.length ≤ b := by
  intro x hx
  have : (x.1, x.2.2) ∈ shape A' := h ▸ List.mem_map_of_mem hx
  obtain ⟨y, hy, e⟩ := List.mem_map.mp this
  have := hb y hy
  rw [Prod.mk.injEq] at e
  rw [e.2] at this
  exact this
theorem doneAll_len {b : Nat} (ks : List Int) : ∀ st : AG × List Int, (∀ x ∈ st.1, x.2.2.length ≤ b) → (doneAll st ks).2.length ≤ st.2.length + b * ks.length := by
  induction ks with
  | nil => intro st _; exact Nat.le_refl _
  | cons k ks ih =>
    intro st h
    show (doneAll (doneOne st k) ks).2.length ≤ _
    refine Nat.le_trans (ih _ (shape_le (doneOne_shape st k) h)) ?_
    have h1 : (doneOne st k).2.length ≤ st.2.length + (sucOf st.1 k).length := by unfold doneOne; exact foldDec_len _ _
    have h2 := sucOf_le h k
    rw [List.length_cons, Nat.mul_add]; omega
theorem doneAll_snoc (st : AG × List Int) (ks : List Int) (k : Int) : doneAll st (ks ++ [k]) = doneOne (doneAll st ks) k := by unfold doneAll; rw [List.foldl_append]; rfl
theorem mem_mod {G : List NR} {r : NR} (hr : r ∈ G) (f : NR → NR) : f r ∈ modK G r.key f := by
  unfold modK
  exact List.mem_map.mpr ⟨r, hr, if_pos rfl⟩
theorem mem_mod' {G : List NR} {r : NR} (hr : r ∈ G) (k : Int) (f : NR → NR) (h : r.key ≠ k) : r ∈ modK G k f := by
  unfold modK
  exact List.mem_map.mpr ⟨r, hr, if_neg h⟩
theorem updRdPush {w : World} {F : List (Addr × Obj)} {S : SR} {G : List NR} (g : Good w F S G) {a : Addr} {xs : List (Int × Tok)} {ep ep' : Nat} {v : Int} {tv : Tok} (h : S.rd = some (a, xs, ep)) :
    Upd a (listOf (vals xs).toArray ep) (listOf ((vals xs).toArray.push (.int v tv)) ep') (canon w F S G) (canon w F { S with rd := some (a, xs ++ [(v, tv)], ep') } G) := by
  have e : (vals xs).toArray.push (.int v tv) = (vals (xs ++ [(v, tv)])).toArray := by simp [vals]
  rw [e]
  exact updRd g h
local macro_rules | `(tactic| walk_at "exec For Name Name cons nil") => `(tactic| (k_here; (with_reducible rename Fr _ _ _ _ => kF); k_dflt (refine' for_inv kF ?k1 ?k2 ?_ ?k3 ?k4; (case k1 => exact rfl); (case k2 => exact rfl); (case k3 => intro _; exact rfl); (case k4 => passes_own))))
section
variable {w : World} {A₀ : Around} {base h₀ : Heap} {env : Env} {outer : List Env} {L : Addr} {m mg mb : Str → Option Value} {p : Program} {loose : List Str} {mean : ExcName → Option Value} {s : Shared} {R : Result → Shared → Prop} {F : List (Addr × Obj)} {S : SR} {G : List NR}
/-- THE CONTRACT of done -/
inductive DJ1 (w : World) (B : List (Addr × Obj)) (sx dx nx : Addr) (on : Obj) (t1 t2 t3 t4 : Tok) (ra : Addr) (po : Int) (tp : Tok) (fi : Int) (K : List Int) (a0 : AG × List Int) (ks : List (Int × Tok)) (i : Nat) (m : Str → Option Value) (news : List (Addr × Obj)) : Prop
  | mk (G₁ : List NR) (xs₁ : List (Int × Tok)) (ep₁ : Nat) (tf₁ : Tok) (h1 : news = canon w B ⟨sx, dx, nx, on, t1, t2, t3, t4, some (ra, xs₁, ep₁), po, tp, fi + (i : Int), tf₁⟩ G₁) (h2 : Good w B ⟨sx, dx, nx, on, t1, t2, t3, t4, some (ra, xs₁, ep₁), po, tp, fi + (i : Int), tf₁⟩ G₁) (h3 : G₁.map NR.key = K) (h4 : (absG G₁, xs₁.map (·.1)) = doneAll a0 ((ks.take i).map (·.1)))
      (h5 : m (Str.ofString "self") = some (.ref sx)) (h6 : m (Str.ofString "n2i") = some (.ref nx)) : DJ1 w B sx dx nx on t1 t2 t3 t4 ra po tp fi K a0 ks i m news
inductive DJ2 (w : World) (B : List (Addr × Obj)) (sx dx nx : Addr) (on : Obj) (t1 t2 t3 t4 : Tok) (ra : Addr) (po : Int) (tp : Tok) (fi : Int) (tf : Tok) (i : Nat) (K : List Int) (a0 : AG × List Int) (key : Int) (rra rdd rl : Addr) (rkt : Tok) (rsv : List (Int × Tok)) (rep : Nat) (j : Nat) (m : Str → Option Value) (news : List (Addr × Obj)) : Prop
  | mk (G₂ : List NR) (xs₂ : List (Int × Tok)) (ep₂ : Nat) (np₂ : Int) (nt₂ : Tok) (h1 : news = canon w B ⟨sx, dx, nx, on, t1, t2, t3, t4, some (ra, xs₂, ep₂), po, tp, fi + (i : Int), tf⟩ G₂) (h2 : Good w B ⟨sx, dx, nx, on, t1, t2, t3, t4, some (ra, xs₂, ep₂), po, tp, fi + (i : Int), tf⟩ G₂) (h3 : G₂.map NR.key = K) (h4 : NR.mk key rra rdd rl rkt np₂ nt₂ rsv rep ∈ G₂)
      (h5 : (absG G₂, xs₂.map (·.1)) = ((rsv.take j).map (·.1)).foldl decS a0) (h6 : m (Str.ofString "self") = some (.ref sx)) (h7 : m (Str.ofString "n2i") = some (.ref nx)) : DJ2 w B sx dx nx on t1 t2 t3 t4 ra po tp fi tf i K a0 key rra rdd rl rkt rsv rep j m news
theorem done_ok {A : Around} (B : Below A₀ base outer h₀) (F₀ : Fr h₀ L s.heap m) (X₀ : (Mine.hd.heap_39 w.params).In h₀) (N : News h₀ L s.heap (canon w F S G)) (T : Top p loose mean mg mb h₀) (hA : A.frames = some (env :: outer)) (hh : A.handled = none) (hf : env.frame = some L) (hke : env.scope.kind = .function) (hroom : A.depth < 700)
    (g : Good w F S G) {ra : Addr} {xs ks : List (Int × Tok)} {ep : Nat} (hrd : S.rd = some (ra, xs, ep)) (hks : ks.length ≤ 9) (hxs : xs.length ≤ 20) (hsv : ∀ x ∈ absG G, x.2.2.length ≤ 20 ∧ ∀ j ∈ x.2.2, j ∈ G.map NR.key)
    (hin : ∀ q ∈ ks, q.1 ∈ G.map NR.key) (hnp : ∀ i q, ks[i]? = some q → npOf (doneAll (absG G, xs.map (·.1)) ((ks.take i).map (·.1))).1 q.1 = -1)
    (hR : ∀ h' tk' G' xs' ep' tf', Fr h₀ L h' m → News h₀ L h' (canon w F { S with rd := some (ra, xs', ep'), fi := S.fi + ks.length, tf := tf' } G') → Good w F { S with rd := some (ra, xs', ep'), fi := S.fi + ks.length, tf := tf' } G' →
      (absG G', xs'.map (·.1)) = doneAll (absG G, xs.map (·.1)) (ks.map (·.1)) → R (.ok (.ret .none)) { s with heap := h', toks := tk' }) :
    codeAny (model PR w) A (.call (.ref 134) ⟨.ref S.sx :: vals ks, []⟩) R s := by
  obtain ⟨hd, d, fr, gs, u⟩ := A
  dsimp only at hA hh hroom
  subst hA hh
  obtain ⟨sx, dx, nx, on, t1, t2, t3, t4, rd, po, tp, fi, tf⟩ := S
  try dsimp only at hrd
  subst hrd
  refine' kp_rest (vs := vals ks) (g₁ := fun D => some [(Str.ofString "self", .ref sx), (Str.ofString "nodes", .ref D)]) (binds := fun D => [(Str.ofString "self", .ref sx), (Str.ofString "nodes", .ref D)]) B F₀ X₀ N T rfl hf hke ?k6 ?k7 ?k8 ?kV ?kP ?kG ?kB ?_ ?c2 ?c3 ?c4 ?c5
  case k6 => k_is
  case k7 => k_is
  case k8 => k_room
  case kV => rfl
  case kP =>
    rcases ks with _ | ⟨a1, _ | ⟨a2, _ | ⟨a3, _ | ⟨a4, _ | ⟨a5, _ | ⟨a6, _ | ⟨a7, _ | ⟨a8, _ | ⟨a9, _ | ⟨a10, r⟩⟩⟩⟩⟩⟩⟩⟩⟩⟩
    all_goals first | (exfalso; simp only [List.length_cons] at hks; omega) | exact rfl
  case kG => exact fun _ => rfl
  case kB => exact fun _ => locs rfl
  case c5 => decide
  case c2 => exact rfl
  case c3 => exact rfl
  case c4 => exact rfl
  intro D' g' L' h' l1 FG' F' N' B' X' T'; (try dsimp only); (try k_fold)
  clear F₀ N
  replace N' := news_in N'
  have g0 := good_in (o := { cls := .type "tuple", data := .seq (vals ks).toArray }) g l1
  k_with_none
  k_with "pyIter ref" => refine halt ?_
  w_strict k_steps
  rename News _ _ _ _ => N2
  rename Fr g' L' _ _ => F2
  refine unhalt ?_
  refine iter_tup (dd := none) (sl := #[]) (n := 0) (items := (vals ks).toArray) (DJ1 w ((D', { cls := .type "tuple", data := .seq (vals ks).toArray }) :: F) sx dx nx on t1 t2 t3 t4 ra po tp fi (G.map NR.key) (absG G, xs.map (·.1)) ks) rfl F2 N2 ⟨G, xs, ep, tf, by simp, by simpa using g0, rfl, rfl, rfl, rfl⟩ ?keep ?turn ?done
  case keep =>
    rintro i m₁ news₁ ⟨G₁, xs₁, ep₁, tf₁, rfl, _⟩
    exact mem_fr (.head _)
  case done =>
    rintro m₁ news₁ h9 tk9 ⟨G₁, xs₁, ep₁, tf₁, rfl, g4, _, a4, _⟩ F9 N9
    clear F2 N2 g0
    w_strict k_steps
    rw [List.take_of_length_le (by simp [vals])] at a4
    have e : (((vals ks).toArray.size : Nat) : Int) = (ks.length : Int) := vals_size ks
    rw [e] at g4
    rename News h₀ L _ _ => N9
    rw [e] at N9
    exact hR _ _ G₁ xs₁ ep₁ tf₁ (by assumption) (news_out N9) (good_out g4) a4
  case turn =>
    rintro i v m₁ news₁ I oI h9 tk9 hv ⟨G₁, xs₁, ep₁, tf₁, rfl, g4, k4, a4, hs, hn⟩ hI F9 N9
    obtain ⟨q, hq, rfl⟩ := vals_get hv
    replace F9 := fr2 F9 hs hn
    replace N9 := news_in N9
    have g5 := good_in' (o := oI) g4 hI
    obtain ⟨r, hr1, hr2⟩ := List.mem_map.mp (k4 ▸ hin q (List.mem_of_getElem? hq))
    have hva := valueAt_in g4.keys hr1
    rw [hr2] at hva
    have hnpr : r.np = -1 := by
      have z := hnp i q hq
      rw [← a4, ← hr2, npOf_abs g4.keys hr1] at z
      exact z
    obtain ⟨rk, rra, rdd, rl, rkt, rnp, rnt, rsv, rep⟩ := r
    dsimp only at hnpr hr2 hva
    subst hnpr hr2
    clear F2 N2 g0 hs hn hv
    k_with "compareOp NotEq int int" => refine halt ?_
    w_strict k_steps
    refine unhalt ?_
    k_with_none
    k_with "exec For Name Attribute cons nil" => refine halt ?_
    dsimp only
    w_strict k_steps
    rename News g' L' _ _ => N2
    rename Fr g' L' _ _ => F2
    refine unhalt ?_
    dsimp only at N2
    generalize hG2 : modK _ _ _ = G2 at N2
    have g6 := hG2 ▸ good_np g5 q.1
    have hr3 := hG2 ▸ mem_mod hr1 _
    dsimp only at hr3
    have a3 : (absG G2, xs₁.map (·.1)) = (setNp (absG G₁) q.1 (-2), xs₁.map (·.1)) := by
      rw [← hG2]
      congr 1
      exact abs_mod g5.keys hr1 _ (fun x => (x.1, -2, x.2.2)) rfl
    have k6 : G2.map NR.key = G.map NR.key := by rw [← hG2, keys_mod]; exact k4; exact fun _ => rfl
    clear g5 hG2
    k_with_none
    k_with "pyIter ref" => refine halt ?_
    refine' for_inv F2 ?k1 ?k2 ?_ ?k3 ?k4
    case k1 => exact rfl
    case k2 => exact rfl
    case k3 => intro _; exact rfl
    case k4 => passes_own
    w_strict k_steps
    refine unhalt ?_
    dsimp only
    have hss := sucOf_abs g4.keys hr1
    have hlen : rsv.length ≤ 20 := by
      have z := sucOf_le (shape_le (A := absG G₁) (A' := absG G) (by rw [show absG G₁ = (doneAll (absG G, xs.map (·.1)) ((ks.take i).map (·.1))).1 from by rw [← a4], doneAll_shape]) fun x hx => (hsv x hx).1) q.1
      dsimp only at hss
      rw [hss, List.length_map] at z
      exact z
    have hsk : ∀ j ∈ rsv.map (·.1), j ∈ G.map NR.key := by
      dsimp only at hss
      rw [← hss, sucOf_shape (A := absG G₁) (A' := absG G) (by rw [show absG G₁ = (doneAll (absG G, xs.map (·.1)) ((ks.take i).map (·.1))).1 from by rw [← a4], doneAll_shape])]
      intro j hj
      unfold sucOf at hj
      cases e : (absG G).find? (fun x => decide (x.1 = q.1)) with
      | none => rw [e] at hj; cases hj
      | some x => rw [e] at hj; exact (hsv x (List.mem_of_find?_eq_some e)).2 j hj
    have hxl : xs₁.length ≤ 200 := by
      have z := doneAll_len (b := 20) ((ks.take i).map (·.1)) (absG G, xs.map (·.1)) fun x hx => (hsv x hx).1
      rw [← a4] at z
      simp only [List.length_map, List.length_take] at z
      omega
    refine iter_lst (items := (vals rsv).toArray) (n := rep) (DJ2 w ((I, oI) :: (D', { cls := .type "tuple", data := .seq (vals ks).toArray }) :: F) sx dx nx on t1 t2 t3 t4 ra po tp fi tf₁ i (G.map NR.key) (setNp (absG G₁) q.1 (-2), xs₁.map (·.1)) q.1 rra rdd rl rkt rsv rep) rfl F2 N2 ⟨G2, xs₁, ep₁, _, _, rfl, g6, k6, hr3, by exact a3, rfl, rfl⟩ ?keep ?turn ?done
    case keep =>
      rintro j m₂ news₂ ⟨G₂, xs₂, ep₂, np₂, nt₂, rfl, _, _, hr, _⟩
      exact mem_lst hr
    case done =>
      rintro m₂ news₂ h8 tk8 ⟨G₂, xs₂, ep₂, np₂, nt₂, rfl, g7, k7, _, a7, hs, hn⟩ F8 N8
      clear F2 N2 g6 hr3 a3 F9 N9 g4
      replace F8 := frm2 F8 hs hn
      w_strict k_steps
      rename News g' L' _ _ => N7
      rename Fr g' L' _ _ => F7
      have e9 : fi + ((i + 1 : Nat) : Int) = fi + (i : Int) + 1 := by omega
      refine TurnEnd.next F7 (news_cons N7) (head_ne (good_dict g7)) ⟨G₂, xs₂, ep₂, _, (by rw [e9]), (by rw [e9]; exact good_out (good_dict g7)), k7, ?_, (by exact rfl), (by exact rfl)⟩
      have e : (ks.take (i + 1)).map (·.1) = (ks.take i).map (·.1) ++ [q.1] := by rw [List.take_add_one, hq]; simp
      rw [e, doneAll_snoc, ← a4, a7]
      unfold doneOne
      dsimp only at hss ⊢
      rw [hss, List.take_of_length_le (by simp [vals])]
    case turn =>
      rintro j v m₂ news₂ I₂ oI₂ h8 tk8 hv ⟨G₂, xs₂, ep₂, np₂, nt₂, rfl, g7, k7, hr7, a7, hs, hn⟩ hI F8 N8
      clear F2 N2 g6 hr3 a3 F9 N9 g4
      obtain ⟨q2, hq2, rfl⟩ := vals_get hv
      replace F8 := fr2 F8 hs hn
      replace N8 := news_in N8
      have g8 := good_in' (o := oI₂) g7 hI
      obtain ⟨r2, hr1, hr2⟩ := List.mem_map.mp (k7 ▸ hsk q2.1 (List.mem_map_of_mem (List.mem_of_getElem? hq2)))
      have hva := valueAt_in g7.keys hr1
      rw [hr2] at hva
      obtain ⟨k2, a2, d2, l2, kt2, np2, nt2, sv2, ep2⟩ := r2
      dsimp only at hr2 hva
      subst hr2
      replace hr7 : ∃ np nt, NR.mk q.1 rra rdd rl rkt np nt rsv rep ∈ G₂ := ⟨_, _, hr7⟩
      k_with_none
      k_with "exec If" => refine halt ?_
      w_strict k_steps
      rename News g' L' _ _ => N7
      rename Fr g' L' _ _ => F7
      refine unhalt ?_
      generalize hG3 : modK _ _ _ = G3 at N7
      have g9 := hG3 ▸ good_np g8 q2.1
      have hr3 := hG3 ▸ mem_mod hr1 _
      dsimp only at hr3
      have a9 : absG G3 = decA (absG G₂) q2.1 := by
        rw [← hG3, abs_mod g8.keys hr1 _ (fun x => (x.1, x.2.1 - 1, x.2.2)) rfl]; rfl
      have n9 : npOf (decA (absG G₂) q2.1) q2.1 = np2 - 1 := by
        rw [← a9]; exact npOf_abs g9.keys hr3
      have k9 : G3.map NR.key = G.map NR.key := by rw [← hG3, keys_mod]; exact k7; exact fun _ => rfl
      have e : (rsv.take (j + 1)).map (·.1) = (rsv.take j).map (·.1) ++ [q2.1] := by rw [List.take_add_one, hq2]; simp
      have hr9 : ∃ np nt, NR.mk q.1 rra rdd rl rkt np nt rsv rep ∈ G3 := by
        obtain ⟨np7, nt7, hr7⟩ := hr7
        by_cases hq : q.1 = q2.1
        · have := key_inj g7.keys hr7 hr1 hq
          injection this with e1 e2 e3 e4 e5 e6 e7 e8 e9
          subst e2 e3 e4 e5 e8 e9
          rw [e1]
          exact ⟨_, _, hr3⟩
        · exact ⟨np7, nt7, hG3 ▸ mem_mod' hr7 _ _ hq⟩
      have hx9 : xs₂.length ≤ 300 := by
        have z := foldDec_len ((rsv.take j).map (·.1)) (setNp (absG G₁) q.1 (-2), xs₁.map (·.1))
        rw [← a7] at z
        simp only [List.length_map, List.length_take] at z
        omega
      clear g8 hG3 hr1 hr7 g7 hva
      k_with_none
      k_with "call builtin:list.append" => (k_dflt (refine' append_K ?k1 ?k2 ?k3 ?_ ?z; (case k1 => k_asm); (case k2 => k_asm); (case k3 => exact updRdPush (by assumption) rfl); (case z => rw [sizeLine_eq]; simp only [vals, List.size_toArray, List.length_map]; omega)); intro h8 F8 N8; (try k_sweep))
      w_strict k_steps
      · rename News g' L' _ _ => N6
        rename Fr g' L' _ _ => F6
        have h0 : np2 - 1 = 0 := by assumption
        obtain ⟨np9, nt9, hr9⟩ := hr9
        refine TurnEnd.next F6 (news_cons N6) (head_ne (good_rd g9 rfl)) ⟨G3, xs₂ ++ [(q2.1, q2.2)], ep₂ + 1, np9, nt9, rfl, good_out (good_rd g9 rfl), k9, hr9, ?_, (by exact rfl), (by exact rfl)⟩
        rw [e, List.foldl_append, ← a7]
        show _ = decS _ _
        unfold decS
        dsimp only
        rw [n9, if_pos h0, a9, List.map_append]
        rfl
      · rename News g' L' _ _ => N6
        rename Fr g' L' _ _ => F6
        have h0 : ¬ np2 - 1 = 0 := by assumption
        obtain ⟨np9, nt9, hr9⟩ := hr9
        refine TurnEnd.next F6 (news_cons N6) (head_ne g9) ⟨G3, xs₂, ep₂, np9, nt9, rfl, good_out g9, k9, hr9, ?_, (by exact rfl), (by exact rfl)⟩
        rw [e, List.foldl_append, ← a7]
        show _ = decS _ _
        unfold decS
        dsimp only
        rw [n9, if_neg h0, a9]
end

end
theorem reset39enter : True := by
  k_with_none
  w_top off
  try (walk1; fail)
  exact True.intro
section
section
variable {prog : Program} {w : World} {A₀ A : Around} {s : Shared} {base h₀ : Heap} {L : Addr} {m : Str → Option Value} {env : Env} {news : List (Addr × Obj)} {K : Frag} {p : Program} {loose : List Str} {mean : ExcName → Option Value} {mg mb : Str → Option Value}
    {R : Result → Shared → Prop} {name qual : Str} {params : Arguments} {body : List Stmt} {scope : Scope} {dV kV doc pm cdv ct oc : Value} {an od : Option Addr} {osl : Array (Option Value)} {f : Addr} {args : Args} {binds : List (Str × Value)}
/-- into a def that catches, from the bottom frame, whatever its env -/
theorem code_defE (B : Below A₀ base [] h₀) (F : Fr h₀ L s.heap m) (X₀ : K.In h₀) (N : News h₀ L s.heap news) (T : Top p loose mean mg mb h₀) (hA : A.frames = some [env]) (hf : env.frame = some L) (hke : env.scope.kind = .function)
    (ho : K.lookup f = some ⟨oc, od, .func (fnOf name qual params body scope dV kV doc pm an cdv ct), osl⟩) (hcd : codeIn K cdv qual = true) (hroom : A.depth < recursionLimit)
    (hbind : BindsTo s (fnOf name qual params body scope dV kV doc pm an cdv ct) args binds) (hloc : ∀ y ∈ binds, scope.names.lookup y.1 = some .local)
    (h : ∀ g L' h₁, Fr h₀ L g m → Fr g L' h₁ (fun y => binds.reverse.lookup y) → News g L' h₁ news → Below A base [env] g → K.In g → Top p loose mean mg mb g → KtsDicts ([env].filterMap (·.frame)) g →
      wpAny (model prog w) (A.deeper (envOf qual scope L' f cdv)) (execs body (envOf qual scope L' f cdv))
        (fun fl s' => LeaveS0 ([env].filterMap (·.frame)) h₀ L m g R (match fl with | .ret v => v | _ => .none) s')
        (fun e s' => wpAny (model prog w) (A.deeper (envOf qual scope L' f cdv)) (leaving (envOf qual scope L' f cdv) e) (fun _ s'' => R (.error e) s'') (fun e' s'' => R (.error e') s'') s')
        { s with heap := h₁, toks := s.toks + binds.length })
    (hco : scope.isCoroutine = false) (hgen : scope.isGenerator = false) (hk : scope.kind = .function)
    (hcell : ∀ x ∈ scope.names, x.2 ≠ .cell) : codeAny (model prog w) A (.call (.ref f) args) R s := by
  have X := X₀.keeps F.keep
  have hfs : [env].filterMap (·.frame) = [L] := by simp [hf]
  refine codeAny_call_def (fd := fnOf name qual params body scope dV kV doc pm an cdv ct) (body := body) (binds := binds) hroom (X _ _ ho) rfl (T.nolimit.keeps F.keep) (codeRec_of X hcd) rfl hbind hcell hloc (fun h₁ hns hk₁ => ?_) hco hgen hk
  obtain ⟨FG, BG, st, _⟩ := groundX (R := R) B F N hA hf hke
  obtain ⟨oL, es, ep, hLg, hLd, hLk, hLf⟩ := FG.ns
  have hNs : ∀ (sl : Array (Option Value)) h', h'.get? L = some { oL with slots := sl } → Heap.Ns h' L m := fun sl h' e => ⟨_, es, ep, e, hLd, hLk, hLf⟩
  refine wpAny_mono (h _ s.heap.objs.size h₁ FG ⟨hns, fun b o e => hk₁ b o (of_hideAll _ e), Nat.le_of_eq (hideAll_size _ _)⟩
    (fun p hp => ⟨hk₁ _ _ (N p hp).1, Nat.ne_of_lt (Heap.lt_size (N p hp).1), hideAll_none _ (List.mem_map_of_mem hp)⟩) BG (X₀.keeps st) (T.keeps st) (fun b hb => by
      rw [hfs] at hb
      rw [List.mem_singleton.mp hb]
      exact ⟨oL, es, ep, hLg, hLd⟩)) (fun fl s' hl => ?_) fun _ _ y => y
  obtain ⟨g', L', m', news', T', F', N', k⟩ := hl
  have nL₀ : h₀.get? L = none := kts_self F
  obtain ⟨sl, hs⟩ := T'.up hLg
  refine k ⟨hNs sl _ (F'.keep _ _ hs), fun b o e => F'.keep b o (T'.other b o (st b o e) (fun q => by
    rw [hfs] at q
    rw [List.mem_singleton.mp q, nL₀] at e
    cases e)), F.above⟩ fun p hp => ⟨(N' p hp).1, fun q => ?_, ?_⟩
  · have := (N' p hp).2.2; rw [q, hs] at this; cases this
  · cases q : h₀.get? p.1 with
    | none => rfl
    | some o =>
      obtain ⟨sl', hs'⟩ := T'.up (st _ _ q)
      have := (N' p hp).2.2
      rw [hs'] at this
      cases this
end

theorem mem_fs {env : Env} {outer : List Env} {L b : Addr} (hf : env.frame = some L) (hm : b ∈ (env :: outer).filterMap (·.frame)) : b = L ∨ b ∈ outer.filterMap (·.frame) := by
  rw [List.filterMap_cons, hf] at hm
  exact List.mem_cons.mp hm
section
variable {prog : Program} {w : World} {A₀ A : Around} {s : Shared} {base h₀ g₀ : Heap} {outer : List Env} {L : Addr} {m : Str → Option Value} {env : Env} {news : List (Addr × Obj)} {K : Frag} {p : Program} {loose : List Str} {mean : ExcName → Option Value} {mg mb : Str → Option Value}
    {R : Result → Shared → Prop} {name qual : Str} {params : Arguments} {body : List Stmt} {scope : Scope} {dV kV doc pm cdv ct oc : Value} {an od : Option Addr} {osl : Array (Option Value)} {f : Addr} {args : Args} {binds : List (Str × Value)}
/-- into a def that catches, whatever the caller's env -/
theorem code_defSE (B : Below A₀ base outer h₀) (F : Fr h₀ L s.heap m) (X₀ : K.In h₀) (N : News h₀ L s.heap news) (T : Top p loose mean mg mb h₀) (XB : K.In base) (TB : Top p loose mean mg mb base) (D : KtsDicts (outer.filterMap (·.frame)) h₀)
    (T0 : KtsTurn (outer.filterMap (·.frame)) g₀ h₀) (hA : A.frames = some (env :: outer)) (hf : env.frame = some L) (hke : env.scope.kind = .function)
    (ho : K.lookup f = some ⟨oc, od, .func (fnOf name qual params body scope dV kV doc pm an cdv ct), osl⟩) (hcd : codeIn K cdv qual = true) (hroom : A.depth < recursionLimit)
    (hbind : BindsTo s (fnOf name qual params body scope dV kV doc pm an cdv ct) args binds) (hloc : ∀ y ∈ binds, scope.names.lookup y.1 = some .local)
    (h : ∀ g L' h₁, Fr h₀ L g m → Fr g L' h₁ (fun y => binds.reverse.lookup y) → News g L' h₁ news → Below A base (env :: outer) g → K.In g → Top p loose mean mg mb g → KtsDicts ((env :: outer).filterMap (·.frame)) g →
      wpAny (model prog w) (A.deeper (envOf qual scope L' f cdv)) (execs body (envOf qual scope L' f cdv))
        (fun fl s' => LeaveS ((env :: outer).filterMap (·.frame)) A₀ base outer K p loose mean mg mb g₀ h₀ L m g R (match fl with | .ret v => v | _ => .none) s')
        (fun e s' => wpAny (model prog w) (A.deeper (envOf qual scope L' f cdv)) (leaving (envOf qual scope L' f cdv) e) (fun _ s'' => R (.error e) s'') (fun e' s'' => R (.error e') s'') s')
        { s with heap := h₁, toks := s.toks + binds.length })
    (hco : scope.isCoroutine = false) (hgen : scope.isGenerator = false) (hk : scope.kind = .function)
    (hcell : ∀ x ∈ scope.names, x.2 ≠ .cell) : codeAny (model prog w) A (.call (.ref f) args) R s := by
  have X := X₀.keeps F.keep
  refine codeAny_call_def (fd := fnOf name qual params body scope dV kV doc pm an cdv ct) (body := body) (binds := binds) hroom (X _ _ ho) rfl (T.nolimit.keeps F.keep) (codeRec_of X hcd) rfl hbind hcell hloc (fun h₁ hns hk₁ => ?_) hco hgen hk
  obtain ⟨FG, BG, st, _⟩ := groundX (R := R) B F N hA hf hke
  obtain ⟨oL, es, ep, hLg, hLd, hLk, hLf⟩ := FG.ns
  have hN : ∀ h', h'.get? L = some oL → Heap.Ns h' L m := fun h' e => ⟨oL, es, ep, e, hLd, hLk, hLf⟩
  have hNs : ∀ (sl : Array (Option Value)) h', h'.get? L = some { oL with slots := sl } → Heap.Ns h' L m := fun sl h' e => ⟨_, es, ep, e, hLd, hLk, hLf⟩
  refine wpAny_mono (h _ s.heap.objs.size h₁ FG ⟨hns, fun b o e => hk₁ b o (of_hideAll _ e), Nat.le_of_eq (hideAll_size _ _)⟩
    (fun p hp => ⟨hk₁ _ _ (N p hp).1, Nat.ne_of_lt (Heap.lt_size (N p hp).1), hideAll_none _ (List.mem_map_of_mem hp)⟩) BG (X₀.keeps st) (T.keeps st) (fun b hb => by
      rcases mem_fs hf hb with rfl | hb
      · exact ⟨oL, es, ep, hLg, hLd⟩
      · obtain ⟨o, es', n', ho', hd'⟩ := D b hb
        exact ⟨o, es', n', st b o ho', hd'⟩)) (fun fl s' hl => ?_) fun _ _ y => y
  have nL₀ : h₀.get? L = none := kts_self F
  rcases hl with ⟨L', m', news', F', N', k⟩ | ⟨g', L', m', news', T', F', N', k⟩
  · refine k ⟨hN _ (F'.keep _ _ hLg), fun b o e => F'.keep b o (st b o e), F.above⟩ fun p hp => ⟨(N' p hp).1, fun q => ?_, ?_⟩
    · have := (N' p hp).2.2; rw [q, hLg] at this; cases this
    · cases q : h₀.get? p.1 with
      | none => rfl
      | some o => have := (N' p hp).2.2; rw [st _ _ q] at this; cases this
  obtain ⟨sl, hs⟩ := T'.up hLg
  obtain ⟨T₁, S₁⟩ := kts_turn_at (h := s'.heap) (fs := outer.filterMap (·.frame)) (g := h₀)
    (fun b hb => by
      obtain ⟨_, o, ho', _⟩ := B.frames.mem hb
      exact ⟨o, ho'⟩)
    (fun b o e nmem => F'.keep b o (T'.other b o (st b o e) (fun q => by
      rcases mem_fs hf q with z | z
      · rw [z, nL₀] at e
        cases e
      · exact nmem z)))
    (fun b o e hm => by
      obtain ⟨sl', hs'⟩ := T'.up (st b o e)
      exact ⟨sl', F'.keep _ _ hs'⟩)
  have B₃ : Below A₀ base outer (ktsHeap s'.heap (outer.filterMap (·.frame)) h₀) := ⟨B.stack, fun b o e => T₁.other b o (B.stays b o e) (fun hm => by
    rw [(B.frames.mem hm).1] at e
    cases e), B.frames.of_keeps fun b o e _ => by
    obtain ⟨sl', hs'⟩ := T₁.up e
    exact ⟨_, hs', rfl⟩⟩
  refine k _ (T0.trans T₁) ⟨hNs sl _ (F'.keep _ _ hs), S₁, by rw [T₁.size]; exact F.above⟩ (fun p hp => ⟨(N' p hp).1, fun q => ?_, ?_⟩) B₃ (XB.keeps B₃.stays) (TB.keeps B₃.stays) (D.turn T₁)
  · have := (N' p hp).2.2; rw [q, hs] at this; cases this
  · refine T₁.none_ _ ?_
    cases q : h₀.get? p.1 with
    | none => rfl
    | some o =>
      obtain ⟨sl', hs'⟩ := T'.up (st _ _ q)
      have := (N' p hp).2.2
      rw [hs'] at this
      cases this
end
section
open PySem.Spec
variable {prog : Program} {w : World} {A₀ : Around} {E : Value → Shared → Prop} {s' : Shared} {base g g₀ G : Heap} {outer : List Env} {L a e t C : Addr} {m : Str → Option Value} {name : Str} {scope : Scope} {cd : Value} {cl : List (Str × Addr)} {vs : List Value}
  {b₀ : Stmt} {suite : List Stmt} {pos np : Pos} {rest : List ExceptHandler} {Q : Flow → Shared → Prop} {news : List (Addr × Obj)} {KF : Frag}
  {p : Program} {loose : List Str} {mean : ExcName → Option Value} {mg mb : Str → Option Value} {x : Str}
/-- an own exception that a callee raised, caught in a frame with cells -/
theorem caught_SOX (R : RaisedS base G (envX name scope L a cd cl :: outer) e (.ref C) t vs news s'.heap) (F : Fr g L G m) (K : Below A₀ base outer g) (hsm : G.UpToSlots s'.heap) (XB : KF.In base) (TB : Top p loose mean mg mb base)
    (D : KtsDicts (outer.filterMap (·.frame)) g) (T0 : KtsTurn (outer.filterMap (·.frame)) g₀ g)
    (ex : nsIn KF mainGlobals x = some (some (.ref C))) (q : ktsIn KF C "BaseException" = true)
    (k : ∀ h' g', KtsTurn (outer.filterMap (·.frame)) g₀ g' → Fr g' L h' m → News g' L h' news → Below A₀ base outer g' → KF.In g' → Top p loose mean mg mb g' → KtsDicts (outer.filterMap (·.frame)) g' →
      wpAny (model prog w) ((A₀.deeper (envX name scope L a cd cl)).mark (some (.ref e))) (execs (b₀ :: suite) (envX name scope L a cd cl)) Q E { s' with heap := h' })
    (hk : scope.kind = .function) (hx : (envX name scope L a cd cl).kindOf x = some .globalImplicit) (hd : (x == ("__debug__" : Str)) = false)
    (hE : PassesOwnAt (model prog w) ((A₀.deeper (envX name scope L a cd cl)).mark (some (.ref e))) (A₀.deeper (envX name scope L a cd cl)) (envX name scope L a cd cl) E) :
    wpAny (model prog w) (A₀.deeper (envX name scope L a cd cl)) (noteFrame (.ref e) (envX name scope L a cd cl))
      (fun _ s₂ => wpAny (model prog w) (A₀.deeper (envX name scope L a cd cl)) (setFlight (.ref e) none) (fun _ s₃ =>
        wpAny (model prog w) (A₀.deeper (envX name scope L a cd cl)) (handleBy (.ref e) (envX name scope L a cd cl) (.ExceptHandler (some (.Name x np)) none (b₀ :: suite) pos :: rest)) Q E s₃) E s₂) E s' := by
  obtain ⟨⟨B, hB, hBG, hl, hfl, hnew⟩, htup⟩ := R
  have hL : B.get? L = none := by
    obtain ⟨_, ⟨L', _, hf, hn', _⟩, _⟩ := hfl.2.2.1
    obtain rfl : L = L' := Option.some.inj hf
    exact hn'
  have hBG' : ∀ b o, G.get? b = some o → b ∉ (envOf name scope L a cd :: outer).filterMap (·.frame) → B.get? b = some o := fun b o e nm => hBG b o e (fun hm => nm (by
    rcases mem_fs rfl hm with z | z
    · rw [List.filterMap_cons]; exact z ▸ .head _
    · rw [List.filterMap_cons]; exact .tail _ z))
  refine wpAny_looks_onW (Around.frames_deeper K.stack) rfl hfl fun h₄ hheld₄ hsm₄ => ?_
  refine wpAny_landsW hheld₄ fun h₅ hheld hsm₅' => ?_
  have hsm₅ := hsm₄.trans hsm₅'
  obtain ⟨g₅, T₅, F₅, K₅⟩ := kts_ground K F hBG' hheld.1 (hsm.trans hsm₅)
  have X₅ : KF.In g₅ := XB.keeps K₅.stays
  have P₅ : TopRead p loose mg mb g₅ := topRead_of (TB.keeps K₅.stays)
  obtain ⟨ob, hob, hobc⟩ := hheld.there
  obtain ⟨nm, q', N, bs, bm, hdct, sn, sub, ab, col, dd, k0, k1, k2, k3, k5, newId, hC, hbase, hbT⟩ := kts_cls X₅ q
  have hC₅ := F₅.keep _ _ hC
  refine wpAny_handleBy_cons (codeAny_handlers_test (nameX_K F₅ X₅ P₅ ex ?_ hk hx hd)) (by intro q; cases q)
  refine wpAny_excMatches_sub_self hC₅ hob hobc hbase (codeAny_handlers_suite ?_)
  refine lands_againW hheld fun h₆ hfl₆ hsm₆ => ?_
  obtain ⟨g₆, T₆, F₆, K₆⟩ := kts_ground K F hBG' hfl₆.1 ((hsm.trans hsm₅).trans hsm₆)
  have Nl : News g₆ L h₆ news := fun q hq => ⟨hfl₆.1 _ _ (hl q hq).1, (fun z => by have := (hl q hq).1; rw [z, hL] at this; cases this), T₆.none_ _ (kts_none F.keep (hl q hq).2.1)⟩
  have X₆ : KF.In g₆ := XB.keeps K₆.stays
  have P₆ : Top p loose mean mg mb g₆ := TB.keeps K₆.stays
  have D₆ : KtsDicts (outer.filterMap (·.frame)) g₆ := D.turn T₆
  exact wpAny_passesOwnAt hE (k h₆ g₆ (T0.trans T₆) F₆ Nl K₆ X₆ P₆ D₆)
end
section
variable {prog : Program} {w : World} {A₀ A : Around} {s : Shared} {base h₀ : Heap} {L : Addr} {m : Str → Option Value} {env : Env} {news : List (Addr × Obj)} {K : Frag} {p : Program} {loose : List Str} {mean : ExcName → Option Value} {mg mb : Str → Option Value}
    {R : Result → Shared → Prop} {name qual : Str} {params : Arguments} {body : List Stmt} {scope : Scope} {dV kV doc pm cdv ct oc : Value} {an od : Option Addr} {osl : Array (Option Value)} {f : Addr} {args : Args} {binds : List (Str × Value)}
/-- into a def with cells that catches, from the bottom frame -/
theorem code_defEC (B : Below A₀ base [] h₀) (F : Fr h₀ L s.heap m) (X₀ : K.In h₀) (N : News h₀ L s.heap news) (T : Top p loose mean mg mb h₀) (hA : A.frames = some [env]) (hf : env.frame = some L) (hke : env.scope.kind = .function)
    (ho : K.lookup f = some ⟨oc, od, .func (fnOf name qual params body scope dV kV doc pm an cdv ct), osl⟩) (hcd : codeIn K cdv qual = true) (hroom : A.depth < recursionLimit)
    (hbind : BindsTo s (fnOf name qual params body scope dV kV doc pm an cdv ct) args binds) (hkind : (binds.all fun y => scope.names.lookup y.1 == some .local || scope.names.lookup y.1 == some .cell) = true)
    (hnd : ((cellsFrom 0 scope.names []).map (·.1)).Nodup)
    (h : ∀ g L' h₁ tk cells, Fr h₀ L g m → Fr g L' h₁ (bindL (envOfC qual scope L' f cdv).kindOf binds fun _ => none) → News g L' h₁ (cells ++ news) →
      CellsAre (bindC (envOfC qual scope L' f cdv).kindOf binds fun _ => none) (cellsFrom (L' + 1) scope.names []) cells → Below A base [env] g → K.In g → Top p loose mean mg mb g → KtsDicts ([env].filterMap (·.frame)) g → (∀ p ∈ news, p.1 < L') →
      wpAny (model prog w) (A.deeper (envOfC qual scope L' f cdv)) (execs body (envOfC qual scope L' f cdv))
        (fun fl s' => LeaveS0 ([env].filterMap (·.frame)) h₀ L m g R (match fl with | .ret v => v | _ => .none) s')
        (fun e s' => wpAny (model prog w) (A.deeper (envOfC qual scope L' f cdv)) (leaving (envOfC qual scope L' f cdv) e) (fun _ s'' => R (.error e) s'') (fun e' s'' => R (.error e') s'') s')
        { s with heap := h₁, toks := tk })
    (hco : scope.isCoroutine = false) (hgen : scope.isGenerator = false) (hk : scope.kind = .function) : codeAny (model prog w) A (.call (.ref f) args) R s := by
  have X := X₀.keeps F.keep
  have hfs : [env].filterMap (·.frame) = [L] := by simp [hf]
  obtain ⟨FG, BG, st, _⟩ := groundX (R := R) B F N hA hf hke
  obtain ⟨oL, es, ep, hLg, hLd, hLk, hLf⟩ := FG.ns
  have hNs : ∀ (sl : Array (Option Value)) h', h'.get? L = some { oL with slots := sl } → Heap.Ns h' L m := fun sl h' e => ⟨_, es, ep, e, hLd, hLk, hLf⟩
  refine codeAny_call_function hroom (X _ _ ho) rfl hco hgen rfl (codeRec_of X hcd) (hbind _ _ _ _ ?_)
  refine wpAny_newFunctionEnv_cells hk (kindsX hkind _) fun env' he s' x => ?_
  subst he
  refine ⟨(T.nolimit.keeps F.keep).keeps x.toInCall.keep, codeAny_func ?_⟩
  obtain ⟨h₁, tk, rfl, _⟩ := x.done
  have hk₁ := x.toInCall.keep
  obtain ⟨cells, NC, Y⟩ := Cl.news (h₀ := s.heap) (Nat.le_refl _) fun n c hm => ⟨x.cell n c (lookup_of_mem_nodup (cellsFrom_names scope.names 0 (s.heap.objs.size + 1) [] [] rfl ▸ hnd) hm), x.above n c hm⟩
  refine wpAny_mono (h _ s.heap.objs.size h₁ tk cells FG ⟨x.toInCall.ns, fun b o e => hk₁ b o (of_hideAll _ e), Nat.le_of_eq (hideAll_size _ _)⟩ (fun p hp => ?_) Y BG (X₀.keeps st) (T.keeps st) (fun b hb => by
      rw [hfs] at hb
      rw [List.mem_singleton.mp hb]
      exact ⟨oL, es, ep, hLg, hLd⟩) (fun p hp => Heap.lt_size (N p hp).1)) (fun fl s' hl => ?_) fun _ _ y => y
  · rcases List.mem_append.mp hp with hp | hp
    · refine ⟨(NC p hp).1, (NC p hp).2.1, ?_⟩
      cases q : (hideAll s.heap (news.map (·.1))).get? p.1 with
      | none => rfl
      | some o => have := of_hideAll _ q; rw [(NC p hp).2.2] at this; cases this
    · exact ⟨hk₁ _ _ (N p hp).1, Nat.ne_of_lt (Heap.lt_size (N p hp).1), hideAll_none _ (List.mem_map_of_mem hp)⟩
  obtain ⟨g', L', m', news', T', F', N', k⟩ := hl
  have nL₀ : h₀.get? L = none := kts_self F
  obtain ⟨sl, hs⟩ := T'.up hLg
  refine k ⟨hNs sl _ (F'.keep _ _ hs), fun b o e => F'.keep b o (T'.other b o (st b o e) (fun q => by
    rw [hfs] at q
    rw [List.mem_singleton.mp q, nL₀] at e
    cases e)), F.above⟩ fun p hp => ⟨(N' p hp).1, fun q => ?_, ?_⟩
  · have := (N' p hp).2.2; rw [q, hs] at this; cases this
  · cases q : h₀.get? p.1 with
    | none => rfl
    | some o =>
      obtain ⟨sl', hs'⟩ := T'.up (st _ _ q)
      have := (N' p hp).2.2
      rw [hs'] at this
      cases this
end

end
theorem reset40next : True := by
  k_with_none
  w_top off
  try (walk1; fail)
  exact True.intro
section
theorem li_ga : Slot "list_iterator" "__getattribute__" "object.__getattribute__" :=
  .of (owner := "object") (n := "__getattribute__") (by rw [typeLookup_type, builtinLookup_eq_fast]; kernel_rfl) (by decide +kernel) (by decide +kernel) (by decide +kernel)
    (by first | exact .inl (by decide +kernel) | exact .inr (by decide +kernel)) (by rw [isSubtype_type]; kernel_rfl)
theorem li_ga_entry : entryFor table "object.__getattribute__" = some Builtin.«object.__getattribute__» := entryFor_of_tree (by kernel_rfl)
theorem li_ga_args (a b : Value) : argsOk "object.__getattribute__" ⟨[a, b], []⟩ := by unfold argsOk; kernel_rfl
theorem wd_get : Slot "wrapper_descriptor" "__get__" "wrapper_descriptor.__get__" :=
  .of (owner := "wrapper_descriptor") (n := "__get__") (by rw [typeLookup_type, builtinLookup_eq_fast]; kernel_rfl) (by decide +kernel) (by decide +kernel) (by decide +kernel)
    (by first | exact .inl (by decide +kernel) | exact .inr (by decide +kernel)) (by rw [isSubtype_type]; kernel_rfl)
theorem wd_get_entry : entryFor table "wrapper_descriptor.__get__" = some Builtin.«wrapper_descriptor.__get__» := entryFor_of_tree (by kernel_rfl)
theorem wd_get_args (a b c : Value) : argsOk "wrapper_descriptor.__get__" ⟨[a, b, c], []⟩ := by unfold argsOk; kernel_rfl
theorem li_next_type : typeOf (.builtin "list_iterator.__next__") = pure (.type "wrapper_descriptor") := by show builtinType _ = _; rw [builtinType_eq_fast]; kernel_rfl
/-- what iter(list).__next__ gives -/
abbrev nextO (I : Addr) : Obj := { cls := .type "method-wrapper", data := .fields #[.builtin "list_iterator.__next__", .ref I] }
theorem li_sub : isSubtype (.type "list_iterator") (.type "list_iterator") = pure true := by rw [isSubtype_type]; kernel_rfl
section
variable {prog : Program} {w : World} {M : Model} {A : Around} {E : Value → Shared → Prop} {s : Shared}
theorem wd_run {I : Addr} {P : Fin → Shared → Prop} (hT : s.TypeIs (.ref I) "list_iterator") (h : P (.done (.ret (.ref s.heap.objs.size))) { s with heap := s.heap.push (nextO I) }) :
    wpAny M A (Builtin.«wrapper_descriptor.__get__» ⟨[.builtin "list_iterator.__next__", .ref I, .type "list_iterator"], []⟩) P E s := by
  unfold Builtin.«wrapper_descriptor.__get__»
  refine wpAny_bind (wpAny_of_eq (a := (.builtin "list_iterator.__next__", some (.ref I), some (.type "list_iterator"))) (by first | rfl | kernel_rfl) ?_)
  dsimp only
  refine wpAny_bind ?_
  refine wpAny_bind (wpAny_of_eq (a := (Str.ofString "__next__", .type "list_iterator")) (by first | rfl | kernel_rfl) ?_)
  dsimp only
  refine wpAny_bind (wpAny_isInstance hT li_sub ?_)
  rw [if_neg (by decide)]
  exact wpAny_pure (wpAny_bind (wpAny_newObj_type (wpAny_pure h)))
end

theorem li_next_get : Builtin.ObjectAttr.getOf (some (.builtin "list_iterator.__next__")) = pure (some (.builtin "wrapper_descriptor.__get__")) := by
  show specialOf (.builtin "list_iterator.__next__") "__get__" = _
  unfold specialOf
  rw [li_next_type, pure_bind]
  exact wd_get.lookup
theorem li_next_get0 : specialOf (.builtin "list_iterator.__next__") "__get__" = pure (some (.builtin "wrapper_descriptor.__get__")) := by
  unfold specialOf
  rw [li_next_type, pure_bind]
  exact wd_get.lookup
theorem li_next_takes : Builtin.ObjectAttr.dataDescriptor? (some (.builtin "list_iterator.__next__")) (some (.builtin "wrapper_descriptor.__get__")) = pure none := by
  unfold Builtin.ObjectAttr.dataDescriptor?
  dsimp only
  have : Builtin.ObjectAttr.takesStores (.builtin "list_iterator.__next__") = pure false := by
    unfold Builtin.ObjectAttr.takesStores specialOf
    rw [li_next_type]
    have e1 : typeLookup (.type "wrapper_descriptor") "__set__" = pure none := by rw [typeLookup_type, builtinLookup_eq_fast]; kernel_rfl
    have e2 : typeLookup (.type "wrapper_descriptor") "__delete__" = pure none := by rw [typeLookup_type, builtinLookup_eq_fast]; kernel_rfl
    simp only [pure_bind, e1, e2]
    first | rfl | kernel_rfl
  rw [this, pure_bind]
  rfl
section
variable {prog : Program} {w : World} {M : Model} {A : Around} {E : Value → Shared → Prop} {s : Shared}
theorem li_run {I l : Addr} {o : Obj} {t : Tok} {i : Nat} {P : Fin → Shared → Prop} (ho : s.heap.get? I = some o) (hc : o.cls = .type "list_iterator") (hd : o.data = .fields #[.ref l, .int i 0]) (hdi : o.dict = none)
    (h : P (.done (.ret (.ref s.heap.objs.size))) { s with heap := s.heap.push (nextO I) }) :
    wpAny (model prog w) A (Builtin.«object.__getattribute__» ⟨[.ref I, .str (Str.ofString "__next__") t], []⟩) P E s := by
  have hT : s.TypeIs (.ref I) "list_iterator" := ⟨o, ho, hc⟩
  unfold Builtin.«object.__getattribute__»
  refine wpAny_bind (wpAny_of_eq (a := (.ref I, [.str (Str.ofString "__next__") t])) (by first | rfl | kernel_rfl) ?_)
  dsimp only
  refine wpAny_bind (wpAny_of_eq (a := Str.ofString "__next__") (by first | rfl | kernel_rfl) ?_)
  refine wpAny_bind (wpAny_typeOf hT ?_)
  unfold Builtin.ObjectAttr.find
  refine wpAny_bind ?_
  refine wpAny_bind (wpAny_of_eq slot_listiter_next.lookup ?_)
  refine wpAny_bind (wpAny_of_eq (a := some (.builtin "wrapper_descriptor.__get__")) li_next_get ?_)
  refine wpAny_bind (wpAny_of_eq (a := none) li_next_takes ?_)
  dsimp only
  unfold Builtin.ObjectAttr.ownThenClass
  refine wpAny_bind ?_
  unfold Builtin.ObjectAttr.inOwnDict Builtin.ObjectAttr.ownDict loadHead
  refine wpAny_bind (wpAny_bind (wpAny_loadPart ho ?_))
  rw [hd]
  dsimp only
  unfold instanceDict
  refine wpAny_bind (wpAny_loadPart ho ?_)
  rw [hc, hdi]
  dsimp only
  refine wpAny_pure ?_
  refine wpAny_pure ?_
  dsimp only
  refine wpAny_bind (wpAny_of_eq (a := ()) (by first | rfl | kernel_rfl) ?_)
  refine wpAny_bind (wpAny_rule (wpAny_pure ?_))
  dsimp only
  unfold Builtin.ObjectAttr.bindTo
  dsimp only
  refine wpAny_bind (wpAny_holding (wpAny_call_entry wd_get ?_ wd_get_entry ?_ (wd_get_args _ _ _)))
  · exact li_next_type
  · exact wd_run hT ⟨_, rfl, wpAny_pure h⟩
theorem get_next {I l : Addr} {o : Obj} {expr : Bool} {i : Nat} {Q : Value → Shared → Prop} (ho : s.heap.get? I = some o) (hc : o.cls = .type "list_iterator") (hd : o.data = .fields #[.ref l, .int i 0]) (hdi : o.dict = none)
    (h : Q (.ref s.heap.objs.size) { s with heap := s.heap.push (nextO I), toks := s.toks + 1 }) :
    wpAny (model prog w) A (getAttr (.ref I) (Str.ofString "__next__") expr) Q E s := by
  have hT : ∀ tk, ({ s with toks := tk } : Shared).TypeIs (.ref I) "list_iterator" := fun _ => ⟨o, ho, hc⟩
  unfold getAttr getAttrBy
  refine wpAny_bind (wpAny_mkText (wpAny_holding (wpAny_bind (wpAny_typeOf (hT _) (wpAny_bind (wpAny_of_eq li_ga.lookup ?_))))))
  show wpAny _ _ (getAttrByItsOwn (.ref I) (.str (Str.ofString "__next__") s.toks) (.type "list_iterator") (.builtin "object.__getattribute__") true expr) _ _ _
  unfold getAttrByItsOwn hookBefore callGetattribute boundAndCalled
  refine wpAny_bind (wpAny_of_eq (show (if onTheHeap (.type "list_iterator") then typeLookup (.type "list_iterator") "__getattr__" else pure none) = pure none from rfl) ?_)
  refine wpAny_bind (wpAny_attempt (wpAny_holding ?_))
  rw [show (expr && onTheHeap (Value.builtin "object.__getattribute__")) = false from Bool.and_false _, if_neg (by decide)]
  refine wpAny_bind (wpAny_of_eq (li_ga.bind _) ?_)
  refine wpAny_call_entry li_ga (hT _) li_ga_entry (li_run (s := { s with toks := s.toks + 1 }) ho hc hd hdi ⟨_, rfl, ?_⟩) (li_ga_args _ _)
  exact wpAny_pure h
end
section
open PySem.Spec
variable {prog : Program} {w : World} {A₀ : Around} {E : Value → Shared → Prop} {s' : Shared} {base g g₀ h : Heap} {outer : List Env} {L a e : Addr} {m : Str → Option Value} {name : Str} {scope : Scope} {cd : Value}
  {n : Str} {b₀ : Stmt} {suite : List Stmt} {pos np : Pos} {rest : List ExceptHandler} {Q : Flow → Shared → Prop} {news : List (Addr × Obj)} {KF : Frag}
  {p : Program} {loose : List Str} {mean : ExcName → Option Value} {mg mb : Str → Option Value} {x : Str} {X T' : String}
/-- an exception that a built-in raised here, caught by this frame's own clause -/
theorem caught_new (hx : Heap.NewExc h s'.heap e X) (F : Fr g L h m) (N : News g L h news) (K : Below A₀ base outer g) (XB : KF.In base) (TB : Top p loose mean mg mb base)
    (D : KtsDicts (outer.filterMap (·.frame)) g) (T0 : KtsTurn (outer.filterMap (·.frame)) g₀ g)
    (ex : nsIn KF mainGlobals x = some none) (hv : bootBuiltins x = some (.type T')) (hn' : x ≠ "__name__")
    (hexc : isSubtype (.type T') (.type "BaseException") = pure true) (hnt : isSubtype (.type ((Manifest.find? T').elim "type" fun y => y.metatype)) (.type "tuple") = pure false) (hsub : isSubtype (.type X) (.type T') = pure true)
    (k : ∀ h' g', KtsTurn (outer.filterMap (·.frame)) g₀ g' → Fr g' L h' m → News g' L h' news → Below A₀ base outer g' → KF.In g' → Top p loose mean mg mb g' → KtsDicts (outer.filterMap (·.frame)) g' →
      wpAny (model prog w) ((A₀.deeper (envOf name scope L a cd)).mark (some (.ref e))) (execs (b₀ :: suite) (envOf name scope L a cd)) Q E { s' with heap := h' })
    (hk : scope.kind = .function := by rfl) (hxk : (envOf name scope L a cd).kindOf x = some .globalImplicit := by rfl) (hd : (x == ("__debug__" : Str)) = false := by decide)
    (hE : PassesOwnAt (model prog w) ((A₀.deeper (envOf name scope L a cd)).mark (some (.ref e))) (A₀.deeper (envOf name scope L a cd)) (envOf name scope L a cd) E := by passes_own) :
    wpAny (model prog w) (A₀.deeper (envOf name scope L a cd)) (noteFrame (.ref e) (envOf name scope L a cd))
      (fun _ s₂ => wpAny (model prog w) (A₀.deeper (envOf name scope L a cd)) (setFlight (.ref e) none) (fun _ s₃ =>
        wpAny (model prog w) (A₀.deeper (envOf name scope L a cd)) (handleBy (.ref e) (envOf name scope L a cd) (.ExceptHandler (some (.Name x np)) none (b₀ :: suite) pos :: rest)) Q E s₃) E s₂) E s' := by
  have K' := K.push (name := name) (a := a) (cd := cd) F hk
  have hin : ∀ env ∈ (envOf name scope L a cd :: outer), ∀ b, env.frame = some b → b ∈ (envOf name scope L a cd :: outer).filterMap (·.frame) := fun env he b hb => List.mem_filterMap.mpr ⟨env, he, hb⟩
  have st : base.StaysIn (hideAll h ((envOf name scope L a cd :: outer).filterMap (·.frame))) := fun b o q => hideAll_get _ (K'.stays b o q) fun hm => by
    rw [(K'.frames.mem hm).1] at q; cases q
  have hBG : ∀ b o, h.get? b = some o → b ∉ (envOf name scope L a cd :: outer).filterMap (·.frame) → (hideAll h ((envOf name scope L a cd :: outer).filterMap (·.frame))).get? b = some o := fun b o q nm => hideAll_get _ q nm
  have hl : ∀ q ∈ news, (hideAll h ((envOf name scope L a cd :: outer).filterMap (·.frame))).get? q.1 = some q.2 := fun q hq => by
    refine hideAll_get _ (N q hq).1 fun hm => ?_
    obtain ⟨env, he, hf⟩ := List.mem_filterMap.mp hm
    rcases List.mem_cons.mp he with rfl | he
    · exact (N q hq).2.1 (Option.some.inj hf).symm
    · obtain ⟨o, ho, _⟩ := (K.frames.mem (List.mem_filterMap.mpr ⟨env, he, hf⟩)).2
      rw [(N q hq).2.2] at ho; cases ho
  obtain ⟨ob, tp, he, hcls, hdd⟩ := hx.there
  have hen : (hideAll h ((envOf name scope L a cd :: outer).filterMap (·.frame))).get? e = none := by
    cases q : (hideAll h ((envOf name scope L a cd :: outer).filterMap (·.frame))).get? e with
    | none => rfl
    | some o => have := of_hideAll _ q; rw [hx.new] at this; cases this
  have hfr : (A₀.deeper (envOf name scope L a cd)).frames = some (envOf name scope L a cd :: outer) := Around.frames_deeper K.stack
  have hff : s'.heap.FunFrames (hideAll h ((envOf name scope L a cd :: outer).filterMap (·.frame))) (envOf name scope L a cd :: outer) := (funFrames_hide K'.frames hin).of_keeps fun b o hb _ => ⟨o, hx.keeps b o hb, rfl⟩
  unfold noteFrame
  simp only [show (envOf name scope L a cd).frame = some L from rfl]
  refine wpAny_bind (wpAny_field he hdd (x := .none) rfl ?_)
  rw [if_neg (by decide)]
  refine wpAny_entryW (a0 := tp) hfr hff rfl he (fun b o hb => hx.keeps b o (of_hideAll _ hb)) hen hdd (by simp) rfl fun h₄ hN => ?_
  obtain ⟨n1, n2, n3, n4⟩ := hN
  rw [hcls] at n3
  have hheld₄ : Heap.HeldW (hideAll h ((envOf name scope L a cd :: outer).filterMap (·.frame))) (envOf name scope L a cd :: outer) e (.type X) tp L h₄ := ⟨n1, hen, n2, n3⟩
  have hsm₄ : h.UpToSlots h₄ := (Heap.UpToSlots.of_keeps hx.keeps).trans n4
  refine wpAny_landsW hheld₄ fun h₅ hheld hsm₅' => ?_
  have hsm₅ := hsm₄.trans hsm₅'
  obtain ⟨g₅, T₅, F₅, K₅⟩ := kts_ground K F hBG hheld.1 hsm₅
  have X₅ : KF.In g₅ := XB.keeps K₅.stays
  have P₅ : TopRead p loose mg mb g₅ := topRead_of (TB.keeps K₅.stays)
  obtain ⟨ob, hob, hobc⟩ := hheld.there
  refine wpAny_handleBy_builtin (X := X) (T := T') (b := true) hexc hnt hsub (name_B F₅ X₅ P₅ ex hv hn' ⟨rfl, ⟨ob, hob, hobc⟩, ?_⟩ hk hxk hd)
  refine lands_againW hheld fun h₆ hfl₆ hsm₆ => ?_
  obtain ⟨g₆, T₆, F₆, K₆⟩ := kts_ground K F hBG hfl₆.1 (hsm₅.trans hsm₆)
  have Nl : News g₆ L h₆ news := fun q hq => ⟨hfl₆.1 _ _ (hl q hq), (N q hq).2.1, T₆.none_ _ (N q hq).2.2⟩
  have X₆ : KF.In g₆ := XB.keeps K₆.stays
  have P₆ : Top p loose mean mg mb g₆ := TB.keeps K₆.stays
  have D₆ : KtsDicts (outer.filterMap (·.frame)) g₆ := D.turn T₆
  exact wpAny_passesOwnAt hE (k h₆ g₆ (T0.trans T₆) F₆ Nl K₆ X₆ P₆ D₆)
end
/-- a list's iterator; one that has come to its end -/
abbrev iterO (l : Addr) (i : Nat) : Obj := { cls := .type "list_iterator", data := .fields #[.ref l, .int i 0] }
abbrev endO (i : Nat) : Obj := { cls := .type "list_iterator", data := .fields #[.none, .int i 0] }
theorem li_next_quiet {as : Args} : (Code.builtin "list_iterator.__next__" as).quiet = true := Code.quiet_builtin _ (by decide +kernel)
theorem li_next_check {I : Addr} : checkBoundCall "list_iterator.__next__" ⟨[.ref I], []⟩ = pure () := by first | kernel_rfl | rfl
section
variable {prog : Program} {w : World} {M : Model} {A : Around} {E : Value → Shared → Prop} {s : Shared} {h₀ : Heap} {L u I l : Addr} {m : Str → Option Value} {news news' : List (Addr × Obj)} {items : Array Value} {i n : Nat} {x : Value}
theorem callWith_next {pos : Pos} {Q : Value → Shared → Prop} (hu : s.heap.get? u = some (nextO I)) (h : wpAny M A (call (.ref u) []) Q E s) : wpAny M A (callWith pos (.ref u) [] [] []) Q E s := by
  unfold callWith
  refine wpAny_bind (wpAny_holding (PyProof.Rows.evalArgs_none ?_))
  refine wpAny_bind (wpAny_standAt ?_)
  simp only [List.any_nil, Bool.or_false]
  refine wpAny_bind (m := keeperOf (.ref u)) ?_
  unfold keeperOf
  refine wpAny_bind (wpAny_load hu ?_)
  simp only [show (Value.type "method-wrapper" != Value.type "method") = true by decide, show (Value.type "method-wrapper" == Value.type "builtin_function_or_method" || Value.type "method-wrapper" == Value.type "method-wrapper") = true by decide, if_true]
  refine wpAny_pure ?_
  exact wpAny_bind (wpAny_mono h (fun r s₂ hr => wpAny_bind (wpAny_holding (wpAny_point (wpAny_pure hr)))) fun _ _ x => x)
theorem call_next_of {Q : Value → Shared → Prop} (hu : s.heap.get? u = some (nextO I))
    (tree : wpAny (model prog w) A.in1 (Builtin.«list_iterator.__next__» ⟨[.ref I], []⟩) (fun fin s' => ∃ v, fin = .done (.ret v) ∧ Q v s') E s) : wpAny (model prog w) A (call (.ref u) []) Q E s := by
  refine wpAny_call (codeAny_of_tree ?_)
  show wpAny _ A.in1 (callAny (.ref u) ⟨[], []⟩) _ _ s
  simp only [callAny]
  refine wpAny_bind (wpAny_load hu ?_)
  simp only [show (Value.type "method-wrapper" == Value.type "method" || Value.type "method-wrapper" == Value.type "builtin_function_or_method" || Value.type "method-wrapper" == Value.type "method-wrapper") = true by decide, if_true]
  show wpAny _ _ (if (Value.type "method-wrapper" != Value.type "method") = true then _ else _) _ _ _
  rw [if_pos (by decide)]
  refine wpAny_bind (wpAny_of_eq (a := ()) li_next_check ?_)
  refine wpAny_bind (wpAny_pure (wpAny_pure ?_))
  refine ⟨li_next_quiet, codeAny_builtin entry_listiter_next (wpAny_mono tree (fun fin s' h' => ?_) fun _ _ h' => h')⟩
  obtain ⟨v, rfl, hv⟩ := h'; exact hv
theorem next_item {Q : Value → Shared → Prop} (F : Fr h₀ L s.heap m) (N : News h₀ L s.heap news) (hu : (u, nextO I) ∈ news) (hl : (l, listOf items n) ∈ news) (U : Upd I (iterO l i) (iterO l (i + 1)) news news') (hx : items[i]? = some x)
    (h : ∀ h', Fr h₀ L h' m → News h₀ L h' news' → Q x { s with heap := h' }) : wpAny (model prog w) A (call (.ref u) []) Q E s := by
  obtain ⟨pre, post, rfl, rfl, a, b⟩ := U.split
  have z := N (I, iterO l i) (List.mem_append.mpr (.inr (.head _)))
  refine call_next_of (N _ hu).1 ?_
  show wpAny _ _ (field (.ref I) 0 >>= _) _ _ s
  refine wpAny_bind (wpAny_field z.1 rfl (x := .ref l) rfl ?_)
  show wpAny _ _ (if (Value.ref l == Value.none) = true then _ else _) _ _ s
  rw [if_neg (show ¬ ((Value.ref l == Value.none) = true) from Bool.false_ne_true)]
  show wpAny _ _ (field (.ref I) 1 >>= _) _ _ s
  refine wpAny_bind (wpAny_field z.1 rfl (x := .int i 0) rfl ?_)
  show wpAny _ _ (seqItems? (.ref l) >>= _) _ _ s
  refine wpAny_bind (wpAny_seqItems (N _ hl).1 rfl ?_)
  simp only [Int.toNat_natCast, hx]
  refine wpAny_bind (wpAny_setField z.1 rfl (by simp) (wpAny_pure ⟨x, rfl, ?_⟩))
  have hg := Heap.get?_update_self (Obj.mapFields (·.setIfInBounds 1 (rawInt (i + 1)))) z.1 rfl
  exact h _ (F.change (Heap.SameBut.update ..) z.2.1 z.2.2) (news_set N a b (Heap.SameBut.update ..) hg)
theorem next_end {Q : Value → Shared → Prop} (hh : A.handled = none) (F : Fr h₀ L s.heap m) (N : News h₀ L s.heap news) (hu : (u, nextO I) ∈ news) (hl : (l, listOf items n) ∈ news) (U : Upd I (iterO l i) (endO i) news news') (hx : items[i]? = none)
    (h : ∀ h₁ h' e, Fr h₀ L h₁ m → News h₀ L h₁ news' → Heap.NewExc h₁ h' e "StopIteration" → E (.ref e) { s with heap := h' }) : wpAny (model prog w) A (call (.ref u) []) Q E s := by
  obtain ⟨pre, post, rfl, rfl, a, b⟩ := U.split
  have z := N (I, iterO l i) (List.mem_append.mpr (.inr (.head _)))
  refine call_next_of (N _ hu).1 ?_
  show wpAny _ _ (field (.ref I) 0 >>= _) _ _ s
  refine wpAny_bind (wpAny_field z.1 rfl (x := .ref l) rfl ?_)
  show wpAny _ _ (if (Value.ref l == Value.none) = true then _ else _) _ _ s
  rw [if_neg (show ¬ ((Value.ref l == Value.none) = true) from Bool.false_ne_true)]
  show wpAny _ _ (field (.ref I) 1 >>= _) _ _ s
  refine wpAny_bind (wpAny_field z.1 rfl (x := .int i 0) rfl ?_)
  show wpAny _ _ (seqItems? (.ref l) >>= _) _ _ s
  refine wpAny_bind (wpAny_seqItems (N _ hl).1 rfl ?_)
  simp only [Int.toNat_natCast, hx]
  refine wpAny_bind (wpAny_rule (wpAny_bind (wpAny_setField z.1 rfl (by simp) ?_)))
  have hg := Heap.get?_update_self (Obj.mapFields (·.setIfInBounds 0 Value.none)) z.1 rfl
  have F₁ := F.change (Heap.SameBut.update ..) z.2.1 z.2.2 (h' := s.heap.update I (Obj.mapFields (·.setIfInBounds 0 Value.none)))
  have N₁ := news_set N a b (Heap.SameBut.update ..) hg
  show wpAny _ _ (newExc (.type "StopIteration") [] >>= _) _ _ _
  refine wpAny_bind ?_
  simp only [newExc, newTuple]
  refine wpAny_bind (wpAny_newObj_type ?_ (by size_fits))
  refine wpAny_bind (m := firstArgMember _ _) (wpAny_of_eq (a := Value.none) (by first | rfl | (simp only [firstArgMember]; rfl)) ?_)
  refine wpAny_newObj_type ?_ (by size_fits)
  refine wpAny_raiseNew_none hh ?_
  refine h _ _ _ F₁ N₁ ⟨fun b o hb => Heap.get?_push_of_some _ (Heap.get?_push_of_some _ hb), Heap.get?_none_of_le (by simp), ⟨_, _, Heap.get?_push_size _ rfl, rfl, rfl⟩⟩
end
section
variable {prog : Program} {w : World} {A : Around} {E : Value → Shared → Prop} {s : Shared} {h₀ : Heap} {L u I l : Addr} {m : Str → Option Value} {news news2 : List (Addr × Obj)} {items : Array Value} {i n : Nat}
theorem next_end2 {Q : Value → Shared → Prop} (hh : A.handled = none) (F : Fr h₀ L s.heap m) (N : News h₀ L s.heap news) (hu : (u, nextO I) ∈ news) (hl : (l, listOf items n) ∈ news) (hI : (I, iterO l i) ∈ news) (hs : ∀ p ∈ news2, p ∈ news ∧ p.1 ≠ I) (hx : items[i]? = none)
    (h : ∀ h₁ h' e, Fr h₀ L h₁ m → News h₀ L h₁ news2 → Heap.NewExc h₁ h' e "StopIteration" → E (.ref e) { s with heap := h' }) : wpAny (model prog w) A (call (.ref u) []) Q E s := by
  have z := N (I, iterO l i) hI
  refine call_next_of (N _ hu).1 ?_
  show wpAny _ _ (field (.ref I) 0 >>= _) _ _ s
  refine wpAny_bind (wpAny_field z.1 rfl (x := .ref l) rfl ?_)
  show wpAny _ _ (if (Value.ref l == Value.none) = true then _ else _) _ _ s
  rw [if_neg (show ¬ ((Value.ref l == Value.none) = true) from Bool.false_ne_true)]
  show wpAny _ _ (field (.ref I) 1 >>= _) _ _ s
  refine wpAny_bind (wpAny_field z.1 rfl (x := .int i 0) rfl ?_)
  show wpAny _ _ (seqItems? (.ref l) >>= _) _ _ s
  refine wpAny_bind (wpAny_seqItems (N _ hl).1 rfl ?_)
  simp only [Int.toNat_natCast, hx]
  refine wpAny_bind (wpAny_rule (wpAny_bind (wpAny_setField z.1 rfl (by simp) ?_)))
  have F₁ := F.change (Heap.SameBut.update ..) z.2.1 z.2.2 (h' := s.heap.update I (Obj.mapFields (·.setIfInBounds 0 Value.none)))
  have N₁ : News h₀ L (s.heap.update I (Obj.mapFields (·.setIfInBounds 0 Value.none))) news2 := fun p hp => ⟨(Heap.get?_update_other _ _ (Ne.symm (hs p hp).2)).trans (N p (hs p hp).1).1, (N p (hs p hp).1).2⟩
  show wpAny _ _ (newExc (.type "StopIteration") [] >>= _) _ _ _
  refine wpAny_bind ?_
  simp only [newExc, newTuple]
  refine wpAny_bind (wpAny_newObj_type ?_ (by size_fits))
  refine wpAny_bind (m := firstArgMember _ _) (wpAny_of_eq (a := Value.none) (by first | rfl | (simp only [firstArgMember]; rfl)) ?_)
  refine wpAny_newObj_type ?_ (by size_fits)
  refine wpAny_raiseNew_none hh ?_
  refine h _ _ _ F₁ N₁ ⟨fun b o hb => Heap.get?_push_of_some _ (Heap.get?_push_of_some _ hb), Heap.get?_none_of_le (by simp), ⟨_, _, Heap.get?_push_size _ rfl, rfl, rfl⟩⟩
end
section
variable {prog : Program} {w : World} {A : Around} {E : Value → Shared → Prop} {s : Shared} {h₀ : Heap} {L l I : Addr} {m : Str → Option Value} {news : List (Addr × Obj)} {items : Array Value} {n i : Nat} {Q : Value → Shared → Prop}
theorem iter_listK (F : Fr h₀ L s.heap m) (N : News h₀ L s.heap news) (hp : (l, listOf items n) ∈ news)
    (h : ∀ (I : Addr) h', Fr h₀ L h' m → News h₀ L h' ((I, iterO l 0) :: news) → (∀ p ∈ news, p.1 < I) → Q (.ref I) { s with heap := h' }) :
    wpAny (model prog w) A (call (.builtin "iter") [.ref l]) Q E s := by
  refine call_function_entry (by decide +kernel) (by decide +kernel) kdk_entry_iter (kdk_args_iter _) ?_
  unfold Builtin.«iter»
  refine wpAny_bind (m := someArgs "iter" 1 2 _) (wpAny_of_eq (a := [Value.ref l]) (by first | rfl | kernel_rfl!) ?_)
  show wpAny _ _ (pyIter (.ref l) >>= _) _ _ _
  refine wpAny_bind (wpAny_pyIter_list (items := items) ⟨_, (N _ hp).1, rfl, n, rfl⟩ ?_)
  exact wpAny_pure ⟨_, rfl, h _ _ (F.push _) (News.push F N _ rfl) (fun q hq => Heap.lt_size (N q hq).1)⟩
theorem get_nextK {expr : Bool} (F : Fr h₀ L s.heap m) (N : News h₀ L s.heap news) (hp : (I, iterO l i) ∈ news)
    (h : ∀ (q : Addr) h', Fr h₀ L h' m → News h₀ L h' ((q, nextO I) :: news) → (∀ p ∈ news, p.1 < q) → Q (.ref q) { s with heap := h', toks := s.toks + 1 }) :
    wpAny (model prog w) A (getAttr (.ref I) (Str.ofString "__next__") expr) Q E s :=
  get_next (N _ hp).1 rfl rfl rfl (h _ _ (F.push _) (News.push F N _ rfl) (fun q hq => Heap.lt_size (N q hq).1))
end

end
theorem reset41loops : True := by
  k_with_none
  w_top off
  try (walk1; fail)
  exact True.intro
section
section
variable {prog : Program} {w : World} {A : Around} {E : Value → Shared → Prop} {env : Env} {test : PySem.Expr} {body orelse : List Stmt} {Q : Flow → Shared → Prop} {pos px : Pos} {x : Str}
/-- a loop's end of turn -/
def Again (n : Nat) (Inv : Nat → Shared → Prop) (Q : Flow → Shared → Prop) (f : Flow) (s : Shared) : Prop :=
  match f with
  | .next => ∃ k, k < n ∧ Inv k s
  | .cont => ∃ k, k < n ∧ Inv k s
  | .brk => Q .next s
  | .ret v => Q (.ret v) s
theorem while_rest (hE : PassesOwn (model prog w) A env E) (Inv : Nat → Shared → Prop)
    (turn : ∀ n s, Inv n s → wpAny (model prog w) A (isTrue test env (eval test env)) (fun b s₂ => WhlIf b (wpAny (model prog w) A (execs body env) (Again n Inv Q) E s₂) (wpAny (model prog w) A (execs orelse env) Q E s₂)) E s) :
    ∀ n s, Inv n s → WhlRest prog w A E env test body orelse Q 0 s := by
  intro n
  induction n using Nat.strongRecOn with
  | ind n ih =>
    intro s h
    refine whl_turn (k := 0) hE (wpAny_mono (turn n s h) (fun b s₂ h₂ => ?_) fun _ _ e => e)
    cases b with
    | false => exact h₂
    | true =>
      refine WhlIf.yes rfl (wpAny_mono (show wpAny (model prog w) A (execs body env) (Again n Inv Q) E s₂ from h₂) (fun f s₃ h₃ => ?_) fun _ _ e => e)
      cases f with
      | next => obtain ⟨k, hk, hi⟩ := h₃; exact ih k hk s₃ hi
      | cont => obtain ⟨k, hk, hi⟩ := h₃; exact ih k hk s₃ hi
      | brk => exact h₃
      | ret v => exact h₃
theorem while_ind {s : Shared} {n : Nat} (Inv : Nat → Shared → Prop) (h : Inv n s)
    (turn : ∀ n s, Inv n s → wpAny (model prog w) A (isTrue test env (eval test env)) (fun b s₂ => WhlIf b (wpAny (model prog w) A (execs body env) (Again n Inv Q) E s₂) (wpAny (model prog w) A (execs orelse env) Q E s₂)) E s)
    (hE : PassesOwn (model prog w) A env E) :
    wpAny (model prog w) A (exec (.While test body orelse pos) env) Q E s := whl_start 0 (while_rest hE Inv turn n s h)
theorem for_ind {s : Shared} {n : Nat} {it : Value} (Inv : Nat → Shared → Prop) (h : Inv n s)
    (turn : ∀ n s, Inv n s → wpAny (model prog w) A (pyNext it) (fun r s₁ => match r with
      | none => Q .next s₁
      | some v => wpAny (model prog w) A (storeName env x v) (fun _ s₂ => wpAny (model prog w) A (execs body env) (Again n Inv Q) E s₂) E s₁) E s)
    (hE : PassesOwn (model prog w) A env E) (ht : ∀ v, letOwnedTupleGo (.Name x px) it v = pure ()) :
    codeAny (model prog w) A (.forLoop (.Name x px) it body [] env) (fun r s' => match r with | .ok f => Q f s' | .error e => cameBackBy (model prog w) A env E e s') s := by
  refine codeAny_forLoop Inv (fun n s hi => ?_) n h ht
  refine wpAny_mono (turn n s hi) (fun r s₁ h₁ => ?_) hE
  cases r with
  | none => exact wpAny_execs_nil h₁
  | some v =>
    refine wpAny_assign_Name (wpAny_mono h₁ (fun _ s₂ h₂ => ?_) hE)
    refine wpAny_mono h₂ (fun f s₃ h₃ => ?_) hE
    cases f with
    | next => exact h₃
    | cont => exact h₃
    | brk => exact h₃
    | ret v => exact h₃
end
abbrev keyO (d : Addr) (n ep : Nat) : Obj := { cls := .type "dict_keyiterator", data := .fields #[.ref d, .int 0 0, .int n 0, .int ep 0] }
/-- a state of a frame whose ground may have turned -/
inductive Turned (w : World) (A : Around) (base : Heap) (outer : List Env) (p : Program) (loose : List Str) (mean : ExcName → Option Value) (mg mb : Str → Option Value) (g₁ : Heap) (L : Addr) (s₀ : Shared) (J : (Str → Option Value) → List (Addr × Obj) → Prop) (s' : Shared) : Prop where
  | mk (g h : Heap) (tk : Tok) (m : Str → Option Value) (news : List (Addr × Obj)) (es : s' = { s₀ with heap := h, toks := tk }) (T : KtsTurn (outer.filterMap (·.frame)) g₁ g) (F : Fr g L h m) (N : News g L h news) (B : Below A base outer g) (X : (Mine.hd.heap_39 w.params).In g) (P : Top p loose mean mg mb g) (D : KtsDicts (outer.filterMap (·.frame)) g) (j : J m news) : Turned w A base outer p loose mean mg mb g₁ L s₀ J s'
section
variable {w : World} {A A' : Around} {base g₁ : Heap} {outer : List Env} {p : Program} {loose : List Str} {mean : ExcName → Option Value} {mg mb : Str → Option Value} {L a : Addr} {s : Shared} {E : Value → Shared → Prop} {name : Str} {scope : Scope} {cd : Value} {body : List Stmt} {Q : Flow → Shared → Prop} {px : Pos} {x : Str}
theorem fr_but {h₀ h h' : Heap} {L I : Addr} {m : Str → Option Value} (F : Fr h₀ L h m) (hL : L ≠ I) (hn : h₀.get? I = none) (k : ∀ b o, b ∉ [I] → h.get? b = some o → h'.get? b = some o) : Fr h₀ L h' m := by
  obtain ⟨oL, a1, a2, hoL, a3⟩ := F.ns
  refine ⟨⟨oL, a1, a2, k L oL (fun hm => hL (List.mem_singleton.mp hm)) hoL, a3⟩, fun b o e => k b o (fun hm => ?_) (F.keep b o e), F.above⟩
  rw [List.mem_singleton.mp hm, hn] at e
  cases e
theorem news_but {h₀ h h' : Heap} {L I : Addr} {news : List (Addr × Obj)} (N : News h₀ L h news) (hi : ∀ p ∈ news, p.1 ≠ I) (k : ∀ b o, b ∉ [I] → h.get? b = some o → h'.get? b = some o) : News h₀ L h' news :=
  fun p hp => ⟨k _ _ (fun hm => hi p hp (List.mem_singleton.mp hm)) (N p hp).1, (N p hp).2⟩
theorem for_dict {d : Addr} {o : Obj} {kvs : List (Int × Value)} (J : Nat → (Str → Option Value) → List (Addr × Obj) → Prop) (hh : A'.handled = none)
    (T₀ : Turned w A base outer p loose mean mg mb g₁ L s (J 0) s) (hkeep : ∀ i m news, J i m news → (d, o) ∈ news) (hd : o.IsDictOf (PySem.intKind PR w) kvs) (lo : (d == sysModules) = false)
    (turn : ∀ i k xv t m news g h tk I oI, kvs[i]? = some (k, xv) → J i m news → (∀ p ∈ news, p.1 ≠ I) → KtsTurn (outer.filterMap (·.frame)) g₁ g → Fr g L h (fun y => if y = x then some (.int k t) else m y) → News g L h ((I, oI) :: news) →
      Below A base outer g → (Mine.hd.heap_39 w.params).In g → Top p loose mean mg mb g → KtsDicts (outer.filterMap (·.frame)) g →
      wpAny (model PR w) A' (execs body (envOf name scope L a cd)) (fun f s₃ => match f with
        | .next => Turned w A base outer p loose mean mg mb g₁ L s (fun m' news' => ∃ n₁, news' = (I, oI) :: n₁ ∧ (∀ p ∈ n₁, p.1 ≠ I) ∧ J (i + 1) m' n₁) s₃
        | .cont => Turned w A base outer p loose mean mg mb g₁ L s (fun m' news' => ∃ n₁, news' = (I, oI) :: n₁ ∧ (∀ p ∈ n₁, p.1 ≠ I) ∧ J (i + 1) m' n₁) s₃
        | .brk => Q .next s₃
        | .ret v => Q (.ret v) s₃) E { s with heap := h, toks := tk })
    (done : ∀ s', Turned w A base outer p loose mean mg mb g₁ L s (J kvs.length) s' → Q .next s')
    (hE : PassesOwn (model PR w) A' (envOf name scope L a cd) E) (hk : scope.kind = .function) (hl : (envOf name scope L a cd).kindOf x = some .local) :
    wpAny (model PR w) A' (pyIter (.ref d)) (fun it s₂ => codeAny (model PR w) A' (.forLoop (.Name x px) it body [] (envOf name scope L a cd)) (fun r s' => match r with | .ok f => Q f s' | .error e => cameBackBy (model PR w) A' (envOf name scope L a cd) E e s') s₂) E s := by
  obtain ⟨g, h, tk, m, news, es, T1, F1, N1, B1, X1, P1, D1, hj⟩ := T₀
  have hmem := hkeep 0 m news hj
  obtain ⟨ep, hat⟩ := (Heap.dictOf_iff.mpr ⟨o, (N1 _ hmem).1, hd⟩ : h.DictOf (PySem.intKind PR w) d kvs).dictAt
  have hsh : s.heap = h := by rw [es]
  refine wpAny_pyIter_dict lo (by rw [hsh]; exact hat) ?_
  have hlt := Heap.lt_size (N1 _ hmem).1
  generalize hI : s.heap.objs.size = I
  have hI' : h.objs.size = I := by rw [← hsh]; exact hI
  have W := Walks.dictKeys (knd := PySem.intKind PR w) (prog := PR) (w := w) (A := A') hh I d (Nat.ne_of_lt (hI' ▸ hlt)) kvs ep
  refine for_ind (n := kvs.length) (fun k s' => ∃ i, k + i = kvs.length ∧ Turned w A base outer p loose mean mg mb g₁ L s (fun m' news' => ∃ oI n₁, news' = (I, oI) :: n₁ ∧ (∀ p ∈ n₁, p.1 ≠ I) ∧ J i m' n₁) s' ∧ (s'.heap.IsKeyIter I d i kvs.length ep ∧ s'.heap.DictAt (PySem.intKind PR w) d kvs ep)) ?_ ?_ hE (fun _ => rfl)
  · have hg : (h.push { cls := .type "dict_keyiterator", data := .fields #[.ref d, .int 0 0, .int kvs.length 0, .int ep 0] }).get? I = some { cls := .type "dict_keyiterator", data := .fields #[.ref d, .int 0 0, .int kvs.length 0, .int ep 0] } := hI' ▸ Heap.get?_push_size _ rfl
    have hpn : ∀ p ∈ news, p.1 ≠ I := fun p hp => Nat.ne_of_lt (hI' ▸ Heap.lt_size (N1 p hp).1)
    refine ⟨0, rfl, ⟨g, h.push { cls := .type "dict_keyiterator", data := .fields #[.ref d, .int 0 0, .int kvs.length 0, .int ep 0] }, tk, m, _, ?_, T1, F1.push _, ?_, B1, X1, P1, D1, ⟨keyO d kvs.length ep, news, rfl, hpn, hj⟩⟩, ?_, ?_⟩
    · rw [es]
    · intro q hq
      rcases List.mem_cons.mp hq with rfl | hq
      · exact ⟨hg, hI' ▸ Nat.ne_of_gt F1.ns.lt, hI' ▸ next_is_new F1⟩
      · exact ⟨Heap.get?_push_of_some _ (N1 q hq).1, (N1 q hq).2⟩
    · exact ⟨_, by rw [hsh]; exact hg, rfl, rfl⟩
    · rw [hsh]; exact hat.push _
  · rintro n s' ⟨i, hn, ⟨g2, h2, tk2, m2, news2, rfl, T2, F2, N2, B2, X2, P2, D2, oI, n₁, rfl, hne, hj2⟩, hst⟩
    have hIn := N2 _ (.head _)
    by_cases hi : i < kvs.length
    · refine W.item i _ _ _ hi hst fun v h' tk' hP hst' hk' => ?_
      obtain ⟨k, xv, hkx, his⟩ := hP
      obtain ⟨t, rfl⟩ := Value.isInt_shape his
      dsimp only at hk'
      obtain ⟨oI', hoI', _, _⟩ := id hst'.1
      have F3 := fr_but F2 (Ne.symm hIn.2.1) hIn.2.2 hk'
      have N3 : News g2 L h' ((I, oI') :: n₁) := fun q hq => by
        rcases List.mem_cons.mp hq with rfl | hq
        · exact ⟨hoI', hIn.2⟩
        · exact news_but (fun q hq => N2 q (.tail _ hq)) hne hk' q hq
      dsimp only
      refine stN (s := { s with heap := h', toks := tk' }) F3 N3 (fun h4 F4 N4 => ?_) hk hl
      refine wpAny_mono (turn i k xv t m2 n₁ g2 h4 _ I oI' hkx hj2 hne T2 F4 N4 B2 X2 P2 D2) (fun f s₃ h₃ => ?_) fun _ _ e => e
      have hst4 : h4.IsKeyIter I d (i + 1) kvs.length ep ∧ h4.DictAt (PySem.intKind PR w) d kvs ep := by
        refine W.frame (i + 1) h' h4 hst' fun b hb ob hob => ?_
        rcases List.mem_cons.mp hb with rfl | hb
        · rw [(N3 _ (.head _)).1] at hob
          cases hob
          exact (N4 _ (.head _)).1
        · rw [List.mem_singleton.mp hb] at hob ⊢
          rw [(N3 _ (.tail _ (hkeep i m2 n₁ hj2))).1] at hob
          cases hob
          exact (N4 _ (.tail _ (hkeep i m2 n₁ hj2))).1
      have fin : Turned w A base outer p loose mean mg mb g₁ L s (fun m' news' => ∃ n₁, news' = (I, oI') :: n₁ ∧ (∀ p ∈ n₁, p.1 ≠ I) ∧ J (i + 1) m' n₁) s₃ →
          ∃ k, k < n ∧ ∃ i, k + i = kvs.length ∧ Turned w A base outer p loose mean mg mb g₁ L s (fun m' news' => ∃ oI n₁, news' = (I, oI) :: n₁ ∧ (∀ p ∈ n₁, p.1 ≠ I) ∧ J i m' n₁) s₃ ∧ (s₃.heap.IsKeyIter I d i kvs.length ep ∧ s₃.heap.DictAt (PySem.intKind PR w) d kvs ep) := by
        rintro ⟨g5, h5, tk5, m5, news5, rfl, T5, F5, N5, B5, X5, P5, D5, n5, rfl, hne5, hj5⟩
        refine ⟨n - 1, by omega, i + 1, by omega, ⟨g5, h5, tk5, m5, _, rfl, T5, F5, N5, B5, X5, P5, D5, oI', n5, rfl, hne5, hj5⟩, ?_⟩
        refine W.frame (i + 1) h4 h5 hst4 fun b hb ob hob => ?_
        rcases List.mem_cons.mp hb with rfl | hb
        · rw [(N4 _ (.head _)).1] at hob
          cases hob
          exact (N5 _ (.head _)).1
        · rw [List.mem_singleton.mp hb] at hob ⊢
          rw [(N4 _ (.tail _ (hkeep i m2 n₁ hj2))).1] at hob
          cases hob
          exact (N5 _ (.tail _ (hkeep (i + 1) m5 n5 hj5))).1
      cases f with
      | next => exact fin h₃
      | cont => exact fin h₃
      | brk => exact h₃
      | ret v => exact h₃
    · have hie : i = kvs.length := by omega
      subst hie
      refine W.done _ _ _ hst fun h' tk' hk' => ?_
      exact done _ ⟨g2, h', tk', m2, n₁, rfl, T2, fr_but F2 (Ne.symm hIn.2.1) hIn.2.2 hk', news_but (fun q hq => N2 q (.tail _ hq)) hne hk', B2, X2, P2, D2, hj2⟩
end

end
theorem reset42fcled : True := by
  k_with_none
  w_top off
  try (walk1; fail)
  exact True.intro
section
/-- an entry of the search's stack: the node, its index, the bound next, the iterator, the list behind it, how far it is -/
structure ER where
  nd : Int
  nt : Tok
  ix : Int
  xt : Tok
  u : Addr
  I : Addr
  l : Addr
  i : Nat
def ER.list (e : ER) : List (Addr × Obj) := [(e.u, nextO e.I), (e.I, iterO e.l e.i)]
structure DS where
  ska : Addr
  xs : List (Int × Tok)
  ep1 : Nat
  ika : Addr
  us : List Value
  ep2 : Nat
  sea : Addr
  so : Obj
  nda : Addr
  no : Obj
abbrev skV (P : List ER) : List (Int × Tok) := P.map fun e => (e.nd, e.nt)
abbrev ikV (P : List ER) : List Value := P.map fun e => Value.ref e.u
abbrev ndV (P : List ER) : List (Int × Value) := P.map fun e => (e.nd, Value.int e.ix e.xt)
@[irreducible] def fcF (F : List (Addr × Obj)) (d : DS) (P : List ER) : List (Addr × Obj) :=
  (d.ska, listOf (vals d.xs).toArray d.ep1) :: (d.ika, listOf d.us.toArray d.ep2) :: (d.sea, d.so) :: (d.nda, d.no) :: (P.flatMap ER.list ++ F)
section
variable {w : World} {F F' : List (Addr × Obj)} {S : SR} {G : List NR} {r : NR} {d : DS} {P : List ER} {e : ER}
theorem mem_sk : (d.ska, listOf (vals d.xs).toArray d.ep1) ∈ fcF F d P := by simp [fcF]
theorem mem_ik : (d.ika, listOf d.us.toArray d.ep2) ∈ fcF F d P := by simp [fcF]
theorem mem_se : (d.sea, d.so) ∈ fcF F d P := by simp [fcF]
theorem mem_n2 : (d.nda, d.no) ∈ fcF F d P := by simp [fcF]
theorem mem_er (he : e ∈ P) {p : Addr × Obj} (hp : p ∈ e.list) : p ∈ fcF F d P := by
  unfold fcF
  exact .tail _ (.tail _ (.tail _ (.tail _ (List.mem_append_left _ (List.mem_flatMap.mpr ⟨e, he, hp⟩)))))
theorem mem_eu (he : e ∈ P) : (e.u, nextO e.I) ∈ fcF F d P := mem_er he (by simp [ER.list])
theorem mem_eI (he : e ∈ P) : (e.I, iterO e.l e.i) ∈ fcF F d P := mem_er he (by simp [ER.list])
theorem mem_fF {p : Addr × Obj} (hp : p ∈ F) : p ∈ fcF F d P := by
  unfold fcF
  exact .tail _ (.tail _ (.tail _ (.tail _ (List.mem_append_right _ hp))))
theorem canon_mid {pre post : List (Addr × Obj)} {x : Addr × Obj} : canon w (pre ++ x :: post) S G = (S.list w ++ (G.flatMap NR.list ++ pre)) ++ x :: post := by simp [canon]
theorem updFr {a : Addr} {o o' : Obj} {pre post : List (Addr × Obj)} (g : Good w (pre ++ (a, o) :: post) S G) : Upd a o o' (canon w (pre ++ (a, o) :: post) S G) (canon w (pre ++ (a, o') :: post) S G) := by
  have nd := g.nd
  rw [canon_mid] at nd ⊢
  rw [canon_mid]
  exact Upd.nd nd
theorem updFF {a : Addr} {o : Obj} {pre post : List (Addr × Obj)} (g : Good w (pre ++ (a, o) :: post) S G) : UpdF a o (canon w (pre ++ (a, o) :: post) S G) fun o' => canon w (pre ++ (a, o') :: post) S G := by
  have nd := g.nd
  have e : (fun o' => canon w (pre ++ (a, o') :: post) S G) = fun o' => (S.list w ++ (G.flatMap NR.list ++ pre)) ++ (a, o') :: post := by funext o'; exact canon_mid
  rw [canon_mid] at nd ⊢
  rw [e]
  exact UpdF.nd nd
theorem good_fr (g : Good w F S G) (h : F'.map (·.1) = F.map (·.1)) : Good w F' S G := by
  refine ⟨?_, g.dict, g.keys, g.lo⟩
  have nd := g.nd
  unfold canon at nd ⊢
  rw [List.map_append, List.map_append] at nd ⊢
  rw [h]; exact nd
theorem updSk (g : Good w (fcF F d P) S G) {ys : List (Int × Tok)} {ep : Nat} :
    Upd d.ska (listOf (vals d.xs).toArray d.ep1) (listOf (vals ys).toArray ep) (canon w (fcF F d P) S G) (canon w (fcF F { d with xs := ys, ep1 := ep } P) S G) := by
  unfold fcF at g ⊢
  exact updFr (pre := []) g
theorem updSkPush (g : Good w (fcF F d P) S G) {v : Int} {tv : Tok} {ep : Nat} :
    Upd d.ska (listOf (vals d.xs).toArray d.ep1) (listOf ((vals d.xs).toArray.push (.int v tv)) ep) (canon w (fcF F d P) S G) (canon w (fcF F { d with xs := d.xs ++ [(v, tv)], ep1 := ep } P) S G) := by
  have e : (vals d.xs).toArray.push (.int v tv) = (vals (d.xs ++ [(v, tv)])).toArray := by simp [vals]
  rw [e]
  exact updSk g
theorem updIk (g : Good w (fcF F d P) S G) {ys : List Value} {ep : Nat} :
    Upd d.ika (listOf d.us.toArray d.ep2) (listOf ys.toArray ep) (canon w (fcF F d P) S G) (canon w (fcF F { d with us := ys, ep2 := ep } P) S G) := by
  unfold fcF at g ⊢
  exact updFr (pre := [_]) g
theorem updIkPush (g : Good w (fcF F d P) S G) {v : Value} {ep : Nat} :
    Upd d.ika (listOf d.us.toArray d.ep2) (listOf (d.us.toArray.push v) ep) (canon w (fcF F d P) S G) (canon w (fcF F { d with us := d.us ++ [v], ep2 := ep } P) S G) := by
  have e : d.us.toArray.push v = (d.us ++ [v]).toArray := by simp
  rw [e]
  exact updIk g
theorem updSe (g : Good w (fcF F d P) S G) : UpdF d.sea d.so (canon w (fcF F d P) S G) fun o' => canon w (fcF F { d with so := o' } P) S G := by
  unfold fcF at g ⊢
  exact updFF (pre := [_, _]) g
theorem updN2 (g : Good w (fcF F d P) S G) : UpdF d.nda d.no (canon w (fcF F d P) S G) fun o' => canon w (fcF F { d with no := o' } P) S G := by
  unfold fcF at g ⊢
  exact updFF (pre := [_, _, _]) g
theorem good_d {xs : List (Int × Tok)} {us : List Value} {ep1 ep2 : Nat} {so no : Obj} (g : Good w (fcF F d P) S G) : Good w (fcF F { d with xs := xs, ep1 := ep1, us := us, ep2 := ep2, so := so, no := no } P) S G :=
  good_fr g (by simp [fcF])
theorem lt_d {xs : List (Int × Tok)} {us : List Value} {ep1 ep2 : Nat} {so no : Obj} {a : Nat} (h : ∀ p ∈ canon w (fcF F d P) S G, p.1 < a) : ∀ p ∈ canon w (fcF F { d with xs := xs, ep1 := ep1, us := us, ep2 := ep2, so := so, no := no } P) S G, p.1 < a := by
  have e : (canon w (fcF F { d with xs := xs, ep1 := ep1, us := us, ep2 := ep2, so := so, no := no } P) S G).map (·.1) = (canon w (fcF F d P) S G).map (·.1) := by simp [canon, fcF]
  intro p hp
  have : p.1 ∈ (canon w (fcF F d P) S G).map (·.1) := e ▸ List.mem_map_of_mem hp
  obtain ⟨q, hq, e2⟩ := List.mem_map.mp this
  have := h q hq
  rw [e2] at this
  exact this
/-- the top's iterator goes on -/
theorem updTop {o : Obj} {i' : Nat} (g : Good w (fcF F d (P ++ [e])) S G) (ho : o = iterO e.l i') :
    Upd e.I (iterO e.l e.i) o (canon w (fcF F d (P ++ [e])) S G) (canon w (fcF F d (P ++ [{ e with i := i' }])) S G) := by
  subst ho
  have e1 : ∀ i', fcF F d (P ++ [{ e with i := i' }]) = ((d.ska, listOf (vals d.xs).toArray d.ep1) :: (d.ika, listOf d.us.toArray d.ep2) :: (d.sea, d.so) :: (d.nda, d.no) :: (P.flatMap ER.list ++ [(e.u, nextO e.I)])) ++ (e.I, iterO e.l i') :: F := by intro i'; simp [fcF, ER.list]
  have e0 := e1 e.i
  have e2 : P ++ [{ e with i := e.i }] = P ++ [e] := rfl
  rw [e2] at e0
  rw [e0] at g ⊢
  rw [e1]
  exact updFr g
theorem good_top {i' : Nat} (g : Good w (fcF F d (P ++ [e])) S G) : Good w (fcF F d (P ++ [{ e with i := i' }])) S G := good_fr g (by simp [fcF, ER.list])
theorem fc_snoc_perm (F : List (Addr × Obj)) (d : DS) (P : List ER) (e : ER) : (fcF F d (P ++ [e])).Perm (e.list ++ fcF F d P) := by
  unfold fcF
  rw [List.flatMap_append, List.flatMap_singleton]
  have e1 : ∀ (x1 x2 x3 x4 : Addr × Obj) (Y : List (Addr × Obj)), (x1 :: x2 :: x3 :: x4 :: (Y ++ e.list ++ F)).Perm (e.list ++ (x1 :: x2 :: x3 :: x4 :: (Y ++ F))) := by
    intro x1 x2 x3 x4 Y
    have a : x1 :: x2 :: x3 :: x4 :: (Y ++ e.list ++ F) = ([x1, x2, x3, x4] ++ Y) ++ e.list ++ F := by simp
    have b : e.list ++ (x1 :: x2 :: x3 :: x4 :: (Y ++ F)) = e.list ++ ([x1, x2, x3, x4] ++ Y) ++ F := by simp
    rw [a, b]
    exact List.Perm.append_right _ List.perm_append_comm
  exact e1 _ _ _ _ _
theorem canon_fr_perm {F F' : List (Addr × Obj)} (h : F.Perm F') : (canon w F S G).Perm (canon w F' S G) := by
  unfold canon
  exact List.Perm.append_left _ (List.Perm.append_left _ h)
theorem canon_app_perm (X F : List (Addr × Obj)) : (canon w (X ++ F) S G).Perm (X ++ canon w F S G) := by
  induction X with
  | nil => exact .refl _
  | cons x X ih => exact (canon_cons_perm w (X ++ F) S G x).trans (.cons x ih)
theorem canon_push_perm : (canon w (fcF F d (P ++ [e])) S G).Perm (e.list ++ canon w (fcF F d P) S G) := (canon_fr_perm (fc_snoc_perm F d P e)).trans (canon_app_perm _ _)
theorem news_push {h₀ h : Heap} {L : Addr} (N : News h₀ L h ((e.u, nextO e.I) :: (e.I, iterO e.l e.i) :: canon w (fcF F d P) S G)) : News h₀ L h (canon w (fcF F d (P ++ [e])) S G) :=
  fun p hp => N p (canon_push_perm.mem_iff.mp hp)
theorem good_push (g : Good w (fcF F d P) S G) (h1 : e.I < e.u) (h2 : ∀ p ∈ canon w (fcF F d P) S G, p.1 < e.I) : Good w (fcF F d (P ++ [e])) S G := by
  refine ⟨?_, g.dict, g.keys, g.lo⟩
  rw [(canon_push_perm.map _).nodup_iff]
  show (e.u :: e.I :: (canon w (fcF F d P) S G).map (·.1)).Nodup
  have hl : ∀ b ∈ (canon w (fcF F d P) S G).map (·.1), b < e.I := fun b hb => by
    obtain ⟨q, hq, rfl⟩ := List.mem_map.mp hb
    exact h2 q hq
  refine List.nodup_cons.mpr ⟨fun hm => ?_, List.nodup_cons.mpr ⟨fun hm => ?_, g.nd⟩⟩
  · rcases List.mem_cons.mp hm with q | hm
    · exact absurd h1 (q ▸ Nat.lt_irrefl _)
    · exact absurd (Nat.lt_trans (hl _ hm) h1) (Nat.lt_irrefl _)
  · exact absurd (hl _ hm) (Nat.lt_irrefl _)
theorem good_pop (g : Good w (fcF F d (P ++ [e])) S G) : Good w (fcF F d P) S G := by
  refine ⟨?_, g.dict, g.keys, g.lo⟩
  have nd := g.nd
  rw [(canon_push_perm.map _).nodup_iff, List.map_append, List.nodup_append] at nd
  exact nd.2.1
theorem news_pop {h₀ h : Heap} {L : Addr} (N : News h₀ L h (canon w (fcF F d (P ++ [e])) S G)) : News h₀ L h (canon w (fcF F d P) S G) :=
  fun p hp => N p (canon_push_perm.mem_iff.mpr (List.mem_append_right _ hp))
theorem pop_sub (g : Good w (fcF F d (P ++ [e])) S G) : ∀ p ∈ canon w (fcF F d P) S G, p ∈ canon w (fcF F d (P ++ [e])) S G ∧ p.1 ≠ e.I := by
  intro p hp
  refine ⟨canon_push_perm.mem_iff.mpr (List.mem_append_right _ hp), fun q => ?_⟩
  have nd := g.nd
  rw [(canon_push_perm.map _).nodup_iff, List.map_append, List.nodup_append] at nd
  exact nd.2.2 e.I (by simp [ER.list]) p.1 (List.mem_map_of_mem hp) q.symm
/-- what the search made goes, F stays -/
theorem news_drop {h₀ h : Heap} {L : Addr} (N : News h₀ L h (canon w (fcF F d P) S G)) : News h₀ L h (canon w F S G) := fun p hp => N p (by
  unfold canon fcF at *
  rcases List.mem_append.mp hp with hp | hp
  · exact List.mem_append_left _ hp
  · refine List.mem_append_right _ ?_
    rcases List.mem_append.mp hp with hp | hp
    · exact List.mem_append_left _ hp
    · refine List.mem_append_right _ ?_
      exact .tail _ (.tail _ (.tail _ (.tail _ (List.mem_append_right _ hp)))))
end
section
variable {w : World} {F : List (Addr × Obj)} {S : SR} {G : List NR} {d : DS} {P : List ER} {e : ER} {x : Addr × Obj}
theorem fc_cons_perm (F : List (Addr × Obj)) (d : DS) (P : List ER) (x : Addr × Obj) : (fcF (x :: F) d P).Perm (x :: fcF F d P) := by
  unfold fcF
  have e1 : ∀ (x1 x2 x3 x4 : Addr × Obj) (Y : List (Addr × Obj)), (x1 :: x2 :: x3 :: x4 :: (Y ++ x :: F)).Perm (x :: (x1 :: x2 :: x3 :: x4 :: (Y ++ F))) := by
    intro x1 x2 x3 x4 Y
    have a : x1 :: x2 :: x3 :: x4 :: (Y ++ x :: F) = ([x1, x2, x3, x4] ++ Y) ++ x :: F := by simp
    have b : x :: (x1 :: x2 :: x3 :: x4 :: (Y ++ F)) = x :: (([x1, x2, x3, x4] ++ Y) ++ F) := by simp
    rw [a, b]
    exact List.perm_middle
  exact e1 _ _ _ _ _
theorem canon_fc_perm : (canon w (fcF (x :: F) d P) S G).Perm (x :: canon w (fcF F d P) S G) := (canon_fr_perm (fc_cons_perm F d P x)).trans (canon_cons_perm _ _ _ _ _)
theorem fc_in {h₀ h : Heap} {L : Addr} (N : News h₀ L h (x :: canon w (fcF F d P) S G)) : News h₀ L h (canon w (fcF (x :: F) d P) S G) := fun p hp => N p (canon_fc_perm.mem_iff.mp hp)
theorem fc_out {h₀ h : Heap} {L : Addr} (N : News h₀ L h (canon w (fcF (x :: F) d P) S G)) : News h₀ L h (x :: canon w (fcF F d P) S G) := fun p hp => N p (canon_fc_perm.mem_iff.mpr hp)
theorem fc_good_in (g : Good w (fcF F d P) S G) (h : ∀ p ∈ canon w (fcF F d P) S G, p.1 ≠ x.1) : Good w (fcF (x :: F) d P) S G := by
  refine ⟨?_, g.dict, g.keys, g.lo⟩
  rw [(canon_fc_perm.map _).nodup_iff, List.map_cons]
  refine List.nodup_cons.mpr ⟨fun hm => ?_, g.nd⟩
  obtain ⟨q, hq, e⟩ := List.mem_map.mp hm
  exact h q hq e
theorem fc_good_out (g : Good w (fcF (x :: F) d P) S G) : Good w (fcF F d P) S G ∧ ∀ p ∈ canon w (fcF F d P) S G, p.1 ≠ x.1 := by
  have nd := g.nd
  rw [(canon_fc_perm.map _).nodup_iff, List.map_cons, List.nodup_cons] at nd
  exact ⟨⟨nd.2, g.dict, g.keys, g.lo⟩, fun p hp e => nd.1 (List.mem_map.mpr ⟨p, hp, e⟩)⟩
theorem nodup4 {a b c d : Nat} {cs : List Nat} (nd : cs.Nodup) (hl : ∀ x ∈ cs, x < a) (h1 : a < b) (h2 : b < c) (h3 : c < d) : ([a, b, c, d] ++ cs).Nodup := by
  have q : ∀ z, a ≤ z → z ∉ cs := fun z hz hm => by have := hl z hm; omega
  show (a :: b :: c :: d :: cs).Nodup
  refine List.nodup_cons.mpr ⟨fun hm => ?_, List.nodup_cons.mpr ⟨fun hm => ?_, List.nodup_cons.mpr ⟨fun hm => ?_, List.nodup_cons.mpr ⟨fun hm => ?_, nd⟩⟩⟩⟩
  · simp only [List.mem_cons] at hm
    rcases hm with h | h | h | h
    · omega
    · omega
    · omega
    · exact q _ (Nat.le_refl _) h
  · simp only [List.mem_cons] at hm
    rcases hm with h | h | h
    · omega
    · omega
    · exact q _ (by omega) h
  · simp only [List.mem_cons] at hm
    rcases hm with h | h
    · omega
    · exact q _ (by omega) h
  · exact q _ (by omega) hm
theorem fc_start {h₀ h : Heap} {L ls li ds dn : Addr} {so no : Obj} {e1 e2 : Nat} (g : Good w F S G) (N : News h₀ L h ((dn, no) :: (ds, so) :: (li, listOf #[] e2) :: (ls, listOf #[] e1) :: canon w F S G))
    (l1 : ∀ p ∈ canon w F S G, p.1 < ls) (l2 : ls < li) (l3 : li < ds) (l4 : ds < dn) :
    News h₀ L h (canon w (fcF F ⟨ls, [], e1, li, [], e2, ds, so, dn, no⟩ []) S G) ∧ Good w (fcF F ⟨ls, [], e1, li, [], e2, ds, so, dn, no⟩ []) S G := by
  have e : fcF F ⟨ls, [], e1, li, [], e2, ds, so, dn, no⟩ [] = [(ls, listOf #[] e1), (li, listOf #[] e2), (ds, so), (dn, no)] ++ F := by simp [fcF]
  have pm : (canon w (fcF F ⟨ls, [], e1, li, [], e2, ds, so, dn, no⟩ []) S G).Perm ([(ls, listOf #[] e1), (li, listOf #[] e2), (ds, so), (dn, no)] ++ canon w F S G) := by rw [e]; exact canon_app_perm _ _
  refine ⟨fun p hp => N p ?_, ?_, g.dict, g.keys, g.lo⟩
  · have := pm.mem_iff.mp hp
    simp only [List.cons_append, List.nil_append, List.mem_cons] at this ⊢
    rcases this with h | h | h | h | h
    · exact .inr (.inr (.inr (.inl h)))
    · exact .inr (.inr (.inl h))
    · exact .inr (.inl h)
    · exact .inl h
    · exact .inr (.inr (.inr (.inr h)))
  · rw [(pm.map _).nodup_iff]
    have hl : ∀ b ∈ (canon w F S G).map (·.1), b < ls := fun b hb => by
      obtain ⟨q, hq, rfl⟩ := List.mem_map.mp hb
      exact l1 q hq
    have nd := g.nd
    rw [List.map_append]
    exact nodup4 nd hl l2 l3 l4
end
theorem map5 {m : Str → Option Value} {a b c d e : Str} {va vb vc vd ve : Value} (ha : m a = some va) (hb : m b = some vb) (hc : m c = some vc) (hd : m d = some vd) (he : m e = some ve) :
    m = fun y => if y = a then some va else if y = b then some vb else if y = c then some vc else if y = d then some vd else if y = e then some ve else m y := by
  funext y
  by_cases h1 : y = a
  · subst h1; simp [ha]
  by_cases h2 : y = b
  · subst h2; simp [h1, hb]
  by_cases h3 : y = c
  · subst h3; simp [h1, h2, hc]
  by_cases h4 : y = d
  · subst h4; simp [h1, h2, h3, hd]
  by_cases h5 : y = e
  · subst h5; simp [h1, h2, h3, h4, he]
  · simp [h1, h2, h3, h4, h5]
theorem frm5 {h₀ h : Heap} {L : Addr} {m : Str → Option Value} {a b c d e : Str} {va vb vc vd ve : Value} (F : Fr h₀ L h m) (ha : m a = some va) (hb : m b = some vb) (hc : m c = some vc) (hd : m d = some vd) (he : m e = some ve) :
    Fr h₀ L h (fun y => if y = a then some va else if y = b then some vb else if y = c then some vc else if y = d then some vd else if y = e then some ve else m y) := (map5 ha hb hc hd he) ▸ F
theorem frm6 {h₀ h : Heap} {L : Addr} {m : Str → Option Value} {x a b c d e : Str} {vx va vb vc vd ve : Value} (F : Fr h₀ L h (fun y => if y = x then some vx else m y)) (ha : m a = some va) (hb : m b = some vb) (hc : m c = some vc) (hd : m d = some vd) (he : m e = some ve) :
    Fr h₀ L h (fun y => if y = x then some vx else if y = a then some va else if y = b then some vb else if y = c then some vc else if y = d then some vd else if y = e then some ve else m y) := by
  have q : (fun y => if y = x then some vx else m y) = (fun y => if y = x then some vx else if y = a then some va else if y = b then some vb else if y = c then some vc else if y = d then some vd else if y = e then some ve else m y) := by
    funext y
    exact congrArg (fun z => if y = x then some vx else z) (congrFun (map5 ha hb hc hd he) y)
  exact q ▸ F

end
theorem reset43dfs : True := by
  k_with_none
  w_top off
  try (walk1; fail)
  exact True.intro
section
/-- the search in plain words: suc, the order fo of the finished, the stack with the top first -/
def Dealt (suc : Int → List Int) (fo : List Int) (u : Int) (i : Nat) : Prop := ∀ c y, c < i → (suc u)[c]? = some y → y ∈ fo
def Chain (suc : Int → List Int) (fo : List Int) : Int → List (Int × Nat) → Prop
  | _, [] => True
  | v, (u, i) :: r => ∃ i', i = i' + 1 ∧ (suc u)[i']? = some v ∧ Dealt suc fo u i' ∧ Chain suc fo u r
def StkOK (suc : Int → List Int) (fo : List Int) : List (Int × Nat) → Prop
  | [] => True
  | (u, i) :: r => Dealt suc fo u i ∧ Chain suc fo u r
structure DOK (suc : Int → List Int) (keys : List Int) (fo : List Int) (seen : Int → Bool) (n : Nat) (ts : List (Int × Nat)) : Prop where
  ord : ∀ a x, fo[a]? = some x → ∀ y ∈ suc x, y ∈ fo.take a
  mem : ∀ y, seen y = true ↔ y ∈ fo ∨ y ∈ ts.map (·.1)
  nd : (ts.map (·.1)).Nodup
  inK : ∀ y, seen y = true → y ∈ keys
  cnt : n + (keys.filter fun k => !seen k).length = keys.length
  le : ∀ u i, (u, i) ∈ ts → i ≤ (suc u).length
def Cyc (suc : Int → List Int) (keys : List Int) : Prop := ∃ C : List Int, C ≠ [] ∧ (∀ y ∈ C, y ∈ keys) ∧ ∀ y ∈ C, ∃ x ∈ C, y ∈ suc x
def Top9 (suc : Int → List Int) (keys : List Int) : Prop := ∃ fo : List Int, (∀ a x, fo[a]? = some x → ∀ y ∈ suc x, y ∈ fo.take a) ∧ (∀ y ∈ fo, y ∈ keys) ∧ ∀ k ∈ keys, k ∈ fo
def restOf (suc : Int → List Int) (ts : List (Int × Nat)) : Nat := (ts.map fun p => (suc p.1).length + 1 - p.2).sum
def openOf (suc : Int → List Int) (keys : List Int) (seen : Int → Bool) : Nat := ((keys.filter fun k => !seen k).map fun k => (suc k).length + 2).sum
def meas (suc : Int → List Int) (keys : List Int) (seen : Int → Bool) (ts : List (Int × Nat)) : Nat := openOf suc keys seen + restOf suc ts
section
variable {suc : Int → List Int} {keys fo : List Int} {seen : Int → Bool} {n : Nat} {ts : List (Int × Nat)} {u v : Int} {i : Nat}
theorem Dealt.mono {fo' : List Int} (h : Dealt suc fo u i) (hs : ∀ y ∈ fo, y ∈ fo') : Dealt suc fo' u i := fun c y hc hy => hs y (h c y hc hy)
theorem Chain.mono {fo' : List Int} (hs : ∀ y ∈ fo, y ∈ fo') : ∀ {ts : List (Int × Nat)} {v : Int}, Chain suc fo v ts → Chain suc fo' v ts
  | [], _, _ => trivial
  | (_, _) :: _, _, ⟨i', h1, h2, h3, h4⟩ => ⟨i', h1, h2, h3.mono hs, h4.mono hs⟩
theorem filt_drop (hk : keys.Nodup) (hv : v ∈ keys) (hs : seen v = false) : ∀ (f : Int → Nat), ((keys.filter fun k => !seen k).map f).sum = ((keys.filter fun k => !(seen k || decide (k = v))).map f).sum + f v := by
  intro f
  induction keys with
  | nil => cases hv
  | cons x xs ih =>
    rw [List.nodup_cons] at hk
    by_cases e : x = v
    · subst e
      have e1 : xs.filter (fun k => !(seen k || decide (k = x))) = xs.filter (fun k => !seen k) := by
        refine List.filter_congr fun y hy => ?_
        have : y ≠ x := fun q => hk.1 (q ▸ hy)
        simp [this]
      rw [List.filter_cons, List.filter_cons, e1]
      simp [hs]
      omega
    · have hv' : v ∈ xs := by
        rcases List.mem_cons.mp hv with h | h
        · exact absurd h.symm e
        · exact h
      have := ih hk.2 hv'
      rw [List.filter_cons, List.filter_cons]
      have e2 : (!(seen x || decide (x = v))) = !seen x := by simp [e]
      rw [e2]
      split
      · rw [List.map_cons, List.map_cons, List.sum_cons, List.sum_cons, this]; omega
      · exact this
theorem sum_ones : ∀ l : List Int, (l.map fun _ => 1).sum = l.length
  | [] => rfl
  | _ :: l => by rw [List.map_cons, List.sum_cons, sum_ones l, List.length_cons]; omega
theorem filt_len (hk : keys.Nodup) (hv : v ∈ keys) (hs : seen v = false) : (keys.filter fun k => !seen k).length = (keys.filter fun k => !(seen k || decide (k = v))).length + 1 := by
  have := filt_drop hk hv hs fun _ => 1
  rw [sum_ones, sum_ones] at this
  exact this
theorem open_drop (hk : keys.Nodup) (hv : v ∈ keys) (hs : seen v = false) : openOf suc keys seen = openOf suc keys (fun k => seen k || decide (k = v)) + ((suc v).length + 2) := filt_drop hk hv hs _
/-- a new node is put on the stack -/
theorem dok_push (h : DOK suc keys fo seen n ts) (hk : keys.Nodup) (hv : v ∈ keys) (hs : seen v = false) (hc : Chain suc fo v ts) :
    DOK suc keys fo (fun k => seen k || decide (k = v)) (n + 1) ((v, 0) :: ts) ∧ StkOK suc fo ((v, 0) :: ts) ∧ meas suc keys (fun k => seen k || decide (k = v)) ((v, 0) :: ts) < meas suc keys seen ts := by
  refine ⟨⟨h.ord, fun y => ?_, ?_, fun y hy => ?_, ?_, fun u i hm => ?_⟩, ⟨fun c y hc' _ => absurd hc' (Nat.not_lt_zero _), hc⟩, ?_⟩
  · rw [Bool.or_eq_true, h.mem y, decide_eq_true_eq, List.map_cons, List.mem_cons]
    constructor
    · rintro ((h | h) | h)
      · exact .inl h
      · exact .inr (.inr h)
      · exact .inr (.inl h)
    · rintro (h | h | h)
      · exact .inl (.inl h)
      · exact .inr h
      · exact .inl (.inr h)
  · rw [List.map_cons, List.nodup_cons]
    refine ⟨fun hm => ?_, h.nd⟩
    rw [(h.mem v).mpr (.inr hm)] at hs
    cases hs
  · rw [Bool.or_eq_true, decide_eq_true_eq] at hy
    rcases hy with hy | rfl
    · exact h.inK y hy
    · exact hv
  · have := h.cnt
    rw [filt_len hk hv hs] at this
    omega
  · rcases List.mem_cons.mp hm with e | hm
    · rw [Prod.mk.injEq] at e
      rw [e.2]; exact Nat.zero_le _
    · exact h.le u i hm
  · unfold meas restOf
    rw [open_drop hk hv hs, List.map_cons, List.sum_cons]
    dsimp only
    omega
/-- the pending node was finished before -/
theorem dok_old (h : DOK suc keys fo seen n ((u, i) :: ts)) (hs : seen v = true) (hn : v ∉ ((u, i) :: ts).map (·.1)) (hc : Chain suc fo v ((u, i) :: ts)) : StkOK suc fo ((u, i) :: ts) := by
  obtain ⟨i', rfl, h2, h3, h4⟩ := hc
  refine ⟨fun c y hci hy => ?_, h4⟩
  rcases Nat.lt_succ_iff_lt_or_eq.mp hci with hlt | rfl
  · exact h3 c y hlt hy
  · rw [h2] at hy
    cases hy
    rcases (h.mem v).mp hs with h | h
    · exact h
    · exact absurd h hn
/-- the top's next -/
theorem dok_next (h : DOK suc keys fo seen n ((u, i) :: ts)) (hs : StkOK suc fo ((u, i) :: ts)) (hx : (suc u)[i]? = some v) :
    DOK suc keys fo seen n ((u, i + 1) :: ts) ∧ Chain suc fo v ((u, i + 1) :: ts) ∧ meas suc keys seen ((u, i + 1) :: ts) < meas suc keys seen ((u, i) :: ts) := by
  have hlt : i < (suc u).length := (List.getElem?_eq_some_iff.mp hx).1
  refine ⟨⟨h.ord, fun y => h.mem y, h.nd, h.inK, h.cnt, fun u' i' hm => ?_⟩, ⟨i, rfl, hx, hs.1, hs.2⟩, ?_⟩
  · rcases List.mem_cons.mp hm with e | hm
    · rw [Prod.mk.injEq] at e
      rw [e.1, e.2]; exact hlt
    · exact h.le u' i' (.tail _ hm)
  · unfold meas restOf
    rw [List.map_cons, List.sum_cons, List.map_cons, List.sum_cons]
    dsimp only
    omega
/-- the top is finished -/
theorem dok_pop (h : DOK suc keys fo seen n ((u, i) :: ts)) (hs : StkOK suc fo ((u, i) :: ts)) (hx : (suc u)[i]? = none) :
    ∃ fo', DOK suc keys fo' seen n ts ∧ StkOK suc fo' ts ∧ meas suc keys seen ts < meas suc keys seen ((u, i) :: ts) := by
  have hle := h.le u i (.head _)
  have hge : (suc u).length ≤ i := List.getElem?_eq_none_iff.mp hx
  have hsub : ∀ y ∈ fo, y ∈ fo ++ [u] := fun y hy => List.mem_append_left _ hy
  refine ⟨fo ++ [u], ⟨fun a x hax y hy => ?_, fun y => ?_, ?_, h.inK, h.cnt, fun u' i' hm => h.le u' i' (.tail _ hm)⟩, ?_, ?_⟩
  · by_cases ha : a < fo.length
    · rw [List.getElem?_append_left ha] at hax
      have := h.ord a x hax y hy
      rw [List.take_append_of_le_length (Nat.le_of_lt ha)]
      exact this
    · have ha' : a = fo.length := by
        have := (List.getElem?_eq_some_iff.mp hax).1
        rw [List.length_append] at this
        simp at this
        omega
      subst ha'
      rw [List.getElem?_append_right (Nat.le_refl _)] at hax
      simp at hax
      subst hax
      rw [List.take_left]
      obtain ⟨c, hc, e⟩ := List.getElem_of_mem hy
      exact hs.1 c y (Nat.lt_of_lt_of_le hc hge) (List.getElem?_eq_some_iff.mpr ⟨hc, e⟩)
  · rw [h.mem y, List.map_cons, List.mem_cons, List.mem_append, List.mem_singleton]
    constructor
    · rintro (h | h | h)
      · exact .inl (.inl h)
      · exact .inl (.inr h)
      · exact .inr h
    · rintro ((h | h) | h)
      · exact .inl h
      · exact .inr (.inl h)
      · exact .inr (.inr h)
  · have := h.nd
    rw [List.map_cons, List.nodup_cons] at this
    exact this.2
  · cases ts with
    | nil => trivial
    | cons q r =>
      obtain ⟨u', i'⟩ := q
      obtain ⟨j, rfl, h2, h3, h4⟩ := hs.2
      refine ⟨fun c y hci hy => ?_, h4.mono hsub⟩
      rcases Nat.lt_succ_iff_lt_or_eq.mp hci with hlt | rfl
      · exact hsub y (h3 c y hlt hy)
      · rw [h2] at hy
        cases hy
        exact List.mem_append_right _ (.head _)
  · unfold meas restOf
    rw [List.map_cons, List.sum_cons]
    dsimp only
    omega
/-- the chain from the top down to a node on the stack -/
theorem chain_cyc : ∀ {ts : List (Int × Nat)} {v x : Int}, Chain suc fo v ts → x ∈ ts.map (·.1) → ∃ C : List Int, x ∈ C ∧ (∀ y ∈ C, y ∈ ts.map (·.1)) ∧ (∃ z ∈ C, v ∈ suc z) ∧ ∀ y ∈ C, y ≠ x → ∃ z ∈ C, y ∈ suc z
  | [], _, _, _, hx => nomatch hx
  | (u, i) :: r, v, x, ⟨i', _, h2, _, h4⟩, hx => by
    have hm := List.mem_of_getElem? h2
    by_cases e : u = x
    · subst e
      refine ⟨[u], .head _, fun y hy => ?_, ⟨u, .head _, hm⟩, fun y hy hne => absurd (List.mem_singleton.mp hy) hne⟩
      rw [List.mem_singleton.mp hy]; exact .head _
    · have hx' : x ∈ r.map (·.1) := by
        rw [List.map_cons] at hx
        rcases List.mem_cons.mp hx with h | h
        · exact absurd h.symm e
        · exact h
      obtain ⟨C, c1, c2, ⟨z, hz, hz2⟩, c4⟩ := chain_cyc h4 hx'
      refine ⟨u :: C, .tail _ c1, fun y hy => ?_, ⟨u, .head _, hm⟩, fun y hy hne => ?_⟩
      · rcases List.mem_cons.mp hy with rfl | hy
        · exact .head _
        · exact .tail _ (c2 y hy)
      · rcases List.mem_cons.mp hy with rfl | hy
        · exact ⟨z, .tail _ hz, hz2⟩
        · obtain ⟨z', hz', hz2'⟩ := c4 y hy hne
          exact ⟨z', .tail _ hz', hz2'⟩
theorem dok_cyc (h : DOK suc keys fo seen n ts) (hm : v ∈ ts.map (·.1)) (hc : Chain suc fo v ts) : Cyc suc keys := by
  obtain ⟨C, c1, c2, c3, c4⟩ := chain_cyc hc hm
  refine ⟨C, List.ne_nil_of_mem c1, fun y hy => h.inK y ((h.mem y).mpr (.inr (c2 y hy))), fun y hy => ?_⟩
  by_cases e : y = v
  · subst e; exact c3
  · exact c4 y hy e
theorem dok_end (h : DOK suc keys fo seen n []) (ha : ∀ k ∈ keys, seen k = true) : Top9 suc keys := by
  refine ⟨fo, h.ord, fun y hy => h.inK y ((h.mem y).mpr (.inl hy)), fun k hk => ?_⟩
  rcases (h.mem k).mp (ha k hk) with h | h
  · exact h
  · cases h
theorem dok_start : DOK suc keys [] (fun _ => false) 0 [] :=
  ⟨fun a x h => by simp at h, fun y => by simp, List.nodup_nil, fun y h => by simp at h, by simp, fun u i h => nomatch h⟩
end

end
theorem reset44fc : True := by
  k_with_none
  w_top off
  try (walk1; fail)
  exact True.intro
section
abbrev tsOf (P : List ER) : List (Int × Nat) := (P.map fun e => (e.nd, e.i)).reverse
/-- the frame and the ledger of the search -/
structure FcAt (w : World) (F : List (Addr × Obj)) (S : SR) (G : List NR) (ska ika sea nda : Addr) (P : List ER) (seen : Int → Bool) (n : Nat) (ep1 ep2 : Nat) (so no : Obj) (m : Str → Option Value) (news : List (Addr × Obj)) : Prop where
  led : news = canon w (fcF F ⟨ska, skV P, ep1, ika, ikV P, ep2, sea, so, nda, no⟩ P) S G
  good : Good w (fcF F ⟨ska, skV P, ep1, ika, ikV P, ep2, sea, so, nda, no⟩ P) S G
  set : so.SetObjOf (PySem.intKind PR w) seen n
  dct : no.IsDictOf (PySem.intKind PR w) (ndV P)
  v1 : m (Str.ofString "n2i") = some (.ref S.nx)
  v2 : m (Str.ofString "stack") = some (.ref ska)
  v3 : m (Str.ofString "itstack") = some (.ref ika)
  v4 : m (Str.ofString "seen") = some (.ref sea)
  v5 : m (Str.ofString "node2stacki") = some (.ref nda)
  lo : (nda == sysModules) = false
  nodes : ∀ e ∈ P, ∃ r ∈ G, r.key = e.nd ∧ r.l = e.l
  idx : ∀ (j : Nat) (e : ER), P[j]? = some e → e.ix = (j : Int)
inductive J0 (w : World) (F : List (Addr × Obj)) (S : SR) (G : List NR) (ls li sea nda : Addr) (i : Nat) (m : Str → Option Value) (news : List (Addr × Obj)) : Prop
  | mk (seen : Int → Bool) (n : Nat) (fo : List Int) (ep1 ep2 : Nat) (so no : Obj) (h : FcAt w F S G ls li sea nda [] seen n ep1 ep2 so no m news ∧ DOK (sucOf (absG G)) (G.map NR.key) fo seen n [] ∧ ∀ j k xv, j < i → (kvsOf G)[j]? = some (k, xv) → seen k = true) : J0 w F S G ls li sea nda i m news
inductive J1 (w : World) (F : List (Addr × Obj)) (S : SR) (G : List NR) (ls li sea nda : Addr) (seen : Int → Bool) (k : Int) (kk : Nat) (m : Str → Option Value) (news : List (Addr × Obj)) : Prop
  | mk (P : List ER) (seen' : Int → Bool) (n' : Nat) (fo' : List Int) (ep1 ep2 : Nat) (so no : Obj) (v : Int) (tv : Tok) (h : FcAt w F S G ls li sea nda P seen' n' ep1 ep2 so no m news ∧ m (Str.ofString "node") = some (.int v tv) ∧ v ∈ G.map NR.key ∧ DOK (sucOf (absG G)) (G.map NR.key) fo' seen' n' (tsOf P) ∧ Chain (sucOf (absG G)) fo' v (tsOf P) ∧
        (P = [] → seen' v = false) ∧ meas (sucOf (absG G)) (G.map NR.key) seen' (tsOf P) = kk ∧ (∀ y, seen y = true → seen' y = true) ∧ (seen' k = true ∨ v = k)) : J1 w F S G ls li sea nda seen k kk m news
inductive J2 (w : World) (F : List (Addr × Obj)) (S : SR) (G : List NR) (ls li sea nda : Addr) (seen : Int → Bool) (k : Int) (kk : Nat) (m : Str → Option Value) (news : List (Addr × Obj)) : Prop
  | mk (P : List ER) (seen' : Int → Bool) (n' : Nat) (fo' : List Int) (ep1 ep2 : Nat) (so no : Obj) (h : FcAt w F S G ls li sea nda P seen' n' ep1 ep2 so no m news ∧ DOK (sucOf (absG G)) (G.map NR.key) fo' seen' n' (tsOf P) ∧ StkOK (sucOf (absG G)) fo' (tsOf P) ∧
            meas (sucOf (absG G)) (G.map NR.key) seen' (tsOf P) ≤ kk ∧ (∀ y, seen y = true → seen' y = true) ∧ seen' k = true) : J2 w F S G ls li sea nda seen k kk m news
inductive J3 (w : World) (F : List (Addr × Obj)) (S : SR) (G : List NR) (ls li sea nda : Addr) (seen : Int → Bool) (k : Int) (kk k2 : Nat) (m : Str → Option Value) (news : List (Addr × Obj)) : Prop
  | mk (P : List ER) (seen' : Int → Bool) (n' : Nat) (fo' : List Int) (ep1 ep2 : Nat) (so no : Obj) (h : FcAt w F S G ls li sea nda P seen' n' ep1 ep2 so no m news ∧ DOK (sucOf (absG G)) (G.map NR.key) fo' seen' n' (tsOf P) ∧ StkOK (sucOf (absG G)) fo' (tsOf P) ∧
              meas (sucOf (absG G)) (G.map NR.key) seen' (tsOf P) = k2 ∧ meas (sucOf (absG G)) (G.map NR.key) seen' (tsOf P) ≤ kk ∧ (∀ y, seen y = true → seen' y = true) ∧ seen' k = true) : J3 w F S G ls li sea nda seen k kk k2 m news
theorem kvs_len (G : List NR) : (kvsOf G).length = G.length := by unfold kvsOf; simp
theorem kvs_get (G : List NR) (j : Nat) : (kvsOf G)[j]? = (G[j]?).map fun r => (r.key, Value.ref r.a) := by unfold kvsOf; simp
/-- how a statement may end: it goes on, or it returns -/
@[irreducible] def IfEnd (J : Shared → Prop) (Rt : Value → Shared → Prop) (f : Flow) (s : Shared) : Prop :=
  match f with
  | .next => J s
  | .ret v => Rt v s
  | _ => False
theorem ifEnd_next {J : Shared → Prop} {Rt : Value → Shared → Prop} {s : Shared} (h : J s) : IfEnd J Rt .next s := by unfold IfEnd; exact h
theorem ifEnd_ret {J : Shared → Prop} {Rt : Value → Shared → Prop} {s : Shared} {v : Value} (h : Rt v s) : IfEnd J Rt (.ret v) s := by unfold IfEnd; exact h
theorem ifEnd_elim {J : Shared → Prop} {Rt : Value → Shared → Prop} {s : Shared} {f : Flow} (h : IfEnd J Rt f s) : (f = .next ∧ J s) ∨ ∃ v, f = .ret v ∧ Rt v s := by
  unfold IfEnd at h
  cases f with
  | next => exact .inl ⟨rfl, h⟩
  | ret v => exact .inr ⟨v, rfl, h⟩
  | brk => exact h.elim
  | cont => exact h.elim
theorem nd_look {P : List ER} (v : Int) (hnd : (P.map ER.nd).Nodup) : (v ∉ P.map ER.nd ∧ valueAt (ndV P) v = none) ∨ ∃ e ∈ P, e.nd = v ∧ valueAt (ndV P) v = some (.int e.ix e.xt) := by
  by_cases h : v ∈ P.map ER.nd
  · right
    obtain ⟨e, he, rfl⟩ := List.mem_map.mp h
    refine ⟨e, he, rfl, ?_⟩
    clear h
    unfold valueAt ndV
    revert hnd he
    induction P with
    | nil => intro _ he; cases he
    | cons x P ih =>
      intro hnd he
      rw [List.map_cons, List.nodup_cons] at hnd
      rw [List.map_cons, List.find?_cons]
      by_cases q : x.nd = e.nd
      · rcases List.mem_cons.mp he with rfl | h
        · simp
        · exact absurd (q ▸ List.mem_map_of_mem h) hnd.1
      · simp only [q, decide_false]
        rcases List.mem_cons.mp he with rfl | h
        · exact absurd rfl q
        · exact ih hnd.2 h
  · left
    refine ⟨h, ?_⟩
    unfold valueAt ndV
    rw [Option.map_eq_none_iff, List.find?_eq_none]
    intro x hx
    obtain ⟨e, he, rfl⟩ := List.mem_map.mp hx
    simp only [decide_eq_true_eq]
    intro q
    exact h (q ▸ List.mem_map_of_mem he)
theorem nodup_rev {l : List Int} (h : l.reverse.Nodup) : l.Nodup := by
  have := (List.reverse_perm l).nodup_iff.mp h
  exact this
theorem nodup_len : ∀ {l k : List Int}, l.Nodup → (∀ y ∈ l, y ∈ k) → l.length ≤ k.length
  | [], _, _, _ => Nat.zero_le _
  | x :: l, k, h, hs => by
    rw [List.nodup_cons] at h
    have hx := hs x (.head _)
    have := nodup_len (k := k.erase x) h.2 fun y hy => by
      refine (List.mem_erase_of_ne fun e => ?_).mpr (hs y (.tail _ hy))
      exact h.1 (e ▸ hy)
    rw [List.length_erase_of_mem hx] at this
    have hp := List.length_pos_of_mem hx
    rw [List.length_cons]; omega
theorem pick_len (its : Array Value) (lo hi : Option Int) : (slicePick its lo hi none).toList.length ≤ its.size := by
  rw [kms_pick_eq]
  unfold kms_pick
  simp
  omega
theorem dok_old' {suc : Int → List Int} {keys fo : List Int} {seen : Int → Bool} {n : Nat} {ts : List (Int × Nat)} {v : Int} (h : DOK suc keys fo seen n ts) (hne : ts ≠ []) (hs : seen v = true) (hn : v ∉ ts.map (·.1)) (hc : Chain suc fo v ts) : StkOK suc fo ts := by
  cases ts with
  | nil => exact absurd rfl hne
  | cons q r => obtain ⟨u, i⟩ := q; exact dok_old h hs hn hc
theorem news_pick {h₀ h : Heap} {L : Addr} {x y z : Addr × Obj} {l : List (Addr × Obj)} (N : News h₀ L h (x :: y :: z :: l)) : News h₀ L h (x :: l) := by
  intro q hq
  rcases List.mem_cons.mp hq with h | h
  · exact N q (h ▸ .head _)
  · exact N q (.tail _ (.tail _ (.tail _ h)))
theorem news_cd {w : World} {F : List (Addr × Obj)} {S : SR} {G : List NR} {d : DS} {P : List ER} {x y : Addr × Obj} {h₀ h : Heap} {L : Addr} (N : News h₀ L h (y :: canon w (fcF (x :: F) d P) S G)) : News h₀ L h (y :: canon w F S G) := by
  intro q hq
  rcases List.mem_cons.mp hq with h | h
  · exact N q (h ▸ .head _)
  · exact news_out (news_drop (fun p hp => N p (.tail _ hp))) q h
theorem ts_nodes (P : List ER) : (tsOf P).map (·.1) = (P.map ER.nd).reverse := by simp [tsOf, List.map_reverse, Function.comp_def]
theorem frm1 {h₀ h : Heap} {L : Addr} {m : Str → Option Value} {a : Str} {va : Value} (F : Fr h₀ L h m) (ha : m a = some va) : Fr h₀ L h (fun y => if y = a then some va else m y) := by
  have e : m = (fun y => if y = a then some va else m y) := by
    funext y
    by_cases h : y = a
    · subst h; simp [ha]
    · simp [h]
  exact e ▸ F
theorem allLt_of {d : Addr} {l : List (Addr × Obj)} (h : AllLt d l) : ∀ p ∈ l, p.1 < d := fun _ hp => allLt_get h hp
local macro_rules | `(tactic| k_mem) => `(tactic| first | exact mem_fr mem_sk | exact mem_fr mem_ik | exact mem_fr mem_se | exact mem_fr mem_n2)
local macro_rules | `(tactic| walk_at "call builtin:len") => `(tactic| refine halt ?_)
local macro_rules | `(tactic| k_updF) => `(tactic| first | exact updSe (by assumption) | exact updN2 (by assumption))
section
variable {w : World} {A₀ : Around} {base h₀ g₀ : Heap} {outer : List Env} {L a : Addr} {cn : Str} {cs : Scope} {ccd : Value} {m mg mb : Str → Option Value} {p : Program} {loose : List Str} {mean : ExcName → Option Value} {s : Shared} {R : Result → Shared → Prop} {F : List (Addr × Obj)} {S : SR} {G : List NR}
/-- THE CONTRACT of _find_cycle -/
theorem fc_ok {A : Around} (B : Below A₀ base outer h₀) (F₀ : Fr h₀ L s.heap m) (X₀ : (Mine.hd.heap_39 w.params).In h₀) (N : News h₀ L s.heap (canon w F S G)) (T : Top p loose mean mg mb h₀) (XB : (Mine.hd.heap_39 w.params).In base) (TB : Top p loose mean mg mb base) (D : KtsDicts (outer.filterMap (·.frame)) h₀)
    (hA : A.frames = some (envOf cn cs L a ccd :: outer)) (hh : A.handled = none) (hke : cs.kind = .function) (hroom : A.depth < 700)
    (g : Good w F S G) (hsz : G.length ≤ 900) (hsk : ∀ x ∈ absG G, ∀ j ∈ x.2.2, j ∈ G.map NR.key)
    (hR : ∀ h' tk' h₀', KtsTurn (outer.filterMap (·.frame)) h₀ h₀' → Fr h₀' L h' m → News h₀' L h' (canon w F S G) → Below A₀ base outer h₀' → (Mine.hd.heap_39 w.params).In h₀' → Top p loose mean mg mb h₀' → KtsDicts (outer.filterMap (·.frame)) h₀' → Top9 (sucOf (absG G)) (G.map NR.key) → R (.ok (.ret .none)) { s with heap := h', toks := tk' })
    (hC : ∀ h' tk' h₀' c items ep, KtsTurn (outer.filterMap (·.frame)) h₀ h₀' → Fr h₀' L h' m → News h₀' L h' ((c, listOf items ep) :: canon w F S G) → Below A₀ base outer h₀' → (Mine.hd.heap_39 w.params).In h₀' → Top p loose mean mg mb h₀' → KtsDicts (outer.filterMap (·.frame)) h₀' → items ≠ #[] → items.size ≤ 2000 → Cyc (sucOf (absG G)) (G.map NR.key) → R (.ok (.ret (.ref c))) { s with heap := h', toks := tk' }) :
    codeAny (model PR w) A (.call (.ref 141) ⟨[.ref S.sx], []⟩) R s := by
  obtain ⟨hd, dp, fr, gs, u⟩ := A
  dsimp only at hA hh hroom
  subst hA hh
  obtain ⟨sx, dx, nx, on, t1, t2, t3, t4, rd, po, tp, fi, tf⟩ := S
  refine' code_defS B F₀ X₀ N T XB TB D KtsTurn.refl rfl ?k6 ?k7 ?k8 ?k9 ?kB ?_ ?c1 ?c2 ?c3 ?c4 ?c5
  case k6 => k_is
  case k7 => k_is
  case k8 => k_room
  case k9 => exact BindsTo.of_eq rfl
  case c5 => decide
  case kB => exact locs rfl
  case c1 => exact hke
  case c2 => exact rfl
  case c3 => exact rfl
  case c4 => exact rfl
  intro g' L' h' FG' F' N' B' X' T' D'; (try dsimp only); k_fold
  clear F₀ N
  k_with_none
  k_with "newList" => refine halt ?_
  w_strict k_steps
  refine unhalt ?_
  refine' newList_K ?k1 ?k2 ?_
  case k1 => assumption
  case k2 => assumption
  intro ls h8 F8 N8 q1
  k_sweep
  w_strict k_steps
  refine unhalt ?_
  refine' newList_K ?k1 ?k2 ?_
  case k1 => assumption
  case k2 => assumption
  intro li h9 F9 N9 q2
  k_sweep
  k_with_none
  k_with "exec For Name Name cons nil" => refine halt ?_
  k_with "call type:set nil nil" => (k_dflt (refine kse_new (by k_asm) (by k_asm) ?_); intro sea hq ledq F7 N7 l3 hs7 hz7)
  w_strict k_steps
  rename Obj.IsDictOf (PySem.intKind PR w) _ [] => hi7
  rename (_ == sysModules) = false => lo7
  rename News g' L' _ _ => N2
  rename Fr g' L' _ _ => F2
  rename _ < _ ∧ _ < _ ∧ _ < _ ∧ AllLt _ _ => q4
  rename Addr => nda
  rename Heap => h6
  obtain ⟨N3, g3⟩ := fc_start g N2 q1 (q2 _ (.head _)) (l3 _ (.head _)) q4.1
  refine unhalt ?_
  refine wpAny_For ?_ (fun _ => rfl)
  k_with "pyIter ref" => refine halt ?_
  clear N2
  w_strict k_steps
  refine unhalt ?_
  dsimp only
  have hl0 : (sea == sea) = true := by simp
  refine for_dict (A := ⟨none, dp, some (envOf cn cs L a ccd :: outer), gs, u⟩) (base := base) (outer := envOf cn cs L a ccd :: outer) (p := p) (loose := loose) (mean := mean) (mg := mg) (mb := mb) (g₁ := g') (fun i m₁ news₁ => J0 w F ⟨sx, dx, nx, on, t1, t2, t3, t4, rd, po, tp, fi, tf⟩ G ls li sea nda i m₁ news₁) rfl ?start ?keep g.dict g.lo ?turn ?done ?pass ?hk ?hl
  case hk => exact rfl
  case hl => exact rfl
  case pass => passes_own
  case start =>
    exact ⟨g', h6, _, _, _, rfl, KtsTurn.refl, F2, N3, B', X', T', D', _, _, [], _, _, _, _, ⟨rfl, g3, hs7, hi7, rfl, rfl, rfl, rfl, rfl, lo7, (fun _ h => nomatch h), fun j e h => by simp at h⟩, dok_start, fun j _ _ hj => absurd hj (Nat.not_lt_zero _)⟩
  case keep =>
    rintro i m₁ news₁ ⟨seen, n, fo, ep1, ep2, so, no, hf, _⟩
    rw [hf.led]
    exact mem_nx
  case done =>
    rintro s' ⟨g9, h9, tk9, m9, news9, rfl, T9, F9, N9, B9, X9, P9, D9, seen, n, fo, ep1, ep2, so, no, hf, hdok, hall⟩
    rw [hf.led] at N9
    have ht9 : Top9 (sucOf (absG G)) (G.map NR.key) := dok_end hdok fun k hk => by
      obtain ⟨r, hr, rfl⟩ := List.mem_map.mp hk
      obtain ⟨j, hj, e⟩ := List.getElem_of_mem hr
      refine hall j r.key (.ref r.a) (by rw [kvs_len]; exact hj) ?_
      rw [kvs_get, List.getElem?_eq_getElem hj, e]; rfl
    clear F2 N3 hf
    dsimp only
    w_strict k_steps
    exact hR _ _ _ (by assumption) (by assumption) (news_drop (by assumption)) (by assumption) (by assumption) (by assumption) (by assumption) ht9
  case turn =>
    rintro i k xv t m₁ news₁ g9 h9 tk9 I oI hkx ⟨seen, n, fo, ep1, ep2, so, no, ⟨rfl, gd, hset, hdct, v1, v2, v3, v4, v5, lo, hnodes, hidx⟩, hdok, hall⟩ hne T9 F9 N9 B9 X9 P9 D9
    replace F9 := frm6 F9 v1 v2 v3 v4 v5
    replace N9 := fc_in N9
    have gd' := fc_good_in (x := (I, oI)) gd hne
    have hkk : k ∈ G.map NR.key := by
      rw [kvs_get] at hkx
      cases e : G[i]? with
      | none => rw [e] at hkx; cases hkx
      | some r =>
        rw [e] at hkx
        have := congrArg Prod.fst (Option.some.inj hkx)
        exact List.mem_map.mpr ⟨r, List.mem_of_getElem? e, this⟩
    have hn9 : n < scanBound := by
      have := hdok.cnt
      rw [List.length_map] at this
      unfold scanBound
      omega
    clear F2 N3 gd
    k_with_none
    k_with "exec While" => refine halt ?_
    k_with "compareOp In int ref" => (k_dflt (first
      | (refine' kse_in (knd := PySem.intKind _ _) ?N ?U ?d ?z (intKind_is _ _ _ _) rfl ?_; (case N => k_asm); (case U => exact updSe (by assumption)); (case d => assumption); (case z => assumption))))
    w_strict k_steps
    · have hs1 : seen k = true := by assumption
      refine ⟨g9, h9, _, _, _, rfl, T9, F9, fc_out N9, B9, X9, P9, D9, _, rfl, (fc_good_out gd').2, seen, n, fo, ep1, ep2, so, no, ⟨rfl, (fc_good_out gd').1, hset, hdct, rfl, rfl, rfl, rfl, rfl, lo, hnodes, hidx⟩, hdok, ?_⟩
      intro j k' xv' hj hx
      rcases Nat.lt_succ_iff_lt_or_eq.mp hj with hj | rfl
      · exact hall j k' xv' hj hx
      · rw [hkx] at hx
        cases hx
        exact hs1
    · have hs1 : seen k = false := by assumption
      refine unhalt ?_
      refine while_ind (n := meas (sucOf (absG G)) (G.map NR.key) seen []) (fun kk s' => Turned w ⟨none, dp, some (envOf cn cs L a ccd :: outer), gs, u⟩ base (envOf cn cs L a ccd :: outer) p loose mean mg mb g' L' s (J1 w ((I, oI) :: F) ⟨sx, dx, nx, on, t1, t2, t3, t4, rd, po, tp, fi, tf⟩ G ls li sea nda seen k kk) s') ?start ?turn ?pass
      case pass => passes_own
      case start =>
        exact ⟨g9, h9, _, _, _, rfl, T9, F9, N9, B9, X9, P9, D9, [], seen, n, fo, ep1, ep2, so, no, k, t, ⟨rfl, gd', hset, hdct, rfl, rfl, rfl, rfl, rfl, lo, hnodes, hidx⟩, rfl, hkk, hdok, trivial, fun _ => hs1, rfl, fun _ h => h, .inr rfl⟩
      case turn =>
        clear F9 N9 gd' hset hdct hnodes hidx hdok hne v1 v2 v3 v4 v5 T9 B9 X9 P9 D9 hn9
        rintro kk s' ⟨g8, h8, tk8, m8, news8, rfl, T8, F8, N8, B8, X8, P8, D8, P, seen', n', fo', ep1, ep2, so, no, v, tv, ⟨rfl, gd8, hset8, hdct8, v1, v2, v3, v4, v5, lo8, nodes8, idx8⟩, hv, hvk, hdok8, hch, hemp, hms, hsub, hk8⟩
        replace F8 := frm6 (frm1 F8 hv) v1 v2 v3 v4 v5
        obtain ⟨r, hr1, hr2⟩ := List.mem_map.mp hvk
        have hva := valueAt_in gd8.keys hr1
        rw [hr2] at hva
        obtain ⟨rk, rra, rdd, rl, rkt, rnp, rnt, rsv, rep⟩ := r
        dsimp only at hr2 hva
        subst hr2
        have hn8 : n' < scanBound := by
          have := hdok8.cnt
          rw [List.length_map] at this
          unfold scanBound
          omega
        have hndP : (P.map ER.nd).Nodup := by
          have := hdok8.nd
          rw [ts_nodes] at this
          exact nodup_rev this
        have hPl : P.length ≤ 900 := by
          have := nodup_len hndP fun y hy => hdok8.inK y ((hdok8.mem y).mpr (.inr (by rw [ts_nodes]; exact List.mem_reverse.mpr hy)))
          rw [List.length_map, List.length_map] at this
          omega
        k_with_none
        k_with "exec If" => refine halt ?_
        w_strict k_steps
        refine unhalt ?_
        refine wpAny_mono (Q := IfEnd (Turned w ⟨none, dp, some (envOf cn cs L a ccd :: outer), gs, u⟩ base (envOf cn cs L a ccd :: outer) p loose mean mg mb g' L' s (J2 w ((I, oI) :: F) ⟨sx, dx, nx, on, t1, t2, t3, t4, rd, po, tp, fi, tf⟩ G ls li sea nda seen k kk))
          (fun v s' => Turned w ⟨none, dp, some (envOf cn cs L a ccd :: outer), gs, u⟩ base (envOf cn cs L a ccd :: outer) p loose mean mg mb g' L' s (fun m news => ∃ c items ep d P, v = .ref c ∧ news = (c, listOf items ep) :: canon w (fcF ((I, oI) :: F) d P) ⟨sx, dx, nx, on, t1, t2, t3, t4, rd, po, tp, fi, tf⟩ G ∧ items ≠ #[] ∧ items.size ≤ 2000 ∧ Cyc (sucOf (absG G)) (G.map NR.key)) s')) ?ifs ?wh (fun _ _ e => e)
        case ifs =>
          k_with_none
          k_with "compareOp In int ref" => (k_dflt (first
            | (refine' kse_in (knd := PySem.intKind _ _) ?N ?U ?d ?z (intKind_is _ _ _ _) rfl ?_; (case N => k_asm); (case U => exact updSe (by assumption)); (case d => assumption); (case z => assumption))
            | refine halt ?_))
          k_with "getMethod ref" => refine halt ?_
          w_strict k_steps
          · have hs2 : seen' rk = true := by assumption
            refine unhalt ?_
            rcases nd_look rk hndP with ⟨hni, hvn⟩ | ⟨e, he, hend, hvn⟩
            · refine kda_in (knd := PySem.intKind PR w) N8 (mem_fr mem_n2) hdct8 lo8 (intKind_is _ _ _ _) false (by rw [hvn]; rfl) ?_
              w_strict k_steps
              have hpn : P ≠ [] := fun e => by rw [hemp e] at hs2; cases hs2
              refine ifEnd_next ⟨g8, h8, _, _, _, rfl, T8, F8, N8, B8, X8, P8, D8, P, seen', n', fo', ep1, ep2, so, no, ⟨rfl, gd8, hset8, hdct8, rfl, rfl, rfl, rfl, rfl, lo8, nodes8, idx8⟩, hdok8, ?_, Nat.le_of_eq hms, hsub, ?_⟩
              · refine dok_old' hdok8 (fun e => hpn (by simpa [tsOf] using e)) hs2 ?_ hch
                rw [ts_nodes, List.mem_reverse]
                exact hni
              · rcases hk8 with h | h
                · exact h
                · exact h ▸ hs2
            · refine kda_in (knd := PySem.intKind PR w) N8 (mem_fr mem_n2) hdct8 lo8 (intKind_is _ _ _ _) true (by rw [hvn]; rfl) ?_
              k_with_none
              k_with "subscriptTail Name Slice ref ref" => refine halt ?_
              k_with "binaryOp Add ref ref" => refine halt ?_
              k_with "subscriptTail Name Name ref int" => (k_dflt (refine' kda_item (knd := PySem.intKind _ _) ?k1 ?k2 ?k3 (intKind_is _ _ _ _) ?k4 ?_; (case k1 => k_asm); (case k2 => exact mem_fr mem_n2); (case k3 => assumption); (case k4 => assumption); k_whole))
              w_strict k_steps
              refine unhalt ?_
              refine' kmk_slice (its := (vals (skV P)).toArray) ?sF ?sN ?sl ?sp ?sq ?_ ?ss ?st ?sz
              case sF => k_asm
              case sN => k_asm
              case sl => exact News.isList (items := (vals (skV P)).toArray) N8 (mem_fr mem_sk)
              case sp => kmk_part
              case sq => kmk_part
              case ss => with_unfolding_all rfl
              case st => kmk_pure
              case sz => simp only [vals, skV, List.size_toArray, List.length_map]; rw [sizeLine_eq]; omega
              intro D1 h7 F7 N7 l7
              k_sweep
              w_strict k_steps
              refine unhalt ?_
              refine' kmk_add_lit ?aF ?aN ?aa ?ab ?ae ?_ ?az
              case aF => k_asm
              case aN => k_asm
              case aa => exact News.isList (by k_asm) (.tail _ (.head _))
              case ab => exact News.isList (by k_asm) (.head _)
              case ae => exact rfl
              case az =>
                have hq : (slicePick (vals (skV P)).toArray (some e.ix) none none).toList.length ≤ P.length := Nat.le_trans (pick_len _ _ _) (by simp [vals, skV])
                refine Nat.le_trans (Nat.add_le_add_right hq _) ?_
                rw [sizeLine_eq]
                show P.length + 1 ≤ _
                omega
              intro D2 h6 F6 N6 l6
              k_sweep
              w_strict k_steps
              refine ifEnd_ret ⟨g8, h6, _, _, _, rfl, T8, F6, news_pick N6, B8, X8, P8, D8, D2, _, _, _, P, rfl, rfl, ?_, ?_, dok_cyc hdok8 (v := rk) ?_ hch⟩
              · intro h
                have := congrArg Array.size h
                simp at this
              · have hq : (slicePick (vals (skV P)).toArray (some e.ix) none none).toList.length ≤ P.length := Nat.le_trans (pick_len _ _ _) (by simp [vals, skV])
                rw [List.size_toArray, List.length_append]
                show _ + 1 ≤ _
                omega
              · rw [ts_nodes, List.mem_reverse, ← hend]
                exact List.mem_map_of_mem he
          · have hs2 : seen' rk = false := by assumption
            refine unhalt ?_
            refine kse_method (knd := PySem.intKind PR w) N8 (updSe gd8) hset8 hn8 ?_
            have hn8' : n' + 1 < scanBound := by
              have h1 := hdok8.cnt
              rw [List.length_map] at h1
              unfold scanBound
              omega
            k_with_none
            k_with "call builtin:set.add" => refine halt ?_
            w_strict k_steps
            refine unhalt ?_
            refine kse_add (knd := PySem.intKind PR w) (by k_asm) (by k_asm) (updSe gd8) hset8 hn8' (intKind_is _ _ _ _) rfl ?_
            intro h7 so' F7 N7 hset7
            rw [hs2, if_neg (by decide)] at hset7
            have gd7 := good_d (xs := skV P) (ep1 := ep1) (us := ikV P) (ep2 := ep2) (so := so') (no := no) gd8
            dsimp only at gd7 N7
            k_sweep
            clear gd8 hset8
            k_with_none
            k_with "call builtin:iter" => refine halt ?_
            w_strict k_steps
            refine unhalt ?_
            refine iter_listK (by k_asm) (by k_asm) (mem_lst hr1) ?_
            intro I2 h6 F6 N6 l6
            k_sweep
            refine get_nextK (by k_asm) (by k_asm) (.head _) ?_
            intro u2 h5 F5 N5 l5
            k_sweep
            have hskl : (skV P).length ≤ 900 := by simp only [skV, List.length_map]; exact hPl
            have hnl : (ndV P).length ≤ sizeLine := by simp only [ndV, List.length_map]; rw [sizeLine_eq]; omega
            have hnI : rk ∉ P.map ER.nd := fun h => by
              rw [(hdok8.mem rk).mpr (.inr (by rw [ts_nodes]; exact List.mem_reverse.mpr h))] at hs2
              cases hs2
            have hvn : valueAt (ndV P) rk = none := by
              rcases nd_look rk hndP with ⟨_, h⟩ | ⟨e, he, h1, _⟩
              · exact h
              · exact absurd (h1 ▸ List.mem_map_of_mem he) hnI
            k_with_none
            k_with "call builtin:list.append" => refine halt ?_
            w_strict k_steps
            refine unhalt ?_
            refine append_K (by k_asm) (by k_asm) (Upd.tail (Nat.ne_of_gt (l5 _ (.tail _ (mem_fr mem_ik)))) (Upd.tail (Nat.ne_of_gt (l6 _ (mem_fr mem_ik))) (updIkPush gd7))) ?_ (by simp only [ikV, List.size_toArray, List.length_map]; rw [sizeLine_eq]; omega)
            intro h4 F4 N4
            k_sweep
            have gd4 := good_d (xs := skV P) (ep1 := ep1) (us := ikV P ++ [.ref u2]) (ep2 := ep2 + 1) (so := so') (no := no) gd7
            dsimp only at gd4 N4
            k_with_none
            k_with "call builtin:len" => refine halt ?_
            w_strict k_steps
            refine unhalt ?_
            refine kun_lenL (News.isList (items := (vals (skV P)).toArray) (by k_asm) (.tail _ (.tail _ (mem_fr mem_sk)))) (k := ((skV P).length : Int)) (vals_size _) (by omega) ?_
            k_with_none
            k_with "setItem ref int" => refine halt ?_
            w_strict k_steps
            refine unhalt ?_
            refine kda_set (knd := PySem.intKind PR w) (by k_asm) (by k_asm) (UpdF.tail (Nat.ne_of_gt (l5 _ (.tail _ (mem_fr mem_n2)))) (UpdF.tail (Nat.ne_of_gt (l6 _ (mem_fr mem_n2))) (updN2 gd4))) hdct8 (intKind_is _ _ _ _) hnl ?_
            intro h3 no' F3 N3 hdct3
            rw [stored_absent hvn, show (skV P).length = P.length from List.length_map ..] at hdct3
            obtain ⟨xt, hdct3⟩ : ∃ xt, no'.IsDictOf (PySem.intKind PR w) (ndV P ++ [(rk, .int (P.length : Int) xt)]) := ⟨_, hdct3⟩
            have gd3 := good_d (xs := skV P) (ep1 := ep1) (us := ikV P ++ [.ref u2]) (ep2 := ep2 + 1) (so := so') (no := no') gd4
            dsimp only at gd3 N3
            k_sweep
            k_with_none
            k_with "call builtin:list.append" => refine halt ?_
            w_strict k_steps
            refine unhalt ?_
            refine append_K (by k_asm) (by k_asm) (Upd.tail (Nat.ne_of_gt (l5 _ (.tail _ (mem_fr mem_sk)))) (Upd.tail (Nat.ne_of_gt (l6 _ (mem_fr mem_sk))) (updSkPush gd3))) ?_ (by simp only [vals, skV, List.size_toArray, List.length_map]; rw [sizeLine_eq]; omega)
            intro h2 F2 N2
            k_sweep
            have gd2 := good_d (xs := skV P ++ [(rk, tv)]) (ep1 := ep1 + 1) (us := ikV P ++ [.ref u2]) (ep2 := ep2 + 1) (so := so') (no := no') gd3
            dsimp only at gd2 N2
            k_with_none
            w_strict k_steps
            have es : skV (P ++ [⟨rk, tv, (P.length : Int), xt, u2, I2, rl, 0⟩]) = skV P ++ [(rk, tv)] := by simp [skV]
            have ei : ikV (P ++ [⟨rk, tv, (P.length : Int), xt, u2, I2, rl, 0⟩]) = ikV P ++ [.ref u2] := by simp [ikV]
            have en : ndV (P ++ [⟨rk, tv, (P.length : Int), xt, u2, I2, rl, 0⟩]) = ndV P ++ [(rk, .int (P.length : Int) xt)] := by simp [ndV]
            have et : tsOf (P ++ [⟨rk, tv, (P.length : Int), xt, u2, I2, rl, 0⟩]) = (rk, 0) :: tsOf P := by simp [tsOf]
            obtain ⟨p1, p2, p3⟩ := dok_push hdok8 gd2.keys (List.mem_map_of_mem (f := NR.key) hr1) hs2 hch
            have gd1 := good_push (e := ⟨rk, tv, (P.length : Int), xt, u2, I2, rl, 0⟩) gd2 (l5 _ (.head _)) (lt_d l6)
            refine ifEnd_next ⟨g8, h2, _, _, _, rfl, T8, F2, news_push (e := ⟨rk, tv, (P.length : Int), xt, u2, I2, rl, 0⟩) N2, B8, X8, P8, D8, P ++ [⟨rk, tv, (P.length : Int), xt, u2, I2, rl, 0⟩], _, _, fo', ep1 + 1, ep2 + 1, so', no', ⟨by rw [es, ei], by rw [es, ei]; exact gd1, hset7, by rw [en]; exact hdct3, rfl, rfl, rfl, rfl, rfl, lo8, ?_, ?_⟩, by rw [et]; exact p1, by rw [et]; exact p2, by rw [et, ← hms]; exact Nat.le_of_lt p3, ?_, ?_⟩
            · intro e he
              rcases List.mem_append.mp he with h | h
              · exact nodes8 e h
              · rw [List.mem_singleton.mp h]
                exact ⟨_, hr1, rfl, rfl⟩
            · intro j e he
              by_cases hj : j < P.length
              · rw [List.getElem?_append_left hj] at he
                exact idx8 j e he
              · have hlt := (List.getElem?_eq_some_iff.mp he).1
                rw [List.length_append] at hlt
                simp only [List.length_cons, List.length_nil] at hlt
                have : j = P.length := by omega
                subst this
                rw [List.getElem?_append_right (Nat.le_refl _), Nat.sub_self] at he
                cases he
                rfl
            · intro y hy
              rw [hsub y hy]; rfl
            · rcases hk8 with h | h
              · rw [h]; rfl
              · subst h; simp
        case wh =>
          clear F8 gd8 hset8 hdct8 nodes8 idx8 hdok8 hch hemp hms hsub hk8 hv v1 v2 v3 v4 v5 lo8 hr1 hva hn8 hndP hPl T8 B8 X8 P8 D8
          intro f s' hf
          rcases ifEnd_elim hf with ⟨rfl, g7, h7, tk7, m7, news7, rfl, T7, F7, N7, B7, X7, P7, D7, hJ⟩ | ⟨v, rfl, g7, h7, tk7, m7, news7, rfl, T7, F7, N7, B7, X7, P7, D7, c, items, ep, d, P, rfl, rfl, hit, hsz2, hcyc⟩
          · dsimp only
            k_with_none
            k_with "exec While" => refine halt ?_
            w_strict k_steps
            refine unhalt ?_
            obtain ⟨P, seen', n', fo', ep1, ep2, so, no, hJ⟩ := hJ
            refine while_ind (n := meas (sucOf (absG G)) (G.map NR.key) seen' (tsOf P)) (fun k2 s' => Turned w ⟨none, dp, some (envOf cn cs L a ccd :: outer), gs, u⟩ base (envOf cn cs L a ccd :: outer) p loose mean mg mb g' L' s (J3 w ((I, oI) :: F) ⟨sx, dx, nx, on, t1, t2, t3, t4, rd, po, tp, fi, tf⟩ G ls li sea nda seen k kk k2) s') ?wstart ?wturn ?wpass
            case wpass => passes_own
            case wstart => exact ⟨g7, h7, _, _, _, rfl, T7, F7, N7, B7, X7, P7, D7, P, seen', n', fo', ep1, ep2, so, no, hJ.1, hJ.2.1, hJ.2.2.1, rfl, hJ.2.2.2⟩
            case wturn =>
              clear F7 N7 T7 B7 X7 P7 D7 hJ hf
              rintro k2 s' ⟨g6, h6, tk6, m6, news6, rfl, T6, F6, N6, B6, X6, P6, D6, P, seen', n', fo', ep1, ep2, so, no, ⟨rfl, gd6, hset6, hdct6, v1, v2, v3, v4, v5, lo6, nodes6, idx6⟩, hdok6, hstk6, hms6, hle6, hsub6, hk6⟩
              replace F6 := frm5 F6 v1 v2 v3 v4 v5
              have hndP : (P.map ER.nd).Nodup := by
                have := hdok6.nd
                rw [ts_nodes] at this
                exact nodup_rev this
              have hPl : P.length ≤ 900 := by
                have := nodup_len hndP fun y hy => hdok6.inK y ((hdok6.mem y).mpr (.inr (by rw [ts_nodes]; exact List.mem_reverse.mpr hy)))
                rw [List.length_map, List.length_map] at this
                omega
              k_with_none
              k_with "truthy ref" => refine halt ?_
              w_strict k_steps
              refine unhalt ?_
              refine wpAny_truthy_list (News.isList (items := (vals (skV P)).toArray) N6 (mem_fr mem_sk)) (by rw [vals_size]; simp only [skV, List.length_map]; omega) ?_
              rcases List.eq_nil_or_concat P with rfl | ⟨P0, e, hPe⟩
              · refine WhlIf.no rfl ?_
                w_strict k_steps
                dsimp only [Again]
                w_strict k_steps
                refine ⟨g6, h6, _, _, _, rfl, T6, F6, fc_out N6, B6, X6, P6, D6, _, rfl, (fc_good_out gd6).2, seen', n', fo', ep1, ep2, so, no, ⟨rfl, (fc_good_out gd6).1, hset6, hdct6, rfl, rfl, rfl, rfl, rfl, lo6, nodes6, idx6⟩, hdok6, ?_⟩
                intro j k' xv' hj hx
                rcases Nat.lt_succ_iff_lt_or_eq.mp hj with hj | rfl
                · exact hsub6 _ (hall j k' xv' hj hx)
                · rw [hkx] at hx
                  cases hx
                  exact hk6
              · rw [List.concat_eq_append] at hPe
                subst hPe
                refine WhlIf.yes (by simp [vals, skV]) ?_
                have eiP : ikV (P0 ++ [e]) = ikV P0 ++ [.ref e.u] := by simp [ikV]
                k_with_none
                k_with "subscriptTail Name UnaryOp ref int" => refine halt ?_
                w_strict k_steps
                refine unhalt ?_
                refine kim_back N6 (mem_fr mem_ik) rfl (l := ikV (P0 ++ [e])) rfl (x := .ref e.u) (by decide) ?_ (by decide) ?_ ?_
                · simp [ikV]; omega
                · rw [show (-1 + ((ikV (P0 ++ [e])).length : Int)).toNat = (ikV P0).length from by rw [eiP]; simp; omega, eiP, List.getElem?_append_right (Nat.le_refl _), Nat.sub_self]
                  rfl
                k_with_none
                k_with "callWith" => refine halt ?_
                k_with "callWith ref" => refine halt ?_
                w_strict k_steps
                refine unhalt ?_
                have heP : e ∈ P0 ++ [e] := List.mem_append_right _ (.head _)
                refine callWith_next (N6 _ (mem_fr (mem_eu heP))).1 ?_
                obtain ⟨r, hr1, hr2, hr3⟩ := nodes6 e heP
                have hlm := mem_lst (w := w) (F := fcF ((I, oI) :: F) ⟨ls, skV (P0 ++ [e]), ep1, li, ikV (P0 ++ [e]), ep2, sea, so, nda, no⟩ (P0 ++ [e])) (S := ⟨sx, dx, nx, on, t1, t2, t3, t4, rd, po, tp, fi, tf⟩) hr1
                rw [hr3] at hlm
                have etP : tsOf (P0 ++ [e]) = (e.nd, e.i) :: tsOf P0 := by simp [tsOf]
                have hsuc : sucOf (absG G) e.nd = r.sv.map (·.1) := by rw [← hr2]; exact sucOf_abs gd6.keys hr1
                rw [etP] at hdok6 hstk6 hms6 hle6
                cases hx : (vals r.sv).toArray[e.i]? with
                | some x =>
                  obtain ⟨q, hq, rfl⟩ := vals_get hx
                  have hq' : (sucOf (absG G) e.nd)[e.i]? = some q.1 := by rw [hsuc, List.getElem?_map, hq]; rfl
                  refine next_item (by k_asm) N6 (mem_fr (mem_eu heP)) hlm (updTop gd6 rfl) hx ?_
                  intro h5 F5 N5
                  have gd5 := good_top (i' := e.i + 1) gd6
                  k_sweep
                  k_with_none
                  w_strict k_steps
                  dsimp only [Again]
                  w_strict k_steps
                  rename News g6 L' _ _ => N4
                  rename Fr g6 L' _ _ => F4
                  obtain ⟨p1, p2, p3⟩ := dok_next hdok6 hstk6 hq'
                  have es : skV (P0 ++ [{ e with i := e.i + 1 }]) = skV (P0 ++ [e]) := by simp [skV]
                  have ei : ikV (P0 ++ [{ e with i := e.i + 1 }]) = ikV (P0 ++ [e]) := by simp [ikV]
                  have en : ndV (P0 ++ [{ e with i := e.i + 1 }]) = ndV (P0 ++ [e]) := by simp [ndV]
                  have et : tsOf (P0 ++ [{ e with i := e.i + 1 }]) = (e.nd, e.i + 1) :: tsOf P0 := by simp [tsOf]
                  refine ⟨_, Nat.lt_of_lt_of_le p3 hle6, g6, _, _, _, _, rfl, T6, F4, N4, B6, X6, P6, D6, P0 ++ [{ e with i := e.i + 1 }], seen', n', fo', ep1, ep2, so, no, q.1, q.2, ⟨by rw [es, ei], by rw [es, ei]; exact gd5, hset6, by rw [en]; exact hdct6, rfl, rfl, rfl, rfl, rfl, lo6, ?_, ?_⟩, rfl, ?_, by rw [et]; exact p1, by rw [et]; exact p2, fun h => ?_, by rw [et], hsub6, .inl hk6⟩
                  · intro e' he'
                    rcases List.mem_append.mp he' with h | h
                    · exact nodes6 e' (List.mem_append_left _ h)
                    · rw [List.mem_singleton.mp h]
                      exact ⟨r, hr1, hr2, hr3⟩
                  · intro j e' he'
                    by_cases hj : j < P0.length
                    · rw [List.getElem?_append_left hj] at he'
                      exact idx6 j e' (by rw [List.getElem?_append_left hj]; exact he')
                    · have hlt := (List.getElem?_eq_some_iff.mp he').1
                      rw [List.length_append] at hlt
                      simp only [List.length_cons, List.length_nil] at hlt
                      have : j = P0.length := by omega
                      subst this
                      rw [List.getElem?_append_right (Nat.le_refl _), Nat.sub_self] at he'
                      cases he'
                      exact idx6 P0.length e (by rw [List.getElem?_append_right (Nat.le_refl _), Nat.sub_self]; rfl)
                  · refine hsk r.abs (List.mem_map_of_mem hr1) q.1 ?_
                    exact List.mem_map_of_mem (List.mem_of_getElem? hq)
                  · simp at h
                | none =>
                  have hq' : (sucOf (absG G) e.nd)[e.i]? = none := by
                    rw [hsuc, List.getElem?_map]
                    simp only [vals, List.getElem?_toArray, List.getElem?_map, Option.map_eq_none_iff] at hx
                    rw [hx]; rfl
                  refine next_end2 rfl (by k_asm) N6 (mem_fr (mem_eu heP)) hlm (mem_fr (mem_eI heP)) (pop_sub gd6) hx ?_
                  intro h5 h4 ex F5 N5 hnew
                  have gd5 := good_pop gd6
                  k_with_none
                  refine caught_new (X := "StopIteration") (T' := "StopIteration") hnew F5 N5 B6 XB TB D6 T6 (by k_is) (by boot_by_name) (by decide) (by rw [isSubtype_type]; kernel_rfl) (by rw [isSubtype_type]; kernel_rfl) (by rw [isSubtype_type]; kernel_rfl) ?_
                  intro h3 g3 T3 F3 N3 B3 X3 P3 D3
                  clear F6 N6 F5 N5 gd6 hnew hlm B6 X6 P6 D6 T6
                  have esP : vals (skV (P0 ++ [e])) = vals (skV P0) ++ [.int e.nd e.nt] := by simp [skV, vals]
                  have enP : ndV (P0 ++ [e]) = ndV P0 ++ [(e.nd, .int e.ix e.xt)] := by simp [ndV]
                  have hni : e.nd ∉ P0.map ER.nd := by
                    intro h
                    rw [List.map_append, List.nodup_append] at hndP
                    exact hndP.2.2 _ h _ (.head _) rfl
                  have hvd : valueAt (ndV (P0 ++ [e])) e.nd = some (.int e.ix e.xt) := by
                    rcases nd_look e.nd hndP with ⟨h, _⟩ | ⟨e', he', h1, h2⟩
                    · exact absurd (List.mem_map_of_mem heP) h
                    · have : e' = e := by
                        rcases List.mem_append.mp he' with h | h
                        · exact absurd (h1 ▸ List.mem_map_of_mem h) hni
                        · exact List.mem_singleton.mp h
                      rw [this] at h2
                      exact h2
                  k_with_none
                  k_with "call builtin:list.pop" => refine halt ?_
                  k_with "delItem ref int" => refine halt ?_
                  w_strict k_steps
                  refine unhalt ?_
                  refine kl_pop (its := (vals (skV (P0 ++ [e]))).toArray) (by k_asm) (by k_asm) (p := vals (skV P0)) (y := .int e.nd e.nt) (by show kl_last (vals (skV (P0 ++ [e]))) = _; rw [esP]; exact kpa_last _ _) (updSk gd5) (by show (vals (skV (P0 ++ [e]))).length ≤ _; rw [sizeLine_eq]; simp only [vals, skV, List.length_map]; omega) ?_
                  intro h2 F2 N2
                  have gd2 := good_d (xs := skV P0) (ep1 := ep1 + 1) (us := ikV (P0 ++ [e])) (ep2 := ep2) (so := so) (no := no) gd5
                  dsimp only at gd2 N2
                  k_sweep
                  refine kob_del (knd := PySem.intKind PR w) (by k_asm) (by k_asm) (updN2 gd2) hdct6 (intKind_is _ _ _ _) (by rw [hvd]; rfl) (by rw [sizeLine_eq]; simp only [ndV, List.length_map]; omega) ?_
                  intro h1 no' F1 N1 hdct1
                  have hw : without (ndV (P0 ++ [e])) e.nd = ndV P0 := by
                    rw [enP]
                    unfold without
                    rw [List.filter_append]
                    have q1 : (ndV P0).filter (fun kv => decide (kv.1 ≠ e.nd)) = ndV P0 := by
                      refine List.filter_eq_self.mpr fun x hx => ?_
                      obtain ⟨e', he', rfl⟩ := List.mem_map.mp hx
                      simp only [decide_eq_true_eq]
                      intro h
                      exact hni (h ▸ List.mem_map_of_mem he')
                    rw [q1]
                    simp
                  rw [hw] at hdct1
                  have gd1 := good_d (xs := skV P0) (ep1 := ep1 + 1) (us := ikV (P0 ++ [e])) (ep2 := ep2) (so := so) (no := no') gd2
                  dsimp only at gd1 N1
                  k_sweep
                  k_with_none
                  k_with "call builtin:list.pop" => refine halt ?_
                  w_strict k_steps
                  refine unhalt ?_
                  refine kl_pop (its := (ikV (P0 ++ [e])).toArray) (by k_asm) (by k_asm) (p := ikV P0) (y := .ref e.u) (by show kl_last (ikV (P0 ++ [e])) = _; rw [eiP]; exact kpa_last _ _) (updIk gd1) (by show (ikV (P0 ++ [e])).length ≤ _; rw [sizeLine_eq]; simp only [ikV, List.length_map]; omega) ?_
                  intro h0 F0 N0
                  have gd0 := good_d (xs := skV P0) (ep1 := ep1 + 1) (us := ikV P0) (ep2 := ep2 + 1) (so := so) (no := no') gd1
                  dsimp only at gd0 N0
                  k_sweep
                  k_with_none
                  w_strict k_steps
                  dsimp only [Again]
                  obtain ⟨fo2, p1, p2, p3⟩ := dok_pop hdok6 hstk6 hq'
                  refine ⟨_, by rw [← hms6]; exact p3, g3, h0, _, _, _, rfl, T3, F0, N0, B3, X3, P3, D3, P0, seen', n', fo2, ep1 + 1, ep2 + 1, so, no', ⟨rfl, gd0, hset6, hdct1, rfl, rfl, rfl, rfl, rfl, lo6, fun e' he' => nodes6 e' (List.mem_append_left _ he'), fun j e' he' => idx6 j e' ?_⟩, p1, p2, rfl, Nat.le_trans (Nat.le_of_lt p3) hle6, hsub6, hk6⟩
                  rw [List.getElem?_append_left (List.getElem?_eq_some_iff.mp he').1]
                  exact he'
          · dsimp only [Again]
            w_strict k_steps
            exact hC _ _ _ c items ep (by assumption) (by assumption) (news_cd (by assumption)) (by assumption) (by assumption) (by assumption) (by assumption) hit hsz2 hcyc
end

end
theorem reset45comp : True := by
  k_with_none
  w_top off
  try (walk1; fail)
  exact True.intro
section
open PyProof.Rows.LCg PyProof.Rows.LCt
section
variable {w : World} {A : Around} {E : Value → Shared → Prop} {s : Shared} {h₀ : Heap} {L : Addr} {m : Str → Option Value} {env : Env}
/-- a list comprehension with one test over a dict's values -/
def CompSrcV (w : World) (A : Around) (h₀ : Heap) (L : Addr) (m : Str → Option Value) (env : Env) (ct elt : PySem.Expr) (x : Str) (scope : Scope) (cl : List (Str × Addr)) (Q : Value → Shared → Prop) (xv : Value) (s₁ : Shared) : Prop :=
  ∃ v d o kvs news, xv = .ref v ∧ A.handled = none ∧ Fr h₀ L s₁.heap m ∧ News h₀ L s₁.heap news ∧ s₁.heap.IsValuesView v d ∧ (d, o) ∈ news ∧ o.IsDictOf (PySem.intKind PR w) kvs ∧ kvs.length ≤ sizeLine ∧
    ∀ s₂ : Shared, (∃ h, s₂ = { s₁ with heap := h }) → CompRestT PR w A h₀ L m env ct elt x scope cl s₂ (fun nw => (d, o) ∈ nw) (fun i y => ∃ k, kvs[i]? = some (k, y)) (FinE h₀ L m s₂ Q) kvs.length 0 [] news
theorem ListComp_V {ct elt iter : PySem.Expr} {x : Str} {px : Pos} {scope : Scope} {cl : List (Str × Addr)} {pos : Pos} {Q : Value → Shared → Prop} (F₀ : Fr h₀ L s.heap m)
    (hclos : closureFor scope env = pure cl) (hcell : ∀ y ∈ scope.names, y.2 ≠ .cell) (hkind : scope.kind = .function)
    (hnames : ∀ y ∈ scope.names, y.2 = .local → scope.names.lookup y.1 = some .local) (hx : scope.names.lookup x = some .local)
    (h : wpAny (model PR w) A (eval iter env) (CompSrcV w A h₀ L m env ct elt x scope cl Q) E s)
    (hs : ∀ x, foldedSetIterable iter env x = pure x) :
    wpAny (model PR w) A (eval (.ListComp elt [⟨.Name x px, iter, [ct], 0⟩] scope pos) env) Q E s := by
  rw [eval_ListComp]
  refine wpAny_comprehension_free (use := none) rfl hs hclos hkind hnames (wpAny_mono h (fun xv s₁ h₁ => ?_) fun _ _ e => e)
  obtain ⟨v, d, o, kvs, news, rfl, hh, F, N, hv, hm, hd, hsz, R⟩ := h₁
  obtain ⟨ep, hat⟩ := (Heap.dictOf_iff.mpr ⟨o, (N _ hm).1, hd⟩ : s₁.heap.DictOf (PySem.intKind PR w) d kvs).dictAt
  have hlt : d < s₁.heap.objs.size := Heap.lt_size (N _ hm).1
  refine wpAny_pyIter_values hv hat ?_
  have up : ∀ b o, s₁.heap.get? b = some o → (s₁.heap.push { cls := .type "dict_valueiterator", data := .fields #[.ref d, .int 0 0, .int kvs.length 0, .int ep 0] }).get? b = some o := fun b o e => Heap.get?_push_of_some _ e
  refine block_T (S := fun nw => (d, o) ∈ nw) (Walks.dictValues (knd := PySem.intKind PR w) hh s₁.heap.objs.size d (Nat.ne_of_lt hlt) kvs ep) hsz (fun i h st => by obtain ⟨o, e, _⟩ := st.1; exact ⟨o, e⟩) ?_ hcell hkind hx ⟨⟨_, Heap.get?_push_size _ rfl, rfl, rfl⟩, hat.push _⟩ (fun b hb => ?_)
    (F.keeps up) (N.grown up) (Nat.ne_of_lt F.ns.lt) (next_is_new F) (fun p hp => Nat.ne_of_lt (Heap.lt_size (N p hp).1)) hm (R _ ⟨_, rfl⟩) ?_
  · intro i h h' o' nw st h1 h2 _ N' hS
    refine ⟨?_, ?_⟩
    · obtain ⟨q, e, r⟩ := st.1
      rw [h1] at e
      cases e
      exact ⟨_, h2, r⟩
    · obtain ⟨ep', hat'⟩ := (Heap.dictOf_iff.mpr ⟨o, (N' _ hS).1, hd⟩ : h'.DictOf (PySem.intKind PR w) d kvs).dictAt
      obtain ⟨q, es, e1, e2, e3, e4⟩ := st.2
      obtain ⟨q', es', e1', e2', e3', e4'⟩ := hat
      have hq : q' = o := by rw [(N _ hm).1] at e1'; cases e1'; rfl
      subst hq
      refine ⟨q', es', (N' _ hS).1, e2', e3', e4'⟩
  · show b < (s₁.heap.push _).objs.size
    rw [Heap.size_push]
    rcases List.mem_cons.mp hb with rfl | hb
    · exact Nat.lt_succ_self _
    · rw [List.mem_singleton.mp hb]; exact Nat.lt_succ_of_lt hlt
  · intro D C h tk m' ys news' F' N' o1 hn hC₀ hD₀ hCL hDL hCD offC fin
    refine ⟨m', hn, fun h'' hs'' => fin D h'' tk (F'.change hs'' hCL hC₀) (fun p hp => ?_) o1⟩
    refine ⟨hs''.extBut _ _ ?_ (N' p hp).1, (N' p hp).2⟩
    rcases List.mem_cons.mp hp with rfl | hp
    · exact Ne.symm hCD
    · exact offC p hp
end
section
variable {prog : Program} {w : World} {A : Around} {s : Shared} {h₀ : Heap} {L : Addr} {m : Str → Option Value} {env : Env} {ct elt : PySem.Expr} {x : Str} {scope : Scope} {cl : List (Str × Addr)} {S : List (Addr × Obj) → Prop} {P : Nat → Value → Prop} {Fin : List Value → List (Addr × Obj) → Prop} {n : Nat}
theorem compEnd_mono {I C D : Addr} {oI oC oD : Obj} {s₁ s₂ : Shared} {y : Value} {r r' : Value → List (Addr × Obj) → Prop} (hr : ∀ y nw, r y nw → r' y nw) (h : CompEnd h₀ L m s₁ I oI C oC D oD S r y s₂) : CompEnd h₀ L m s₁ I oI C oC D oD S r' y s₂ := by
  obtain ⟨h', tk, news', e, F, N, off, hS, q⟩ := h
  exact ⟨h', tk, news', e, F, N, off, hS, hr _ _ q⟩
theorem compT_ind (Inv : Nat → List Value → List (Addr × Obj) → Prop)
    (step : ∀ i ys news, i < n → Inv i ys news → ∀ v I oI C oC D m₂ h tk (E' : Value → Shared → Prop), P i v → NsObj oC m₂ → m₂ x = some v → Fr h₀ L h m → News h₀ L h ((I, oI) :: (C, oC) :: (D, lst ys) :: news) → Off3 I C D news → ((@Ne Nat I C) ∧ (@Ne Nat I D) ∧ (@Ne Nat C D)) →
      wpAny (model prog w) A (isTrue ct (compEnvC scope cl C env) (eval ct (compEnvC scope cl C env))) (fun ok s' => if ok = true then
        wpAny (model prog w) A (eval elt (compEnvC scope cl C env)) (CompEnd h₀ L m { s with heap := h, toks := tk } I oI C oC D (lst ys) S (fun y news' => Inv (i + 1) (ys ++ [y]) news')) E' s'
        else CompEnd h₀ L m { s with heap := h, toks := tk } I oI C oC D (lst ys) S (fun _ news' => Inv (i + 1) ys news') Value.none s') E' { s with heap := h, toks := tk })
    (fin : ∀ ys news, Inv n ys news → Fin ys news) : ∀ k i ys news, k + i = n → Inv i ys news → CompRestT prog w A h₀ L m env ct elt x scope cl s S P Fin k i ys news := by
  intro k
  induction k with
  | zero =>
    intro i ys news hk hi
    have : i = n := by omega
    subst this
    exact CompRestT.zero (fin ys news hi)
  | succ k ih =>
    intro i ys news hk hi
    refine CompRestT.succ fun v I oI C oC D m₂ h tk E' hP hN hx F N off ne => ?_
    refine wpAny_mono (step i ys news (by omega) hi v I oI C oC D m₂ h tk E' hP hN hx F N off ne) (fun ok s' h₁ => ?_) fun _ _ e => e
    cases ok with
    | true =>
      rw [if_pos rfl] at h₁ ⊢
      exact wpAny_mono h₁ (fun y s₂ h₂ => compEnd_mono (fun y nw q => ih _ _ _ (by omega) q) h₂) fun _ _ e => e
    | false =>
      rw [if_neg (by decide)] at h₁ ⊢
      exact compEnd_mono (fun y nw q => ih _ _ _ (by omega) q) h₁
end

end
theorem reset46prepare : True := by
  k_with_none
  w_top off
  try (walk1; fail)
  exact True.intro
section
open PyProof.Rows.LCg PyProof.Rows.LCt
/-- the sorter's ledger between None and the list of the ready -/
@[irreducible] def canonX (w : World) (F : List (Addr × Obj)) (S : SR) (G : List NR) (ra : Addr) : List (Addr × Obj) :=
  (S.sx, instObj 151 S.dx) :: (S.dx, dictOf (srtEs w S.t1 S.t2 S.t3 S.t4 (.ref S.nx) (.ref ra) (.int S.po S.tp) (.int S.fi S.tf)) 4) :: (S.nx, S.on) :: (G.flatMap NR.list ++ F)
section
variable {w : World} {F : List (Addr × Obj)} {S : SR} {G : List NR} {ra : Addr} {xs : List (Int × Tok)} {ep : Nat}
theorem updX (g : Good w F S G) (h : S.rd = none) :
    Upd S.dx (S.dict w) (dictOf (srtEs w S.t1 S.t2 S.t3 S.t4 (.ref S.nx) (.ref ra) (.int S.po S.tp) (.int S.fi S.tf)) 4) (canon w F S G) (canonX w F S G ra) := by
  have nd := g.nd
  have e1 : canon w F S G = [(S.sx, instObj 151 S.dx)] ++ (S.dx, S.dict w) :: ((S.nx, S.on) :: (G.flatMap NR.list ++ F)) := by simp [canon, SR.list, h, rdL]
  have e2 : canonX w F S G ra = [(S.sx, instObj 151 S.dx)] ++ (S.dx, dictOf (srtEs w S.t1 S.t2 S.t3 S.t4 (.ref S.nx) (.ref ra) (.int S.po S.tp) (.int S.fi S.tf)) 4) :: ((S.nx, S.on) :: (G.flatMap NR.list ++ F)) := by simp [canonX]
  rw [e1] at nd ⊢
  rw [e2]
  exact Upd.nd nd
theorem canonX_perm : (canon w F { S with rd := some (ra, xs, ep) } G).Perm ((ra, listOf (vals xs).toArray ep) :: canonX w F S G ra) := by
  have e1 : canon w F { S with rd := some (ra, xs, ep) } G = [(S.sx, instObj 151 S.dx), (S.dx, dictOf (srtEs w S.t1 S.t2 S.t3 S.t4 (.ref S.nx) (.ref ra) (.int S.po S.tp) (.int S.fi S.tf)) 4), (S.nx, S.on)] ++ (ra, listOf (vals xs).toArray ep) :: (G.flatMap NR.list ++ F) := by simp [canon, SR.list, rdL]
  have e2 : (ra, listOf (vals xs).toArray ep) :: canonX w F S G ra = (ra, listOf (vals xs).toArray ep) :: ([(S.sx, instObj 151 S.dx), (S.dx, dictOf (srtEs w S.t1 S.t2 S.t3 S.t4 (.ref S.nx) (.ref ra) (.int S.po S.tp) (.int S.fi S.tf)) 4), (S.nx, S.on)] ++ (G.flatMap NR.list ++ F)) := by simp [canonX]
  rw [e1, e2]
  exact List.perm_middle
theorem news_X {h₀ h : Heap} {L : Addr} (N : News h₀ L h ((ra, listOf (vals xs).toArray ep) :: canonX w F S G ra)) : News h₀ L h (canon w F { S with rd := some (ra, xs, ep) } G) := fun p hp => N p (canonX_perm.mem_iff.mp hp)
theorem good_X (g : Good w F S G) (h : S.rd = none) (hn : ∀ p ∈ canon w F S G, p.1 ≠ ra) : Good w F { S with rd := some (ra, xs, ep) } G := by
  refine ⟨?_, g.dict, g.keys, g.lo⟩
  rw [(canonX_perm.map _).nodup_iff, List.map_cons]
  have e : (canonX w F S G ra).map (·.1) = (canon w F S G).map (·.1) := by simp [canonX, canon, SR.list, h, rdL]
  rw [e]
  refine List.nodup_cons.mpr ⟨fun hm => ?_, g.nd⟩
  obtain ⟨q, hq, e⟩ := List.mem_map.mp hm
  exact hn q hq e
end
theorem off1_mem {D : Addr} {l : List (Addr × Obj)} (h : Off1 D l) : ∀ p ∈ l, p.1 ≠ D := by
  induction l with
  | nil => intro p hp; cases hp
  | cons x l ih =>
    intro p hp
    rcases List.mem_cons.mp hp with rfl | hp
    · exact h.1
    · exact ih h.2 p hp
local macro_rules | `(tactic| k_upd) => `(tactic| exact Upd.tail (by assumption) (updX (by assumption) rfl))
/-- the nodes that wait for none -/
def freeOf (A : AG) : List Int := (A.filter fun x => x.2.1 = 0).map (·.1)
theorem free_succ {A : AG} {i : Nat} {x : Int × Int × List Int} (h : A[i]? = some x) : freeOf (A.take (i + 1)) = freeOf (A.take i) ++ (if x.2.1 = 0 then [x.1] else []) := by
  unfold freeOf
  rw [List.take_add_one, h, List.filter_append, List.map_append]
  congr 1
  by_cases e : x.2.1 = 0 <;> simp [e]
section
variable {w : World} {A₀ : Around} {base h₀ g₀ : Heap} {env : Env} {outer : List Env} {L : Addr} {m mg mb : Str → Option Value} {p : Program} {loose : List Str} {mean : ExcName → Option Value} {s : Shared} {R : Result → Shared → Prop} {F : List (Addr × Obj)} {S : SR} {G : List NR}
/-- THE CONTRACT of prepare -/
theorem prepare_ok {A : Around} (B : Below A₀ base outer h₀) (F₀ : Fr h₀ L s.heap m) (X₀ : (Mine.hd.heap_39 w.params).In h₀) (N : News h₀ L s.heap (canon w F S G)) (T : Top p loose mean mg mb h₀) (XB : (Mine.hd.heap_39 w.params).In base) (TB : Top p loose mean mg mb base) (D : KtsDicts (outer.filterMap (·.frame)) h₀)
    (hA : A.frames = some (env :: outer)) (hh : A.handled = none) (hf : env.frame = some L) (hke : env.scope.kind = .function) (hroom : A.depth < 600)
    (g : Good w F S G) (hrd : S.rd = none) (hsz : G.length ≤ 900) (hsk : ∀ x ∈ absG G, ∀ j ∈ x.2.2, j ∈ G.map NR.key)
    (hR : ∀ h' tk' h₀' ra xs ep, KtsTurn (outer.filterMap (·.frame)) h₀ h₀' → Fr h₀' L h' m → News h₀' L h' (canon w F { S with rd := some (ra, xs, ep) } G) → Good w F { S with rd := some (ra, xs, ep) } G → xs.map (·.1) = freeOf (absG G) → Below A₀ base outer h₀' → (Mine.hd.heap_39 w.params).In h₀' → Top p loose mean mg mb h₀' → KtsDicts (outer.filterMap (·.frame)) h₀' → Top9 (sucOf (absG G)) (G.map NR.key) → R (.ok (.ret .none)) { s with heap := h', toks := tk' })
    (hE : ∀ h' tk' h₀' H e t vs ra xs ep, KtsTurn (outer.filterMap (·.frame)) h₀ h₀' → Fr h₀' L H m → Below A₀ base outer h₀' → (Mine.hd.heap_39 w.params).In h₀' → Top p loose mean mg mb h₀' → KtsDicts (outer.filterMap (·.frame)) h₀' →
      RaisedS base H (env :: outer) e (.ref 69) t vs (canon w F { S with rd := some (ra, xs, ep) } G) h' → H.UpToSlots h' → Good w F { S with rd := some (ra, xs, ep) } G → xs.map (·.1) = freeOf (absG G) → Cyc (sucOf (absG G)) (G.map NR.key) → R (.error (.ref e)) { s with heap := h', toks := tk' }) :
    codeAny (model PR w) A (.call (.ref 106) ⟨[.ref S.sx], []⟩) R s := by
  obtain ⟨hd, dp, fr, gs, u⟩ := A
  dsimp only at hA hh hroom
  subst hA hh
  obtain ⟨sx, dx, nx, on, t1, t2, t3, t4, rd, po, tp, fi, tf⟩ := S
  dsimp only at hrd
  subst hrd
  refine' code_defSE B F₀ X₀ N T XB TB D KtsTurn.refl rfl hf hke ?k6 ?k7 ?k8 ?k9 ?kB ?_ ?c2 ?c3 ?c4 ?c5
  case k6 => k_is
  case k7 => k_is
  case k8 => k_room
  case k9 => exact BindsTo.of_eq rfl
  case c5 => decide
  case kB => exact locs rfl
  case c2 => exact rfl
  case c3 => exact rfl
  case c4 => exact rfl
  intro g' L' h' FG' F' N' B' X' T' D'; (try dsimp only); k_fold
  clear F₀ N
  k_with_none
  k_with "eval ListComp" => refine halt ?_
  w_strict k_steps
  refine unhalt ?_
  have hdd := g.dict
  have hlo := g.lo
  refine ListComp_V (cl := []) (by assumption) (by with_unfolding_all rfl) (by decide) rfl (by decide) rfl ?_ (fun _ => rfl)
  k_with_none
  k_with "getMethod ref" => refine halt ?_
  k_with "call builtin:dict.values" => refine halt ?_
  w_strict k_steps
  refine unhalt ?_
  have hD := kda_dict (s := { s with heap := h' }) N' mem_nx hdd
  refine getMethod_builtin hD.typeIs PySem.F.plainAttrs_dict PySem.F.slot_dict_values PySem.F.type_dict_values hD.mapOf.noDict ?_
  w_strict k_steps
  refine unhalt ?_
  refine kdl_view_values (by k_asm) N' mem_nx hdd hlo ?_
  intro vv h8 F8 N8 l8
  refine ⟨vv, _, _, kvsOf G, canon w F ⟨sx, dx, nx, on, t1, t2, t3, t4, none, po, tp, fi, tf⟩ G, rfl, rfl, F8, fun q hq => N8 q (.tail _ hq), ⟨_, (N8 _ (.head _)).1, rfl, rfl⟩, mem_nx, hdd, by rw [kvs_len, sizeLine_eq]; omega, ?_⟩
  rintro s₂ ⟨h2, rfl⟩
  refine compT_ind (n := (kvsOf G).length) (fun i ys nw => nw = canon w F ⟨sx, dx, nx, on, t1, t2, t3, t4, none, po, tp, fi, tf⟩ G ∧ ∃ xs, ys = vals xs ∧ xs.map (·.1) = freeOf ((absG G).take i)) ?step ?fin _ 0 [] _ rfl ⟨rfl, [], rfl, rfl⟩
  case step =>
    rintro i ys nw hi ⟨rfl, xs, rfl, hxs⟩ v I oI C oC D9 m₂ h9 tk9 E' ⟨k9, hk9⟩ hNs hx F9 N9 off ne
    rw [kvs_get] at hk9
    obtain ⟨r, hr, hrk⟩ : ∃ r, G[i]? = some r ∧ (r.key, Value.ref r.a) = (k9, v) := by
      cases e : G[i]? with
      | none => rw [e] at hk9; cases hk9
      | some r => rw [e] at hk9; exact ⟨r, rfl, Option.some.inj hk9⟩
    cases hrk
    have hr1 := List.mem_of_getElem? hr
    obtain ⟨rk, rra, rdd, rl, rkt, rnp, rnt, rsv, rep⟩ := r
    clear F8 N8
    k_with_none
    have hab : (absG G)[i]? = some (rk, rnp, rsv.map (·.1)) := by unfold absG; rw [List.getElem?_map, hr]; rfl
    w_strict k_steps
    · have h0 : rnp = 0 := by assumption
      refine ⟨h9, _, _, rfl, F9, N9, off, mem_nx, rfl, xs ++ [(rk, rkt)], by simp [vals], ?_⟩
      rw [free_succ hab, if_pos h0, List.map_append, hxs]
      rfl
    · have h0 : ¬ rnp = 0 := by assumption
      refine ⟨h9, _, _, rfl, F9, N9, off, mem_nx, rfl, xs, rfl, ?_⟩
      rw [free_succ hab, if_neg h0, hxs, List.append_nil]
  case fin =>
    rintro ys nw ⟨rfl, xs, rfl, hxs⟩
    intro ra h9 tk9 F9 N9 off
    have hne := off1_mem off
    have hdx : ra ≠ dx := fun e => hne _ mem_dx e.symm
    rw [List.take_of_length_le (by rw [kvs_len, abs_len]; exact Nat.le_refl _)] at hxs
    clear F8 N8
    k_with_none
    k_with "exec Assign" => refine halt ?_
    w_strict k_steps
    rename News g' L' _ _ => N7
    rename Fr g' L' _ _ => F7
    refine unhalt ?_
    replace N7 := news_X N7
    have g7 := good_X (xs := xs) (ep := (vals xs).length) g rfl hne
    dsimp only at g7 N7
    clear hdd hD off
    k_with_none
    k_with "call ref" => refine halt ?_
    w_strict k_steps
    refine unhalt ?_
    refine wpAny_call ?_
    refine fc_ok (S := ⟨sx, dx, nx, on, t1, t2, t3, t4, some (ra, xs, (vals xs).length), po, tp, fi, tf⟩) B' F7 X' N7 T' XB TB D' rfl rfl rfl (by dsimp only [Around.deeper]; omega) g7 hsz hsk ?fnone ?fcyc
    case fnone =>
      intro h6 tk6 g6 T6 F6 N6 B6 X6 P6 D6 ht9
      clear F7 N7
      k_with_none
      dsimp only
      w_strict k_steps
      exact hR _ _ _ ra xs _ (by assumption) (by assumption) (by assumption) g7 hxs (by assumption) (by assumption) (by assumption) (by assumption) ht9
    case fcyc =>
      intro h6 tk6 g6 c items ep T6 F6 N6 B6 X6 P6 D6 hit hz2 hcyc
      clear F7 N7
      k_with_none
      k_with "truthy ref" => refine halt ?_
      dsimp only
      w_strict k_steps
      refine unhalt ?_
      refine wpAny_truthy_list (News.isList (items := items) (by assumption) (.head _)) (by omega) ?_
      have hem : (!items.isEmpty) = true := by
        cases e : items.isEmpty with
        | false => rfl
        | true => exact absurd (Array.isEmpty_iff.mp e) hit
      rw [hem]
      k_with_none
      k_with "leaving ref" => refine halt ?_
      w_strict k_steps
      rename Heap.MadeExcOf _ _ _ _ _ => hmade
      rename News g6 L' _ _ => N5
      rename Fr g6 L' _ _ => F5
      refine unhalt ?_
      have hfse : ∀ e : Env, e.frame = some L → (e :: outer).filterMap (·.frame) = L :: outer.filterMap (·.frame) := fun e he => by rw [List.filterMap_cons, he]
      obtain ⟨h₀', Th, Fh, Bh⟩ := kts_ground (name := Str.ofString "x") (scope := env.scope) (a := 0) (cd := .none) (h₅ := g6) (B := hideAll g' (L :: outer.filterMap (·.frame))) B FG' (fun b o q nm => hideAll_get _ q (by rw [hfse _ rfl] at nm; exact nm))
        (fun b o q => T6.other b o (of_hideAll _ q) fun hm => by rw [hfse _ hf] at hm; rw [hideAll_none _ hm] at q; cases q) (fun b o e _ => T6.up e)
      refine leave_raiseS B6 hmade F5 (fun q hq => N5 q (.tail _ hq)) ?_
      intro h4 t4 R4
      intros
      refine hE _ _ h₀' g6 _ t4 _ ra xs _ Th Fh Bh (XB.keeps Bh.stays) (TB.keeps Bh.stays) (D.turn Th) R4 (by assumption) g7 hxs hcyc
end

end
theorem reset47bits : True := by
  k_with_none
  w_top off
  try (walk1; fail)
  exact True.intro
section
/-- the wait that the law's own formula tells -/
def needs (md : Int) (i : Nat) : Prop := md * 2 ^ i / 256 % 2 = 1
theorem needs_bit (n i : Nat) (hi : i ≤ 8) : needs (n : Int) i ↔ n.testBit (8 - i) = true := by
  unfold needs
  rw [Nat.testBit_eq_decide_div_mod_eq, decide_eq_true_eq]
  have e1 : (n : Int) * 2 ^ i / 256 % 2 = ((n * 2 ^ i / 256 % 2 : Nat) : Int) := by push_cast; rfl
  rw [e1]
  have e2 : 256 = 2 ^ i * 2 ^ (8 - i) := by rw [← Nat.pow_add, Nat.add_sub_cancel' hi]
  have e3 : n * 2 ^ i / 256 = n / 2 ^ (8 - i) := by
    rw [e2, Nat.mul_comm n, Nat.mul_div_mul_left _ _ (Nat.pos_of_ne_zero (by simp))]
  rw [e3]
  omega
theorem bit_nat (n k : Nat) : Builtin.bitAnd (n : Int) (k : Int) = ((n &&& k : Nat) : Int) := by
  show ((((n : Int).toNat &&& (k : Int).toNat : Nat) : Int)) = _
  rw [Int.toNat_natCast, Int.toNat_natCast]
theorem and_pow {n k : Nat} (h : n.testBit k = true) : n &&& 2 ^ k = 2 ^ k := by
  refine Nat.eq_of_testBit_eq fun c => ?_
  rw [Nat.testBit_and, Nat.testBit_two_pow]
  by_cases e : k = c
  · subst e; simp [h]
  · simp [e]
theorem and_one (n k : Nat) : (Builtin.bitAnd (n : Int) ((2 ^ k : Nat) : Int) = ((2 ^ k : Nat) : Int)) ↔ n.testBit k = true := by
  rw [bit_nat, Int.ofNat_inj]
  refine ⟨fun h => ?_, and_pow⟩
  have t : (n &&& 2 ^ k).testBit k = (2 ^ k).testBit k := by rw [h]
  rw [Nat.testBit_and, Nat.testBit_two_pow_self, Bool.and_true] at t
  exact t
theorem and_two (n a b : Nat) : (Builtin.bitAnd (n : Int) ((2 ^ a ||| 2 ^ b : Nat) : Int) = ((2 ^ a ||| 2 ^ b : Nat) : Int)) ↔ (n.testBit a = true ∧ n.testBit b = true) := by
  rw [bit_nat, Int.ofNat_inj]
  constructor
  · intro h
    have t : ∀ c, (n &&& (2 ^ a ||| 2 ^ b)).testBit c = (2 ^ a ||| 2 ^ b).testBit c := fun c => by rw [h]
    have ta := t a
    have tb := t b
    simp only [Nat.testBit_and, Nat.testBit_or, Nat.testBit_two_pow_self, Bool.true_or, Bool.or_true, Bool.and_true] at ta tb
    exact ⟨ta, tb⟩
  · rintro ⟨h1, h2⟩
    rw [Nat.and_or_distrib_left, and_pow h1, and_pow h2]
theorem b1 (n : Nat) : Builtin.bitAnd (n : Int) 1 = 1 ↔ n.testBit 0 = true := and_one n 0
theorem b2 (n : Nat) : Builtin.bitAnd (n : Int) 2 = 2 ↔ n.testBit 1 = true := and_one n 1
theorem b4 (n : Nat) : Builtin.bitAnd (n : Int) 4 = 4 ↔ n.testBit 2 = true := and_one n 2
theorem b8 (n : Nat) : Builtin.bitAnd (n : Int) 8 = 8 ↔ n.testBit 3 = true := and_one n 3
theorem b16 (n : Nat) : Builtin.bitAnd (n : Int) 16 = 16 ↔ n.testBit 4 = true := and_one n 4
theorem b32 (n : Nat) : Builtin.bitAnd (n : Int) 32 = 32 ↔ n.testBit 5 = true := and_one n 5
theorem b64 (n : Nat) : Builtin.bitAnd (n : Int) 64 = 64 ↔ n.testBit 6 = true := and_one n 6
theorem b128 (n : Nat) : Builtin.bitAnd (n : Int) 128 = 128 ↔ n.testBit 7 = true := and_one n 7
theorem b256 (n : Nat) : Builtin.bitAnd (n : Int) 256 = 256 ↔ n.testBit 8 = true := and_one n 8
theorem b512 (n : Nat) : Builtin.bitAnd (n : Int) 512 = 512 ↔ n.testBit 9 = true := and_one n 9
theorem b1024 (n : Nat) : Builtin.bitAnd (n : Int) 1024 = 1024 ↔ n.testBit 10 = true := and_one n 10
theorem b2048 (n : Nat) : Builtin.bitAnd (n : Int) 2048 = 2048 ↔ n.testBit 11 = true := and_one n 11
theorem b4096 (n : Nat) : Builtin.bitAnd (n : Int) 4096 = 4096 ↔ n.testBit 12 = true := and_one n 12
theorem b2112 (n : Nat) : Builtin.bitAnd (n : Int) 2112 = 2112 ↔ n.testBit 11 = true ∧ n.testBit 6 = true := and_two n 11 6
theorem b1032 (n : Nat) : Builtin.bitAnd (n : Int) 1032 = 1032 ↔ n.testBit 10 = true ∧ n.testBit 3 = true := and_two n 10 3
theorem b513 (n : Nat) : Builtin.bitAnd (n : Int) 513 = 513 ↔ n.testBit 9 = true ∧ n.testBit 0 = true := and_two n 9 0

end
theorem reset48enum : True := by
  k_with_none
  w_top off
  try (walk1; fail)
  exact True.intro
section
/-! enumerate over a tuple -/
section
variable {prog : Program} {w : World} {A : Around} {E : Value → Shared → Prop} {s : Shared}
theorem nextOf_tup {it t : Addr} {i : Nat} {items : Array Value} {x : Value} {Q : Value → Shared → Prop} (hit : s.heap.IsTupleIter it t i) (ht : s.heap.IsTuple t items) (hx : items[i]? = some x)
    (hQ : ∀ h', h'.IsTupleIter it t (i + 1) → Heap.SameBut it s.heap h' → Q x { s with heap := h' }) : wpAny (model prog w) A (Builtin.SmallTypes.nextOf (.ref it)) Q E s := by
  obtain ⟨o, ho, hc, hd⟩ := id hit
  obtain ⟨ol, hol, _, nl, hdl⟩ := ht
  unfold Builtin.SmallTypes.nextOf
  refine wpAny_bind (wpAny_callSpecial?_slot (name := Str.ofString "__next__") hit.typeIs F.slot_tuple_iterator_next
    (wpAny_call_entry F.slot_tuple_iterator_next hit.typeIs F.entry_tuple_iterator_next ?_ (F.args_tuple_iterator_next_1 _)))
  show wpAny _ _ (field (.ref it) 0 >>= _) _ _ s
  refine wpAny_bind (wpAny_field ho hd (x := .ref t) rfl ?_)
  show wpAny _ _ (if (Value.ref t == Value.none) = true then _ else _) _ _ s
  rw [if_neg (show ¬ ((Value.ref t == Value.none) = true) from Bool.false_ne_true)]
  show wpAny _ _ (field (.ref it) 1 >>= _) _ _ s
  refine wpAny_bind (wpAny_field ho hd (x := .int i 0) rfl ?_)
  show wpAny _ _ (seqItems? (.ref t) >>= _) _ _ s
  refine wpAny_bind (wpAny_seqItems hol hdl ?_)
  simp only [Int.toNat_natCast, hx]
  refine wpAny_bind (wpAny_setField ho hd (by simp) (wpAny_pure ⟨x, rfl, wpAny_pure (hQ _ ?_ (Heap.SameBut.update ..))⟩))
  exact ⟨_, Heap.get?_update_self _ ho (Obj.isFreed_of_fields (Obj.data_mapFields hd _)), (Obj.cls_mapFields ..).trans hc, by
    rw [Obj.data_mapFields hd]; simp [rawInt]⟩
theorem nextOf_tup_end {it t : Addr} {i : Nat} {items : Array Value} {Q : Value → Shared → Prop} (hh : A.handled = none) (hit : s.heap.IsTupleIter it t i) (ht : s.heap.IsTuple t items) (hx : items[i]? = none)
    (hE : ∀ h' e, Heap.ExtBut it s.heap h' → (∃ o, h'.get? e = some o ∧ o.cls = .type "StopIteration") → E (.ref e) { s with heap := h' }) : wpAny (model prog w) A (Builtin.SmallTypes.nextOf (.ref it)) Q E s := by
  obtain ⟨o, ho, hc, hd⟩ := id hit
  obtain ⟨ol, hol, _, nl, hdl⟩ := ht
  unfold Builtin.SmallTypes.nextOf
  refine wpAny_bind (wpAny_callSpecial?_slot (name := Str.ofString "__next__") hit.typeIs F.slot_tuple_iterator_next
    (wpAny_call_entry F.slot_tuple_iterator_next hit.typeIs F.entry_tuple_iterator_next ?_ (F.args_tuple_iterator_next_1 _)))
  show wpAny _ _ (field (.ref it) 0 >>= _) _ _ s
  refine wpAny_bind (wpAny_field ho hd (x := .ref t) rfl ?_)
  show wpAny _ _ (if (Value.ref t == Value.none) = true then _ else _) _ _ s
  rw [if_neg (show ¬ ((Value.ref t == Value.none) = true) from Bool.false_ne_true)]
  show wpAny _ _ (field (.ref it) 1 >>= _) _ _ s
  refine wpAny_bind (wpAny_field ho hd (x := .int i 0) rfl ?_)
  show wpAny _ _ (seqItems? (.ref t) >>= _) _ _ s
  refine wpAny_bind (wpAny_seqItems hol hdl ?_)
  simp only [Int.toNat_natCast, hx]
  refine wpAny_bind (wpAny_rule (wpAny_bind (wpAny_setField ho hd (by simp) ?_)))
  show wpAny _ _ (newExc (.type "StopIteration") [] >>= _) _ _ _
  refine wpAny_bind ?_
  simp only [newExc, newTuple]
  refine wpAny_bind (wpAny_newObj_type ?_ (by size_fits))
  refine wpAny_bind (m := firstArgMember _ _) (wpAny_of_eq (a := Value.none) (by first | rfl | (simp only [firstArgMember]; rfl)) ?_)
  refine wpAny_newObj_type ?_ (by size_fits)
  refine wpAny_raiseNew_none hh ?_
  exact hE _ _ (((Heap.SameBut.update ..).extBut.push _).push _) ⟨_, Heap.get?_push_size _ rfl, rfl⟩
theorem draws_tup (hh : A.handled = none) (it t : Addr) (hne : t ≠ it) (items : Array Value) :
    Draws prog w A it [it, t] items.size (fun i v => items[i]? = some v) (fun i h => h.IsTupleIter it t i ∧ h.IsTuple t items) where
  live := fun _ _ st => let ⟨o, ho, _⟩ := st.1; ⟨o, ho⟩
  frame := fun _ _ _ st hk => by
    obtain ⟨⟨o, ho, r⟩, ⟨ot, hot, rt⟩⟩ := st
    exact ⟨⟨o, hk it (by simp) o ho, r⟩, ⟨ot, hk t (by simp) ot hot, rt⟩⟩
  item := fun i s Q E hi st hQ => by
    refine nextOf_tup st.1 st.2 (x := items[i]) (by simp [hi]) fun h' hit' hs' => ?_
    exact hQ _ h' s.toks (by simp [hi]) ⟨hit', st.2.extBut hs'.extBut hne⟩ hs'
  done := fun s Q E st hE => nextOf_tup_end hh st.1 st.2 (by simp) hE
theorem meets_enum_tup (l : Addr) (items : Array Value) (n : Nat) (dct : Option Addr) (sl : Array (Option Value)) :
    Meets (Builtin.«enumerate.__new__» ⟨[.type "enumerate", .ref l], []⟩) (fun _ R s => s.heap.get? l = some { cls := .type "tuple", dict := dct, data := .seq items n, slots := sl } ∧
      R (.ok (.ret (.ref (s.heap.push { cls := .type "tuple_iterator", data := .fields #[.ref l, .int 0 0] }).objs.size)))
        { s with heap := (s.heap.push { cls := .type "tuple_iterator", data := .fields #[.ref l, .int 0 0] }).push { cls := .type "enumerate", data := .fields #[.none, .bool false, .ref s.heap.objs.size, rawInt 0, .none, .none] } }) :=
  .of_wp fun prog w A R s h => by
    obtain ⟨hp, g, d, tk, os⟩ := s; obtain ⟨hl, h⟩ := h
    have hsub := sub_enumerate
    have hL : Heap.IsTuple (Shared.heap ⟨hp, g, d, tk, os⟩) l items := ⟨_, hl, rfl, n, rfl⟩
    wp_walk using wpAny_loadPart' hl
    refine wpAny_stack_any fun st => wpAny_pure ?_
    split
    · rename_i c _ _ _ _ _
      cases (c == Value.type "enumerate")
      · wp_walk using wpAny_loadPart' hl, wpAny_pyIter_tuple hL
        exact ⟨_, rfl, h⟩
      · wp_walk using wpAny_loadPart' hl, wpAny_pyIter_tuple hL
        exact ⟨_, rfl, h⟩
    · wp_walk using wpAny_loadPart' hl, wpAny_pyIter_tuple hL
      exact ⟨_, rfl, h⟩
theorem call_enum_tup {l : Addr} {items : Array Value} {Q : Value → Shared → Prop} (hL : s.heap.IsTuple l items)
    (h : ∀ h', IsEnum h' (s.heap.objs.size + 1) s.heap.objs.size 0 .none → h'.IsTupleIter s.heap.objs.size l 0 → h'.objs.size = s.heap.objs.size + 2 →
      (∀ b o, s.heap.get? b = some o → h'.get? b = some o) → Q (.ref (s.heap.objs.size + 1)) { s with heap := h' }) :
    wpAny (model prog w) A (call (.type "enumerate") [.ref l]) Q E s := by
  obtain ⟨⟨c, dct, dt, sl⟩, hl, hc, n, hd⟩ := hL
  replace hc : c = .type "tuple" := hc
  replace hd : dt = .seq items n := hd
  subst hc hd
  refine callType_new F.called_enumerate (by decide) (F.typeCall_enumerate_1 _) (F.newCall_enumerate_1 _) (fun obj => F.args_object_init_2 obj _) F.entry_enumerate_new
    (meets_enum_tup l items n dct sl) ⟨hl, ?_⟩
  have hz : (s.heap.push { cls := .type "tuple_iterator", data := .fields #[.ref l, .int 0 0] }).objs.size = s.heap.objs.size + 1 := Heap.size_push ..
  show _ ∧ _
  rw [hz]
  have he : IsEnum ((s.heap.push { cls := .type "tuple_iterator", data := .fields #[.ref l, .int 0 0] }).push
      { cls := .type "enumerate", data := .fields #[.none, .bool false, .ref s.heap.objs.size, rawInt 0, .none, .none] }) (s.heap.objs.size + 1) s.heap.objs.size 0 .none := by
    have := Heap.get?_push_size (s.heap.push { cls := .type "tuple_iterator", data := .fields #[.ref l, .int 0 0] })
      (o := { cls := .type "enumerate", data := .fields #[.none, .bool false, .ref s.heap.objs.size, rawInt 0, .none, .none] }) rfl
    rw [hz] at this; exact this
  refine ⟨⟨_, he, rfl⟩, h _ he ⟨_, Heap.get?_push_of_some _ (Heap.get?_push_size _ rfl), rfl, rfl⟩ (by rw [Heap.size_push, hz]) fun b o x => Heap.get?_push_of_some _ (Heap.get?_push_of_some _ x)⟩
end

end
theorem reset49fort : True := by
  k_with_none
  w_top off
  try (walk1; fail)
  exact True.intro
section
/-! a for with an else over a tuple that lies in the ground, turn by turn -/
def TIt (o : Obj) (t : Addr) (i : Nat) : Prop := o.cls = .type "tuple_iterator" ∧ o.data = .fields #[.ref t, .int i 0]
@[irreducible] def ForRest (prog : Program) (w : World) (A : Around) (E : Value → Shared → Prop) (env : Env) (target : PySem.Expr) (body orelse : List Stmt) (Q : Flow → Shared → Prop) (it : Value) (s : Shared) : Prop :=
  codeAny (model prog w) A (.forLoop target it body orelse env) (fun r s' => match r with | .ok f => Q f s' | .error e => cameBackBy (model prog w) A env E e s') s
def ForPost (prog : Program) (w : World) (A : Around) (E : Value → Shared → Prop) (env : Env) (target : PySem.Expr) (body orelse : List Stmt) (Q : Flow → Shared → Prop) (it : Value) (f : Flow) (s : Shared) : Prop :=
  match f with
  | .next => ForRest prog w A E env target body orelse Q it s
  | .cont => ForRest prog w A E env target body orelse Q it s
  | .brk => Q .next s
  | .ret v => Q (.ret v) s
section
variable {prog : Program} {w : World} {A : Around} {E : Value → Shared → Prop} {env : Env} {target iter : PySem.Expr} {body orelse : List Stmt} {Q : Flow → Shared → Prop} {s : Shared} {it : Value} {pos : Pos}
theorem forRest_turn (hE : PassesOwn (model prog w) A env E)
    (h : wpAny (model prog w) A (pyNext it) (fun r s₁ => match r with
      | none => wpAny (model prog w) A (execs orelse env) Q E s₁
      | some v => wpAny (model prog w) A (letOwnedTupleGo target it v) (fun _ s₁' => wpAny (model prog w) A (assign target env v) (fun _ s₂ => wpAny (model prog w) A (execs body env) (ForPost prog w A E env target body orelse Q it) E s₂) E s₁') E s₁) E s) :
    ForRest prog w A E env target body orelse Q it s := by
  unfold ForRest
  refine codeAny_of_tree ?_
  show wpAny _ A ((forTurn target it body orelse env).onRaise (fun x => do noteFrame x env; theTreesLotGoes x)) _ _ s
  refine wpAny_noted ?_
  simp only [forTurn]
  refine wpAny_bind (wpAny_standAt (wpAny_bind (wpAny_onRaise (wpAny_mono h (fun r s₁ h₁ => ?_) fun e s' x => wpAny_standAt (hE e s' x)))))
  cases r with
  | none => exact wpAny_pure ⟨rfl, codeAny_block (wpAny_mono h₁ (fun _ _ x => x) hE)⟩
  | some v =>
    refine wpAny_bind (wpAny_mono h₁ (fun _ s₁' h₁' => ?_) hE)
    refine wpAny_bind (wpAny_mono h₁' (fun _ s₂ h₂ => wpAny_bind (wpAny_mono h₂ (fun f s₃ h₃ => ?_) hE)) hE)
    cases f with
    | next => exact wpAny_pure ⟨rfl, by unfold ForPost ForRest at h₃; exact h₃⟩
    | cont => exact wpAny_pure ⟨rfl, by unfold ForPost ForRest at h₃; exact h₃⟩
    | brk => exact wpAny_pure h₃
    | ret v => exact wpAny_pure h₃
theorem forPost_next (h : ForRest prog w A E env target body orelse Q it s) : ForPost prog w A E env target body orelse Q it .next s := h
theorem forPost_brk (h : Q .next s) : ForPost prog w A E env target body orelse Q it .brk s := h
theorem for_start {pos : Pos} (h : wpAny (model prog w) A (eval iter env) (fun x s₁ => wpAny (model prog w) A (pyIter x) (fun it s₂ => ForRest prog w A E env target body orelse Q it s₂) E s₁) E s) (hs : ∀ x, foldedSetIterable iter env x = pure x) :
    wpAny (model prog w) A (exec (.For target iter body orelse pos) env) Q E s := by
  refine wpAny_For (wpAny_mono h (fun x s₁ h₁ => wpAny_mono h₁ (fun it s₂ h₂ => ?_) fun _ _ e => e) fun _ _ e => e) hs
  unfold ForRest at h₂
  exact h₂
variable {h₀ : Heap} {L I t : Addr} {m : Str → Option Value} {news : List (Addr × Obj)} {items : Array Value} {i : Nat} {v : Value} {elts : List PySem.Expr} {k : Nat}
theorem forT_start (F : Fr h₀ L s.heap m) (N : News h₀ L s.heap news) (ht : h₀.IsTuple t items)
    (h : ∀ (I : Addr) oI h', TIt oI t 0 → Fr h₀ L h' m → News h₀ L h' ((I, oI) :: news) → (∀ p ∈ news, p.1 ≠ I) → ForRest prog w A E env target body orelse Q (.ref I) { s with heap := h' }) :
    wpAny (model prog w) A (pyIter (.ref t)) (fun it s₂ => ForRest prog w A E env target body orelse Q it s₂) E s := by
  have hT : s.heap.IsTuple t items := let ⟨o, ho, r⟩ := ht; ⟨o, F.keep _ _ ho, r⟩
  exact wpAny_pyIter_tuple hT (h _ _ _ ⟨rfl, rfl⟩ (F.push _) (News.push F N _ rfl) fun p hp => Nat.ne_of_lt (Heap.lt_size (N p hp).1))
theorem forT_item (hE : PassesOwn (model prog w) A env E) (F : Fr h₀ L s.heap m) {oI : Obj} (hI : TIt oI t i) (N : News h₀ L s.heap ((I, oI) :: news)) (ht : h₀.IsTuple t items) (hne : ∀ p ∈ news, p.1 ≠ I) (hx' : items.toList[i]? = some v)
    (h : ∀ oI' h', TIt oI' t (i + 1) → Fr h₀ L h' m → News h₀ L h' ((I, oI') :: news) → wpAny (model prog w) A (assign (.Tuple elts k pos) env v) (fun _ s₂ => wpAny (model prog w) A (execs body env) (ForPost prog w A E env (.Tuple elts k pos) body orelse Q (.ref I)) E s₂) E { s with heap := h' }) :
    ForRest prog w A E env (.Tuple elts k pos) body orelse Q (.ref I) s := by
  have hx : items[i]? = some v := by rw [← hx', Array.getElem?_toList]
  have hT : s.heap.IsTuple t items := let ⟨o, ho, r⟩ := ht; ⟨o, F.keep _ _ ho, r⟩
  have z := N _ (.head _)
  refine forRest_turn hE (wpAny_pyNext_tuple_item (i := i) ⟨_, z.1, hI.1, hI.2⟩ hT hx fun h' hit' hs' => ?_)
  dsimp only
  obtain ⟨o', ho', hc', hd'⟩ := id hit'
  have hq : wpAny (model prog w) A (letOwnedTupleGo (.Tuple elts k pos) (.ref I) v) (fun _ s₁' => wpAny (model prog w) A (assign (.Tuple elts k pos) env v) (fun _ s₂ => wpAny (model prog w) A (execs body env) (ForPost prog w A E env (.Tuple elts k pos) body orelse Q (.ref I)) E s₂) E s₁') E { s with heap := h' } := by
    have fin : wpAny (model prog w) A (assign (.Tuple elts k pos) env v) (fun _ s₂ => wpAny (model prog w) A (execs body env) (ForPost prog w A E env (.Tuple elts k pos) body orelse Q (.ref I)) E s₂) E { s with heap := h' } := by
      refine h o' h' ⟨hc', hd'⟩ (F.change hs' z.2.1 z.2.2) fun q hq => ?_
      rcases List.mem_cons.mp hq with rfl | hq
      · exact ⟨ho', z.2⟩
      · exact ⟨(hs'.2 _ (hne q hq)).trans (N q (.tail _ hq)).1, (N q (.tail _ hq)).2⟩
    unfold letOwnedTupleGo
    cases v with
    | ref b =>
      dsimp only
      refine wpAny_bind (wpAny_load ho' ?_)
      rw [hc', hd']
      dsimp only
      rw [if_neg (by rw [show (["enumerate", "zip", "dict_itemiterator", "dict_reverseitemiterator", "odict_iterator", "itertools.zip_longest", "itertools.pairwise"].contains "tuple_iterator") = false from by decide, Bool.false_and]; decide)]
      exact wpAny_pure fin
    | _ => exact wpAny_pure fin
  exact hq
theorem forT_end (hh : A.handled = none) (hE : PassesOwn (model prog w) A env E) (F : Fr h₀ L s.heap m) {oI : Obj} (hI : TIt oI t i) (N : News h₀ L s.heap ((I, oI) :: news)) (ht : h₀.IsTuple t items) (hne : ∀ p ∈ news, p.1 ≠ I) (hx : items[i]? = none)
    (h : ∀ h', Fr h₀ L h' m → News h₀ L h' news → wpAny (model prog w) A (execs orelse env) Q E { s with heap := h' }) : ForRest prog w A E env target body orelse Q (.ref I) s := by
  have hT : s.heap.IsTuple t items := let ⟨o, ho, r⟩ := ht; ⟨o, F.keep _ _ ho, r⟩
  have z := N _ (.head _)
  refine forRest_turn hE (wpAny_pyNext_tuple_end (i := i) hh ⟨_, z.1, hI.1, hI.2⟩ hT hx fun h' he => ?_)
  have k : ∀ b o, b ∉ [I] → s.heap.get? b = some o → h'.get? b = some o := fun b o hb e => he b o (fun q => hb (q ▸ .head _)) e
  exact h h' (fr_but F (Ne.symm z.2.1) z.2.2 k) (news_but (fun q hq => N q (.tail _ hq)) hne k)
end
section
variable {prog : Program} {w : World} {A : Around} {E : Value → Shared → Prop} {env : Env} {xi xc : Str} {body : List Stmt} {Q : Flow → Shared → Prop} {s : Shared} {h₀ : Heap} {t : Addr} {m : Str → Option Value} {news : List (Addr × Obj)} {items : Array Value}
/-- for i, x in enumerate(a tuple of the ground), by an invariant -/
theorem enum_tup (J : Nat → (Str → Option Value) → List (Addr × Obj) → Prop) (hh : A.handled = none) (F : Fr h₀ env.locals s.heap m) (N : News h₀ env.locals s.heap news) (ht : h₀.IsTuple t items) (hJ : J 0 m news)
    (turn : ∀ i v1 t0 m₁ news₁ own h tk, items[i]? = some v1 → J i m₁ news₁ → news₁.map (·.1) = news.map (·.1) → (∀ p ∈ own, ∀ q ∈ news, p.1 ≠ q.1) → Fr h₀ env.locals h (fun y => if y = xc then some v1 else if y = xi then some (.int i t0) else m₁ y) → News h₀ env.locals h (own ++ news₁) →
      wpAny (model prog w) A (execs body env) (LoopStep3 h₀ env.locals own news₁ (J (i + 1)) { s with heap := h, toks := tk } (fun v s' => Q (.ret v) s') fun s' => Q .next s') E { s with heap := h, toks := tk })
    (done : ∀ h' tk m' news', Fr h₀ env.locals h' m' → News h₀ env.locals h' news' → J items.size m' news' → Q .next { s with heap := h', toks := tk }) :
    wpAny (model prog w) A (call (.type "enumerate") [.ref t]) (fun xv s₁ => wpAny (model prog w) A (pyIter xv) (fun it s₂ => PairAt3 prog w A h₀ env xi xc body Q E it s₂) E s₁) E s := by
  obtain ⟨ot, hot, rt⟩ := id ht
  have hT : s.heap.IsTuple t items := ⟨ot, F.keep _ _ hot, rt⟩
  refine call_enum_tup hT fun h6 hE6 hI6 hz6 hk6 => ?_
  refine wpAny_pyIter_enum hE6 ?_
  have hlt : t < s.heap.objs.size := Heap.lt_size (F.keep _ _ hot)
  have hLs : env.locals < s.heap.objs.size := F.ns.lt
  have hL0 : h₀.get? env.locals = none := kts_self F
  have hn0 : ∀ k : Nat, s.heap.objs.size ≤ k → h₀.get? k = none := fun k hk => Heap.get?_none_of_le (Nat.le_trans (Nat.le_of_lt (Nat.lt_of_le_of_lt F.above F.ns.lt)) hk)
  have hp : ∀ p ∈ news, p.1 < s.heap.objs.size := fun p hp => Heap.lt_size (N p hp).1
  have htL : env.locals ≠ t := fun e => by rw [e, hot] at hL0; cases hL0
  generalize hz : s.heap.objs.size = z at *
  have W := WalksT.enumerateD (A := A) (draws_tup (prog := prog) (w := w) (A := A.in1) hh z t (Nat.ne_of_lt hlt) items) (z + 1) (Nat.succ_ne_self _) (fun hm => by
      rcases List.mem_cons.mp hm with e | hm
      · exact Nat.succ_ne_self _ e
      · have := List.mem_singleton.mp hm
        rw [← this] at hlt
        exact Nat.not_lt.mpr (Nat.le_succ _) hlt) (.head _)
  refine ⟨z + 1, (z + 1) :: [z, t], [z + 1, z], items.size, _, _, _, fun i v0 v1 => ∃ t0, v0 = .int i t0 ∧ items[i]? = some v1, m, news, J, rfl, W, ?_, ?_, ?_, ?_, ⟨⟨_, hE6⟩, hI6, ⟨ot, hk6 _ _ (F.keep _ _ hot), rt⟩⟩, F.keeps hk6, N.grown hk6, hJ, ?_, ?_⟩
  · rintro i vals ⟨t0, x, hx, rfl⟩
    exact ⟨_, _, rfl, t0, rfl, hx⟩
  · intro hm
    rcases List.mem_cons.mp hm with e | hm
    · rw [e] at hLs; exact Nat.not_lt.mpr (Nat.le_succ _) hLs
    · rcases List.mem_cons.mp hm with e | hm
      · rw [e] at hLs; exact Nat.lt_irrefl _ hLs
      · exact htL (List.mem_singleton.mp hm)
  · intro b hb
    rcases List.mem_cons.mp hb with rfl | hb
    · exact hn0 _ (Nat.le_succ _)
    · rw [List.mem_singleton.mp hb]; exact hn0 _ (Nat.le_refl _)
  · intro q hq hm
    have := hp q hq
    rcases List.mem_cons.mp hm with e | hm
    · rw [e] at this; exact Nat.not_lt.mpr (Nat.le_succ _) this
    · rw [List.mem_singleton.mp hm] at this; exact Nat.lt_irrefl _ this
  · rintro i v0 v1 m₁ news₁ s₁ own ⟨h, tk, rfl⟩ hi ⟨t0, rfl, hx⟩ hj hmap hown F₁ N₁
    refine turn i v1 t0 m₁ news₁ own h tk hx hj hmap (fun p hp' q hq e => ?_) F₁ N₁
    have hq' := hp q hq
    have := hown p hp'
    rw [e] at this
    rcases List.mem_cons.mp this with e | hm
    · rw [e] at hq'; exact Nat.not_lt.mpr (Nat.le_succ _) hq'
    · rcases List.mem_cons.mp hm with e | hm
      · rw [e] at hq'; exact Nat.lt_irrefl _ hq'
      · have h2 := (N q hq).2.2
        rw [List.mem_singleton.mp hm, hot] at h2
        cases h2
  · intro h' tk m' news' F' N' _ hj
    exact done h' tk m' news' F' N' hj
end

end
theorem reset51forall : True := by
  k_with_none
  w_top off
  try (walk1; fail)
  exact True.intro
section
section
variable {prog : Program} {w : World} {A : Around} {E : Value → Shared → Prop} {env : Env} {body orelse : List Stmt} {Q : Flow → Shared → Prop} {h₀ : Heap} {L t : Addr} {items : Array Value} {elts : List PySem.Expr} {kk : Nat} {pos : Pos}
/-- a for with an else over a tuple of the ground, by an invariant -/
theorem forT_all {s : Shared} {m : Str → Option Value} {news : List (Addr × Obj)} (J : Nat → (Str → Option Value) → List (Addr × Obj) → Prop) (hh : A.handled = none) (hE : PassesOwn (model prog w) A env E)
    (F : Fr h₀ L s.heap m) (N : News h₀ L s.heap news) (ht : h₀.IsTuple t items) (hJ : J 0 m news)
    (step : ∀ i v m₁ news₁ I oI h tk, items[i]? = some v → J i m₁ news₁ → (∀ p ∈ news₁, p.1 ≠ I) → Fr h₀ L h m₁ → News h₀ L h ((I, oI) :: news₁) →
      wpAny (model prog w) A (assign (.Tuple elts kk pos) env v) (fun _ s₂ => wpAny (model prog w) A (execs body env) (TurnEnd h₀ L I oI (J (i + 1)) { s with heap := h, toks := tk } Q) E s₂) E { s with heap := h, toks := tk })
    (fin : ∀ m₁ news₁ h tk, J items.size m₁ news₁ → Fr h₀ L h m₁ → News h₀ L h news₁ → wpAny (model prog w) A (execs orelse env) Q E { s with heap := h, toks := tk }) :
    wpAny (model prog w) A (pyIter (.ref t)) (fun it s₂ => ForRest prog w A E env (.Tuple elts kk pos) body orelse Q it s₂) E s := by
  have rest : ∀ k i m₁ news₁ (I : Addr) oI h tk, i + k = items.size → TIt oI t i → J i m₁ news₁ → (∀ p ∈ news₁, p.1 ≠ I) → Fr h₀ L h m₁ → News h₀ L h ((I, oI) :: news₁) →
      ForRest prog w A E env (.Tuple elts kk pos) body orelse Q (.ref I) { s with heap := h, toks := tk } := by
    intro k
    induction k with
    | zero =>
      intro i m₁ news₁ I oI h tk hi hT hj hne F₁ N₁
      have hi' : i = items.size := by omega
      subst hi'
      refine forT_end hh hE F₁ hT N₁ ht hne (Array.getElem?_eq_none (Nat.le_refl _)) fun h' F' N' => ?_
      exact fin m₁ news₁ h' tk hj F' N'
    | succ k ih =>
      intro i m₁ news₁ I oI h tk hi hT hj hne F₁ N₁
      have hlt : i < items.size := by omega
      have hx : items[i]? = some items[i] := Array.getElem?_eq_getElem hlt
      refine forT_item hE F₁ hT N₁ ht hne (v := items[i]) (by rw [Array.getElem?_toList]; exact hx) fun oI' h' hT' F' N' => ?_
      refine wpAny_mono (step i items[i] m₁ news₁ I oI' h' tk hx hj hne F' N') (fun _ s₂ h₂ => wpAny_mono h₂ (fun f s₃ h₃ => ?_) fun _ _ e => e) fun _ _ e => e
      cases f with
      | ret v => exact h₃
      | brk => exact h₃
      | next =>
        obtain ⟨h'', tk', m', news', rfl, F'', N'', ne', j'⟩ := h₃
        exact ih (i + 1) m' news' I oI' h'' tk' (by omega) hT' j' ne' F'' N''
      | cont =>
        obtain ⟨h'', tk', m', news', rfl, F'', N'', ne', j'⟩ := h₃
        exact ih (i + 1) m' news' I oI' h'' tk' (by omega) hT' j' ne' F'' N''
  exact forT_start F N ht fun I oI h' hT F' N' hne => rest items.size 0 m news I oI h' s.toks (by omega) hT hJ hne F' N'
end
/-- the sign that a row tells -/
def pick (md : Int) (ps : List (Int × Nat)) : Nat := match ps.find? (fun p => decide (Builtin.bitAnd md p.1 = p.1)) with
  | some p => p.2
  | none => 45
/-- the pairs of a row of the table -/
inductive PairsAre (g : Heap) : List Value → List (Int × Nat) → Prop
  | nil : PairsAre g [] []
  | cons {a : Addr} {b : Int} {tb tc : Tok} {st : Str} (c : Nat) {vs : List Value} {ps : List (Int × Nat)} : g.IsTuple a #[.int b tb, .str st tc] → st = ⟨#[c]⟩ → PairsAre g vs ps → PairsAre g (.ref a :: vs) ((b, c) :: ps)
theorem PairsAre.len {g : Heap} {vs : List Value} {ps : List (Int × Nat)} (h : PairsAre g vs ps) : vs.length = ps.length := by
  induction h with
  | nil => rfl
  | cons _ _ _ _ ih => rw [List.length_cons, List.length_cons, ih]
theorem PairsAre.get {g : Heap} {vs : List Value} {ps : List (Int × Nat)} (h : PairsAre g vs ps) : ∀ {j : Nat} {v : Value}, vs[j]? = some v → ∃ a b tb tc st c, v = .ref a ∧ ps[j]? = some (b, c) ∧ g.IsTuple a #[.int b tb, .str st tc] ∧ st = ⟨#[c]⟩ := by
  induction h with
  | nil => intro j v h; cases h
  | cons c h1 h2 _ ih =>
    intro j v h
    cases j with
    | zero => cases h; exact ⟨_, _, _, _, _, c, rfl, rfl, h1, h2⟩
    | succ j => exact ih (by simpa using h)
theorem pick_at {md : Int} {ps : List (Int × Nat)} {j : Nat} {b : Int} {c : Nat} (h0 : (ps.take j).find? (fun p => decide (Builtin.bitAnd md p.1 = p.1)) = none) (hj : ps[j]? = some (b, c)) (hb : Builtin.bitAnd md b = b) : pick md ps = c := by
  have e : ps = ps.take j ++ (b, c) :: ps.drop (j + 1) := by
    obtain ⟨hl, e⟩ := List.getElem?_eq_some_iff.mp hj
    rw [← e, List.getElem_cons_drop, List.take_append_drop]
  unfold pick
  have : ps.find? (fun p => decide (Builtin.bitAnd md p.1 = p.1)) = some (b, c) := by
    conv => lhs; rw [e]
    rw [List.find?_append, h0, List.find?_cons]
    simp [hb]
  rw [this]
theorem pick_none {md : Int} {ps : List (Int × Nat)} (h0 : ps.find? (fun p => decide (Builtin.bitAnd md p.1 = p.1)) = none) : pick md ps = 45 := by
  unfold pick; rw [h0]
theorem none_snoc {md : Int} {ps : List (Int × Nat)} {j : Nat} {b : Int} {c : Nat} (h0 : (ps.take j).find? (fun p => decide (Builtin.bitAnd md p.1 = p.1)) = none) (hj : ps[j]? = some (b, c)) (hb : ¬ Builtin.bitAnd md b = b) : (ps.take (j + 1)).find? (fun p => decide (Builtin.bitAnd md p.1 = p.1)) = none := by
  rw [List.take_add_one, hj, List.find?_append, h0]
  simp [hb]

end
theorem reset57sort : True := by
  k_with_none
  w_top off
  try (walk1; fail)
  exact True.intro
section
/-- sorted over a tuple of ints -/
theorem sorted_tupN {prog : Program} {w : World} {A : Around} {E : Value → Shared → Prop} {s : Shared} {h₀ : Heap} {L t : Addr} {o : Obj} {n : Nat} {m : Str → Option Value} {news : List (Addr × Obj)} {vs : List Value} {ns : List Int} {Q : Value → Shared → Prop}
    (F : Fr h₀ L s.heap m) (N : News h₀ L s.heap news) (hm : (t, o) ∈ news) (hc : o.cls = .type "tuple") (hd : o.data = .seq vs.toArray n) (hI : IntsAre vs ns) (h64 : vs.length < 64)
    (h : ∀ (D : Nat) h' vs' ns' e, Fr h₀ L h' m → News h₀ L h' ((D, PySem.W.listOf vs'.toArray e) :: news) → (∀ q ∈ news, @LT.lt Nat _ q.1 D) → IntsAre vs' ns' → ns'.Perm ns → ns'.Pairwise (· ≤ ·) → Q (.ref D) { s with heap := h' }) :
    wpAny (model prog w) A (call (.builtin "sorted") [.ref t]) Q E s := by
  refine Calls.call_function_entry kind_sorted plain_sorted entry_sorted (args_sorted1 _) ?_
  unfold Builtin.«sorted»
  refine wpAny_bind (m := checkCount "sorted" 1 1 _) (wpAny_pure ?_)
  refine wpAny_bind (wpAny_collect_seq t (.inr rfl) (N _ hm).1 hc hd (fun h' hk => ?_) (by rw [sizeLine_eq, List.size_toArray]; omega))
  rw [List.toList_toArray]
  refine wpAny_bind (wpAny_newList ?_)
  have hoL : (h'.push (seqObj "list" vs.toArray 0)).get? h'.objs.size = some (seqObj "list" vs.toArray 0) := Heap.get?_push_size _ rfl
  show wpAny _ _ _ _ _ { s with heap := h'.push (seqObj "list" vs.toArray 0) }
  refine wpAny_bind (wpAny_holding (wpAny_call_entry slot_list_sort ⟨_, hoL, rfl⟩ entry_list_sort (list_sort_tree hoL hI h64 fun out ns' a1 a2 a3 => ⟨_, rfl, ?_⟩) (args_list_sort _)))
  refine wpAny_pure ⟨_, rfl, ?_⟩
  obtain ⟨e, he⟩ := sortedHeap_at (out := out) hoL
  have old : ∀ b o, h'.get? b = some o → (sortedHeap (h'.push (seqObj "list" vs.toArray 0)) h'.objs.size vs out).get? b = some o := fun b o q => by
    have hlt : b < h'.objs.size := Heap.lt_size q
    rw [sortedHeap_old (Nat.ne_of_lt hlt) (by rw [size_push']; exact Nat.lt_succ_of_lt hlt), Heap.get?_push_ne _ _ _ (Nat.ne_of_lt hlt)]
    exact q
  have F1 := Fr.kept F hk
  have N1 : News h₀ L h' news := fun p hp => ⟨hk _ _ (N p hp).1, (N p hp).2⟩
  exact h h'.objs.size _ out.toList ns' e (Fr.kept F1 old) (News.kept_cons F1 N1 old (Nat.le_refl _) he) (fun q hq => Heap.lt_size (N1 q hq).1) a1 a2 a3
theorem good_perm {w : World} {F F' : List (Addr × Obj)} {S : SR} {G : List NR} (g : Good w F S G) (h : F.Perm F') : Good w F' S G := by
  refine ⟨?_, g.dict, g.keys, g.lo⟩
  have e : (canon w F S G).Perm (canon w F' S G) := by unfold canon; exact (h.append_left _).append_left _
  rw [← (e.map _).nodup_iff]
  exact g.nd
theorem news_perm {w : World} {h₀ h : Heap} {L : Addr} {F F' : List (Addr × Obj)} {S : SR} {G : List NR} (N : News h₀ L h (canon w F S G)) (hp : ∀ p ∈ F', p ∈ F) : News h₀ L h (canon w F' S G) := by
  intro q hq
  refine N q ?_
  unfold canon at hq ⊢
  rcases List.mem_append.mp hq with h | h
  · exact List.mem_append_left _ h
  rcases List.mem_append.mp h with h | h
  · exact List.mem_append_right _ (List.mem_append_left _ h)
  · exact List.mem_append_right _ (List.mem_append_right _ (hp q h))
theorem frm3b {h₀ h : Heap} {L : Addr} {m : Str → Option Value} {a b c : Str} {va vb vc : Value} (F : Fr h₀ L h m) (ha : m a = some va) (hb : m b = some vb) (hc : m c = some vc) : Fr h₀ L h (fun y => if y = a then some va else if y = b then some vb else if y = c then some vc else m y) := by
  have : (fun y => if y = a then some va else if y = b then some vb else if y = c then some vc else m y) = m := by
    funext y
    by_cases e1 : y = a
    · rw [if_pos e1, e1, ha]
    rw [if_neg e1]
    by_cases e2 : y = b
    · rw [if_pos e2, e2, hb]
    rw [if_neg e2]
    by_cases e3 : y = c
    · rw [if_pos e3, e3, hc]
    rw [if_neg e3]
  rw [this]; exact F
theorem addr_of {h₀ h : Heap} {L : Addr} {a : Nat} {o : Obj} {l : List (Addr × Obj)} (_N : News h₀ L h ((a, o) :: l)) : ∃ r : Nat, r = a := ⟨a, rfl⟩

end
theorem reset50filemode : True := by
  k_with_none
  w_top off
  try (walk1; fail)
  exact True.intro
section
abbrev chrs (cs : List (Nat × Tok)) : List Value := cs.map fun p => Value.str ⟨#[p.1]⟩ p.2
theorem news_mid {h₀ h : Heap} {L : Addr} {x : Addr × Obj} {own F : List (Addr × Obj)} (N : News h₀ L h (own ++ x :: F)) : News h₀ L h (x :: (own ++ F)) := fun p hp => N p (List.perm_middle.mem_iff.mpr hp)
theorem news_mid' {h₀ h : Heap} {L : Addr} {x : Addr × Obj} {own F : List (Addr × Obj)} (N : News h₀ L h (x :: (own ++ F))) : News h₀ L h (own ++ x :: F) := fun p hp => N p (List.perm_middle.mem_iff.mp hp)
def goodSign (c : Nat) : Prop := c = 114 ∨ c = 119 ∨ c = 120 ∨ c = 115 ∨ c = 116
def Signs (md : Int) (cs : List (Nat × Tok)) : Prop := ∀ (j : Nat) (c : Nat) (t : Tok), cs[j]? = some (c, t) → 1 ≤ j → (goodSign c ↔ needs md (j - 1))
theorem frm4 {h₀ h : Heap} {L : Addr} {m : Str → Option Value} {x y0 a b : Str} {vx vy va vb : Value} (F : Fr h₀ L h (fun y => if y = x then some vx else if y = y0 then some vy else m y)) (ha : m a = some va) (hb : m b = some vb) :
    Fr h₀ L h (fun y => if y = x then some vx else if y = y0 then some vy else if y = a then some va else if y = b then some vb else m y) := by
  have e : (fun y => if y = x then some vx else if y = y0 then some vy else m y) = (fun y => if y = x then some vx else if y = y0 then some vy else if y = a then some va else if y = b then some vb else m y) := by
    funext y
    exact congrArg (fun z => if y = x then some vx else if y = y0 then some vy else z) (congrFun (map2 ha hb) y)
  exact e ▸ F
theorem chrs_carried : ∀ cs : List (Nat × Tok), CarriedAll (chrs cs) (cs.map fun a => PyData.str ⟨#[a.1]⟩)
  | [] => .nil
  | _ :: cs => .cons (by first | exact .str _ _ | constructor | trivial) (chrs_carried cs)
theorem str_eq {a b : Str} (h : a.cps.toList = b.cps.toList) : a = b := by
  cases a; cases b
  congr 1
  exact Array.toList_inj.mp h
theorem join_chr : ∀ l : List Nat, (Str.join (PySem.Str.ofString "") (l.map fun c => (⟨#[c]⟩ : Str))).cps.toList = l
  | [] => rfl
  | [c] => rfl
  | c :: d :: l => by
    have ih := join_chr (d :: l)
    show ((⟨#[c]⟩ : Str) ++ PySem.Str.ofString "" ++ Str.join (PySem.Str.ofString "") ((d :: l).map fun c => (⟨#[c]⟩ : Str))).cps.toList = _
    show ((#[c] ++ (PySem.Str.ofString "").cps) ++ (Str.join (PySem.Str.ofString "") ((d :: l).map fun c => (⟨#[c]⟩ : Str))).cps).toList = _
    rw [Array.toList_append, ih]
    rfl
theorem chrs_join (cs : List (Nat × Tok)) : PySem.Txt.join (PySem.Str.ofString "") (cs.map fun a => (⟨#[a.1]⟩ : Str)) = ⟨(cs.map (·.1)).toArray⟩ := by
  refine str_eq ?_
  show (Builtin.Str.glued (PySem.Str.ofString "") _).cps.toList = _
  rw [StrLaws.glued_eq_join]
  have := join_chr (cs.map (·.1))
  rw [List.map_map] at this
  exact this
theorem chrs_push (cs : List (Nat × Tok)) (c : Nat) (t : Tok) : (chrs cs).toArray.push (.str ⟨#[c]⟩ t) = (chrs (cs ++ [(c, t)])).toArray := by simp [chrs]
theorem news_tl {h₀ h : Heap} {L : Addr} {x : Addr × Obj} {l : List (Addr × Obj)} (N : News h₀ L h (x :: l)) : News h₀ L h l := fun q hq => N q (.tail _ hq)
theorem fm_end {h₀ h : Heap} {L lp : Addr} {own F : List (Addr × Obj)} {cs : List (Nat × Tok)} {ep ep' i c : Nat} {md : Int} {mt t : Tok} {st : Str} {s₁ : Shared} {tk : Nat} {m2 : Str → Option Value} {Qr : Value → Shared → Prop} {Qb : Shared → Prop}
    (F' : Fr h₀ L h m2) (N' : News h₀ L h ((lp, listOf ((chrs cs).toArray.push (.str st t)) ep') :: (own ++ F))) (hst : st = ⟨#[c]⟩) (hlen : cs.length = i) (hsg : Signs md cs) (hc : 1 ≤ i → (goodSign c ↔ needs md (i - 1)))
    (v1 : m2 (Str.ofString "perm") = some (.ref lp)) (v2 : m2 (Str.ofString "mode") = some (.int md mt)) :
    LoopStep3 h₀ L own ((lp, listOf (chrs cs).toArray ep) :: F) (fun m₁ news₁ => ∃ cs ep, news₁ = (lp, listOf (chrs cs).toArray ep) :: F ∧ cs.length = i + 1 ∧ Signs md cs ∧ m₁ (Str.ofString "perm") = some (.ref lp) ∧ m₁ (Str.ofString "mode") = some (.int md mt)) s₁ Qr Qb .next { s₁ with heap := h, toks := tk } := by
  subst hst
  rw [chrs_push] at N'
  refine LoopStep2.intro F' (news_mid' N') rfl ⟨cs ++ [(c, t)], ep', rfl, by simp [hlen], ?_, v1, v2⟩
  intro j c' t' hj h1
  by_cases h : j < cs.length
  · rw [List.getElem?_append_left h] at hj
    exact hsg j c' t' hj h1
  · have hlt := (List.getElem?_eq_some_iff.mp hj).1
    rw [List.length_append] at hlt
    simp only [List.length_cons, List.length_nil] at hlt
    have : j = cs.length := by omega
    subst this
    rw [List.getElem?_append_right (Nat.le_refl _), Nat.sub_self] at hj
    cases hj
    rw [hlen] at h1 ⊢
    exact hc h1
abbrev row0 : Array Value := #[.ref 163, .ref 164, .ref 165, .ref 166, .ref 167, .ref 168, .ref 169]
abbrev rows10 : Array Value := #[.ref 170, .ref 172, .ref 174, .ref 178, .ref 180, .ref 182, .ref 186, .ref 188, .ref 190, .ref 194]
theorem good1 {n : Nat} {b : Int} {c k : Nat} (hc : goodSign c) (hk : k ≤ 8) (hb : Builtin.bitAnd (n : Int) b = b ↔ n.testBit (8 - k) = true) : goodSign (pick (n : Int) [(b, c)]) ↔ needs (n : Int) k := by
  rw [needs_bit n k hk]
  by_cases h : Builtin.bitAnd (n : Int) b = b
  · rw [pick_at (j := 0) rfl rfl h]; exact iff_of_true hc (hb.mp h)
  · rw [pick_none (by simp [h])]; exact iff_of_false (by unfold goodSign; decide) (fun q => h (hb.mpr q))
theorem good3 {n : Nat} {b1 b2 b3 : Int} {c1 c2 c3 k : Nat} {x : Bool} (h1 : goodSign c1) (h2 : ¬ goodSign c2) (h3 : goodSign c3) (hk : k ≤ 8) (e1 : Builtin.bitAnd (n : Int) b1 = b1 ↔ x = true ∧ n.testBit (8 - k) = true) (e2 : Builtin.bitAnd (n : Int) b2 = b2 ↔ x = true)
    (e3 : Builtin.bitAnd (n : Int) b3 = b3 ↔ n.testBit (8 - k) = true) : goodSign (pick (n : Int) [(b1, c1), (b2, c2), (b3, c3)]) ↔ needs (n : Int) k := by
  rw [needs_bit n k hk]
  by_cases q1 : Builtin.bitAnd (n : Int) b1 = b1
  · rw [pick_at (j := 0) rfl rfl q1]; exact iff_of_true h1 (e1.mp q1).2
  by_cases q2 : Builtin.bitAnd (n : Int) b2 = b2
  · rw [pick_at (j := 1) (by simp [q1]) rfl q2]; exact iff_of_false h2 (fun q => q1 (e1.mpr ⟨e2.mp q2, q⟩))
  by_cases q3 : Builtin.bitAnd (n : Int) b3 = b3
  · rw [pick_at (j := 2) (by simp [q1, q2]) rfl q3]; exact iff_of_true h3 (e3.mp q3)
  · rw [pick_none (by simp [q1, q2, q3])]; exact iff_of_false (by unfold goodSign; decide) (fun q => q3 (e3.mpr q))
section
variable {w : World} {A₀ : Around} {base h₀ : Heap} {env : Env} {outer : List Env} {L : Addr} {m mg mb : Str → Option Value} {p : Program} {loose : List Str} {mean : ExcName → Option Value} {s : Shared} {R : Result → Shared → Prop} {F : List (Addr × Obj)}
/-- THE CONTRACT of S_IFMT -/
theorem ifmt_ok {A : Around} (B : Below A₀ base outer h₀) (F₀ : Fr h₀ L s.heap m) (X₀ : (Mine.hd.heap_39 w.params).In h₀) (N : News h₀ L s.heap F) (T : Top p loose mean mg mb h₀) (hA : A.frames = some (env :: outer)) (hh : A.handled = none) (hf : env.frame = some L) (hke : env.scope.kind = .function) (hroom : A.depth < 750)
    {md : Int} {mt : Tok}
    (hR : ∀ h' tk' tt, Fr h₀ L h' m → News h₀ L h' F → R (.ok (.ret (.int (Builtin.bitAnd md 61440) tt))) { s with heap := h', toks := tk' }) :
    codeAny (model PR w) A (.call (.ref 162) ⟨[.int md mt], []⟩) R s := by
  obtain ⟨hd, d, fr, gs, u⟩ := A
  dsimp only at hA hh hroom
  subst hA hh
  refine' code_def B F₀ X₀ N T rfl hf hke ?k6 ?k7 ?k8 ?k9 ?kB ?_ ?c2 ?c3 ?c4 ?c5
  case k6 => k_is
  case k7 => k_is
  case k8 => k_room
  case k9 => exact BindsTo.of_eq rfl
  case c5 => decide
  case kB => exact locs rfl
  case c2 => exact rfl
  case c3 => exact rfl
  case c4 => exact rfl
  intro g' L' h' FG' F' N' B' X' T'; (try dsimp only); k_fold
  clear F₀ N
  k_with_none
  w_strict k_steps
  exact hR _ _ _ (by assumption) (by assumption)
set_option maxHeartbeats 8000000 in
/-- THE CONTRACT of filemode -/
theorem fm_ok {A : Around} (B : Below A₀ base outer h₀) (F₀ : Fr h₀ L s.heap m) (X₀ : (Mine.hd.heap_39 w.params).In h₀) (N : News h₀ L s.heap F) (T : Top p loose mean mg mb h₀) (hA : A.frames = some (env :: outer)) (hh : A.handled = none) (hf : env.frame = some L) (hke : env.scope.kind = .function) (hroom : A.depth < 700)
    {md : Int} {mt : Tok} (h0 : 0 ≤ md) (h1 : md < 65536)
    (hR : ∀ h' tk' (cs : List Nat) tt, cs.length = 10 → (∀ j c, cs[j + 1]? = some c → (goodSign c ↔ needs md j)) → Fr h₀ L h' m → News h₀ L h' F → R (.ok (.ret (.str ⟨cs.toArray⟩ tt))) { s with heap := h', toks := tk' }) :
    codeAny (model PR w) A (.call (.ref 202) ⟨[.int md mt], []⟩) R s := by
  obtain ⟨hd, d, fr, gs, u⟩ := A
  dsimp only at hA hh hroom
  subst hA hh
  refine' code_def B F₀ X₀ N T rfl hf hke ?k6 ?k7 ?k8 ?k9 ?kB ?_ ?c2 ?c3 ?c4 ?c5
  case k6 => k_is
  case k7 => k_is
  case k8 => k_room
  case k9 => exact BindsTo.of_eq rfl
  case c5 => decide
  case kB => exact locs rfl
  case c2 => exact rfl
  case c3 => exact rfl
  case c4 => exact rfl
  intro g' L' h' FG' F' N' B' X' T'; (try dsimp only); k_fold
  clear F₀ N
  k_with_none
  k_with "newList" => refine halt ?_
  w_strict k_steps
  refine unhalt ?_
  refine' newList_K ?n1 ?n2 ?_
  case n1 => assumption
  case n2 => assumption
  intro lp h8 F8 N8 l8
  k_sweep
  k_with_none
  k_with "call type:enumerate" => refine halt ?_
  w_strict k_steps
  rename News g' L' _ _ => N7
  rename Fr g' L' _ _ => F7
  refine unhalt ?_
  have h195 : g'.IsTuple 195 rows10 := ⟨_, X' _ _ (by k_is), rfl, _, rfl⟩
  refine enum_tup (items := rows10) (fun i m₁ news₁ => ∃ cs ep, news₁ = (lp, listOf (chrs cs).toArray ep) :: F ∧ cs.length = i ∧ Signs md cs ∧ m₁ (Str.ofString "perm") = some (.ref lp) ∧ m₁ (Str.ofString "mode") = some (.int md mt)) rfl F7 N7 h195 ⟨[], 0, rfl, rfl, fun j c t h => by simp at h, rfl, rfl⟩ ?turn ?done
  case done =>
    rintro h9 tk9 m9 news9 F9 N9 ⟨cs, ep, rfl, hlen, hsg, v1, v2⟩
    replace F9 := frm1 F9 v1
    clear F7 N7
    k_with_none
    k_with "call builtin:str.join" => refine halt ?_
    dsimp only
    w_strict k_steps
    refine unhalt ?_
    refine KT.join_1 (ys := chrs cs) (l := cs) (g := fun a => ⟨#[a.1]⟩) (News.isList (items := (chrs cs).toArray) (by k_asm) (.head _)) (chrs_carried cs) (fun _ _ => rfl) (by rw [hlen]; decide) ?_
    intro t7 k7 e7
    rw [chrs_join]
    k_with_none
    w_strict k_steps
    refine hR _ _ (cs.map (·.1)) _ (by rw [List.length_map]; exact hlen) ?_ (by assumption) (news_tl (by assumption))
    intro j c hj
    rw [List.getElem?_map, Option.map_eq_some_iff] at hj
    obtain ⟨⟨c', t'⟩, hq, rfl⟩ := hj
    exact hsg (j + 1) c' t' hq (Nat.le_add_left _ _)
  case turn =>
    rintro i v1 t0 m₁ news₁ own h9 tk9 hx ⟨cs, ep, rfl, hlen, hsg, v1', v2⟩ hmap hown F9 N9
    obtain ⟨n, rfl⟩ := Int.eq_ofNat_of_zero_le h0
    replace F9 := frm4 F9 v1' v2
    replace N9 := news_mid N9
    have hlp : ∀ q ∈ own ++ F, q.1 ≠ lp := by
      intro q hq
      rcases List.mem_append.mp hq with h | h
      · exact hown q h _ (.head _)
      · exact Nat.ne_of_lt (l8 q h)
    have hsz : (chrs cs).toArray.size ≤ sizeLine := by
      have : i < 10 := by
        rcases Nat.lt_or_ge i 10 with h | h
        · exact h
        · rw [Array.getElem?_eq_none (show rows10.size ≤ i from h)] at hx; cases hx
      simp only [chrs, List.size_toArray, List.length_map]
      rw [hlen, sizeLine_eq]
      omega
    clear F7 N7
    have hi10 : i < 10 := by
      rcases Nat.lt_or_ge i 10 with h | h
      · exact h
      · rw [Array.getElem?_eq_none (show rows10.size ≤ i from h)] at hx; cases hx
    obtain ⟨ri, items, ps, hv1, hti, hpa, hgood⟩ : ∃ ri items ps, v1 = .ref ri ∧ g'.IsTuple ri items ∧ PairsAre g' items.toList ps ∧ (1 ≤ i → (goodSign (pick (n : Int) ps) ↔ needs (n : Int) (i - 1))) := by
      rcases i with _ | _ | _ | _ | _ | _ | _ | _ | _ | _ | i
      · obtain rfl : v1 = .ref 170 := (Option.some.inj hx).symm
        exact ⟨170, _, _, rfl, ⟨_, X' _ _ (by k_is), rfl, _, rfl⟩, PairsAre.cons (a := 163) 108 ⟨_, X' _ _ (by k_is), rfl, _, rfl⟩ rfl (PairsAre.cons (a := 164) 115 ⟨_, X' _ _ (by k_is), rfl, _, rfl⟩ rfl (PairsAre.cons (a := 165) 45 ⟨_, X' _ _ (by k_is), rfl, _, rfl⟩ rfl (PairsAre.cons (a := 166) 98 ⟨_, X' _ _ (by k_is), rfl, _, rfl⟩ rfl (PairsAre.cons (a := 167) 100 ⟨_, X' _ _ (by k_is), rfl, _, rfl⟩ rfl (PairsAre.cons (a := 168) 99 ⟨_, X' _ _ (by k_is), rfl, _, rfl⟩ rfl (PairsAre.cons (a := 169) 112 ⟨_, X' _ _ (by k_is), rfl, _, rfl⟩ rfl (PairsAre.nil))))))), fun h => absurd h (by decide)⟩
      · obtain rfl : v1 = .ref 172 := (Option.some.inj hx).symm
        exact ⟨172, _, _, rfl, ⟨_, X' _ _ (by k_is), rfl, _, rfl⟩, PairsAre.cons (a := 171) 114 ⟨_, X' _ _ (by k_is), rfl, _, rfl⟩ rfl (PairsAre.nil), fun _ => good1 (by unfold goodSign; decide) (by decide) (b256 n)⟩
      · obtain rfl : v1 = .ref 174 := (Option.some.inj hx).symm
        exact ⟨174, _, _, rfl, ⟨_, X' _ _ (by k_is), rfl, _, rfl⟩, PairsAre.cons (a := 173) 119 ⟨_, X' _ _ (by k_is), rfl, _, rfl⟩ rfl (PairsAre.nil), fun _ => good1 (by unfold goodSign; decide) (by decide) (b128 n)⟩
      · obtain rfl : v1 = .ref 178 := (Option.some.inj hx).symm
        exact ⟨178, _, _, rfl, ⟨_, X' _ _ (by k_is), rfl, _, rfl⟩, PairsAre.cons (a := 175) 115 ⟨_, X' _ _ (by k_is), rfl, _, rfl⟩ rfl (PairsAre.cons (a := 176) 83 ⟨_, X' _ _ (by k_is), rfl, _, rfl⟩ rfl (PairsAre.cons (a := 177) 120 ⟨_, X' _ _ (by k_is), rfl, _, rfl⟩ rfl (PairsAre.nil))), fun _ => good3 (by unfold goodSign; decide) (by unfold goodSign; decide) (by unfold goodSign; decide) (by decide) (b2112 n) (b2048 n) (b64 n)⟩
      · obtain rfl : v1 = .ref 180 := (Option.some.inj hx).symm
        exact ⟨180, _, _, rfl, ⟨_, X' _ _ (by k_is), rfl, _, rfl⟩, PairsAre.cons (a := 179) 114 ⟨_, X' _ _ (by k_is), rfl, _, rfl⟩ rfl (PairsAre.nil), fun _ => good1 (by unfold goodSign; decide) (by decide) (b32 n)⟩
      · obtain rfl : v1 = .ref 182 := (Option.some.inj hx).symm
        exact ⟨182, _, _, rfl, ⟨_, X' _ _ (by k_is), rfl, _, rfl⟩, PairsAre.cons (a := 181) 119 ⟨_, X' _ _ (by k_is), rfl, _, rfl⟩ rfl (PairsAre.nil), fun _ => good1 (by unfold goodSign; decide) (by decide) (b16 n)⟩
      · obtain rfl : v1 = .ref 186 := (Option.some.inj hx).symm
        exact ⟨186, _, _, rfl, ⟨_, X' _ _ (by k_is), rfl, _, rfl⟩, PairsAre.cons (a := 183) 115 ⟨_, X' _ _ (by k_is), rfl, _, rfl⟩ rfl (PairsAre.cons (a := 184) 83 ⟨_, X' _ _ (by k_is), rfl, _, rfl⟩ rfl (PairsAre.cons (a := 185) 120 ⟨_, X' _ _ (by k_is), rfl, _, rfl⟩ rfl (PairsAre.nil))), fun _ => good3 (by unfold goodSign; decide) (by unfold goodSign; decide) (by unfold goodSign; decide) (by decide) (b1032 n) (b1024 n) (b8 n)⟩
      · obtain rfl : v1 = .ref 188 := (Option.some.inj hx).symm
        exact ⟨188, _, _, rfl, ⟨_, X' _ _ (by k_is), rfl, _, rfl⟩, PairsAre.cons (a := 187) 114 ⟨_, X' _ _ (by k_is), rfl, _, rfl⟩ rfl (PairsAre.nil), fun _ => good1 (by unfold goodSign; decide) (by decide) (b4 n)⟩
      · obtain rfl : v1 = .ref 190 := (Option.some.inj hx).symm
        exact ⟨190, _, _, rfl, ⟨_, X' _ _ (by k_is), rfl, _, rfl⟩, PairsAre.cons (a := 189) 119 ⟨_, X' _ _ (by k_is), rfl, _, rfl⟩ rfl (PairsAre.nil), fun _ => good1 (by unfold goodSign; decide) (by decide) (b2 n)⟩
      · obtain rfl : v1 = .ref 194 := (Option.some.inj hx).symm
        exact ⟨194, _, _, rfl, ⟨_, X' _ _ (by k_is), rfl, _, rfl⟩, PairsAre.cons (a := 191) 116 ⟨_, X' _ _ (by k_is), rfl, _, rfl⟩ rfl (PairsAre.cons (a := 192) 84 ⟨_, X' _ _ (by k_is), rfl, _, rfl⟩ rfl (PairsAre.cons (a := 193) 120 ⟨_, X' _ _ (by k_is), rfl, _, rfl⟩ rfl (PairsAre.nil))), fun _ => good3 (by unfold goodSign; decide) (by unfold goodSign; decide) (by unfold goodSign; decide) (by decide) (b513 n) (b512 n) (b1 n)⟩
      · exact absurd hi10 (by omega)
    subst hv1
    clear hx
    by_cases hi0 : i = 0
    · subst hi0
      have hci : (((0 : Nat) : Int) == 0) = true := rfl
      k_with_none
      k_with "exec For Tuple Name cons cons" => (k_dflt (refine for_start ?_ (fun _ => rfl)))
      k_with "pyIter ref" => refine halt ?_
      w_strict k_steps
      rename News _ _ _ _ => N2
      rename Fr _ _ _ _ => F2
      refine unhalt ?_
      refine forT_all (items := items) (fun j m₂ nw => nw = (lp, listOf (chrs cs).toArray ep) :: (own ++ F) ∧ m₂ (Str.ofString "perm") = some (.ref lp) ∧ m₂ (Str.ofString "mode") = some (.int (n : Int) mt) ∧ m₂ (Str.ofString "index") = some (.int ((0 : Nat) : Int) t0)) rfl (by passes_own) F2 N2 hti ⟨rfl, rfl, rfl, rfl⟩ ?step ?fin
      case step =>
        rintro j v m₂ nw I oI h8 tk8 hxj ⟨rfl, w1, w2, w3⟩ hI F8 N8
        obtain ⟨a, b, tb, tc, st, c, rfl, hpj, hta, hst⟩ := hpa.get (by rw [Array.getElem?_toList]; exact hxj)
        replace F8 := frm3b F8 w1 w2 w3
        clear F2 N2; (try clear F9); (try clear N9)
        k_with_none
        k_with "assign Tuple" => (k_dflt (refine unpackN_ (by k_asm) (by k_asm) (let ⟨o, ho, r⟩ := hta; ⟨o, F8.keep _ _ ho, r⟩) rfl rfl rfl ?_); intro h3 F3 N3)
        k_with "compareOp Eq int int" => (k_dflt (refine PyProof.Rows.eq_int ?_; (try rw [hci])))
        k_with "call ref" => (k_dflt (refine wpAny_call ?_; refine ifmt_ok B' (by k_asm) X' (by k_asm) T' rfl rfl rfl rfl (by dsimp only [Around.deeper]; omega) ?_); intro h4 tk4 tt4 F4 N4; (try dsimp only))
        k_with "call builtin:list.append" => (k_dflt (refine append_K (by k_asm) (by k_asm) (Upd.tail (Ne.symm (hI _ (.head _))) (Upd.head hlp)) ?_ hsz); intro h4 F4 N4)
        w_strict k_steps
        · rename News _ _ _ _ => N5
          rename Fr _ _ _ _ => F5
          dsimp only
          unfold TurnEnd
          dsimp only
          exact wpAny_execs_nil (fm_end (c := c) F5 (news_tl N5) hst hlen hsg (fun h => absurd h (by decide)) rfl rfl)
        · rename News _ _ _ _ => N5
          rename Fr _ _ _ _ => F5
          exact TurnEnd.next F5 N5 hI ⟨rfl, rfl, rfl, rfl⟩
      case fin =>
        rintro m₂ nw h8 tk8 ⟨rfl, w1, w2, w3⟩ F8 N8
        replace F8 := frm3b F8 w1 w2 w3
        clear F2 N2; (try clear F9); (try clear N9)
        k_with_none
        k_with "compareOp Eq int int" => (k_dflt (refine PyProof.Rows.eq_int ?_; (try rw [hci])))
        k_with "call builtin:list.append" => (k_dflt (refine append_K (by k_asm) (by k_asm) (Upd.head hlp) ?_ hsz); intro h4 F4 N4)
        w_strict k_steps
        rename News _ _ _ _ => N5
        rename Fr _ _ _ _ => F5
        exact fm_end (c := 63) F5 N5 rfl hlen hsg (fun h => absurd h (by decide)) rfl rfl
    · have hci : ((i : Int) == 0) = false := beq_false_of_ne (by omega)
      k_with_none
      k_with "exec For Tuple Name cons cons" => (k_dflt (refine for_start ?_ (fun _ => rfl)))
      k_with "pyIter ref" => refine halt ?_
      w_strict k_steps
      rename News _ _ _ _ => N2
      rename Fr _ _ _ _ => F2
      refine unhalt ?_
      refine forT_all (items := items) (fun j m₂ nw => nw = (lp, listOf (chrs cs).toArray ep) :: (own ++ F) ∧ m₂ (Str.ofString "perm") = some (.ref lp) ∧ m₂ (Str.ofString "mode") = some (.int (n : Int) mt) ∧ m₂ (Str.ofString "index") = some (.int (i : Int) t0) ∧
        (ps.take j).find? (fun p => decide (Builtin.bitAnd (n : Int) p.1 = p.1)) = none) rfl (by passes_own) F2 N2 hti ⟨rfl, rfl, rfl, rfl, rfl⟩ ?step1 ?fin1
      case step1 =>
        rintro j v m₂ nw I oI h8 tk8 hxj ⟨rfl, w1, w2, w3, hno⟩ hI F8 N8
        obtain ⟨a, b, tb, tc, st, c, rfl, hpj, hta, hst⟩ := hpa.get (by rw [Array.getElem?_toList]; exact hxj)
        replace F8 := frm3b F8 w1 w2 w3
        clear F2 N2; (try clear F9); (try clear N9)
        k_with_none
        k_with "assign Tuple" => (k_dflt (refine unpackN_ (by k_asm) (by k_asm) (let ⟨o, ho, r⟩ := hta; ⟨o, F8.keep _ _ ho, r⟩) rfl rfl rfl ?_); intro h3 F3 N3)
        k_with "compareOp Eq int int" => (k_dflt (refine PyProof.Rows.eq_int ?_; (try rw [hci])))
        k_with "call builtin:list.append" => (k_dflt (refine append_K (by k_asm) (by k_asm) (Upd.tail (Ne.symm (hI _ (.head _))) (Upd.head hlp)) ?_ hsz); intro h4 F4 N4)
        w_strict k_steps
        · have hb : Builtin.bitAnd (n : Int) b = b := by assumption
          rename News _ _ _ _ => N5
          rename Fr _ _ _ _ => F5
          dsimp only
          unfold TurnEnd
          dsimp only
          exact wpAny_execs_nil (fm_end (c := c) F5 (news_tl N5) hst hlen hsg (fun h1 => by rw [← pick_at hno hpj hb]; exact hgood h1) rfl rfl)
        · have hb : ¬ Builtin.bitAnd (n : Int) b = b := by assumption
          rename News _ _ _ _ => N5
          rename Fr _ _ _ _ => F5
          exact TurnEnd.next F5 N5 hI ⟨rfl, rfl, rfl, rfl, none_snoc hno hpj hb⟩
      case fin1 =>
        rintro m₂ nw h8 tk8 ⟨rfl, w1, w2, w3, hno⟩ F8 N8
        replace F8 := frm3b F8 w1 w2 w3
        have hsi : items.size = ps.length := by rw [← hpa.len, Array.length_toList]
        rw [hsi, List.take_of_length_le (Nat.le_refl _)] at hno
        clear F2 N2; (try clear F9); (try clear N9)
        k_with_none
        k_with "compareOp Eq int int" => (k_dflt (refine PyProof.Rows.eq_int ?_; (try rw [hci])))
        k_with "call builtin:list.append" => (k_dflt (refine append_K (by k_asm) (by k_asm) (Upd.head hlp) ?_ hsz); intro h4 F4 N4)
        w_strict k_steps
        rename News _ _ _ _ => N5
        rename Fr _ _ _ _ => F5
        exact fm_end (c := 45) F5 N5 rfl hlen hsg (fun h1 => by rw [← pick_none hno]; exact hgood h1) rfl rfl
end

end
theorem reset52seg : True := by
  k_with_none
  w_top off
  try (walk1; fail)
  exact True.intro
section
/-- what the figures l .. r tell -/
def segval (ds : List Int) (l r : Nat) : Int := (((ds.drop l).take (r - l)).foldr (fun x a => x + 65536 * a) 0)
theorem foldr_app (a b : List Int) : (a ++ b).foldr (fun x s => x + 65536 * s) 0 = a.foldr (fun x s => x + 65536 * s) 0 + 65536 ^ a.length * b.foldr (fun x s => x + 65536 * s) 0 := by
  induction a with
  | nil => simp
  | cons x a ih =>
    rw [List.cons_append, List.foldr_cons, List.foldr_cons, ih, List.length_cons, Int.mul_add, ← Int.add_assoc, ← Int.mul_assoc, Int.pow_succ, Int.mul_comm (65536 ^ a.length) 65536]
theorem seg_split (ds : List Int) {l k r : Nat} (h1 : l ≤ k) (h2 : k ≤ r) (h3 : r ≤ ds.length) : segval ds l r = segval ds l k + 65536 ^ (k - l) * segval ds k r := by
  unfold segval
  have e : (ds.drop l).take (r - l) = (ds.drop l).take (k - l) ++ (ds.drop k).take (r - k) := by
    have e1 : r - l = (k - l) + (r - k) := by omega
    rw [e1, List.take_add, List.drop_drop, Nat.add_sub_cancel' h1]
  rw [e, foldr_app]
  congr 2
  rw [List.length_take, List.length_drop]
  congr 1
  omega
theorem seg_one (ds : List Int) {l : Nat} (h : l < ds.length) : segval ds l (l + 1) = ds[l] := by
  unfold segval
  rw [Nat.add_sub_cancel_left, List.take_one, List.head?_drop, List.getElem?_eq_getElem h]
  simp
theorem fold_bound (a : List Int) (h : ∀ x ∈ a, 0 ≤ x ∧ x < 65536) : 0 ≤ a.foldr (fun x s => x + 65536 * s) 0 ∧ a.foldr (fun x s => x + 65536 * s) 0 < 65536 ^ a.length := by
  induction a with
  | nil => simp
  | cons x a ih =>
    have hx := h x (.head _)
    obtain ⟨i1, i2⟩ := ih fun y hy => h y (.tail _ hy)
    rw [List.foldr_cons, List.length_cons, Int.pow_succ]
    generalize a.foldr (fun x s => x + 65536 * s) 0 = v at i1 i2 ⊢
    generalize (65536 : Int) ^ a.length = P at i2 ⊢
    omega
theorem seg_bound (ds : List Int) (h : ∀ x ∈ ds, 0 ≤ x ∧ x < 65536) (l r : Nat) (hr : r ≤ ds.length) : 0 ≤ segval ds l r ∧ segval ds l r < 65536 ^ (r - l) := by
  have := fold_bound ((ds.drop l).take (r - l)) fun x hx => h x (List.mem_of_mem_drop (List.mem_of_mem_take hx))
  rw [List.length_take, List.length_drop, Nat.min_eq_left (by omega)] at this
  exact this
theorem pow16 {l k : Nat} (h : l ≤ k) : (2 : Int) ^ (((k : Int) - (l : Int)) * 16).toNat = 65536 ^ (k - l) := by
  have e : (((k : Int) - (l : Int)) * 16).toNat = 16 * (k - l) := by omega
  rw [e, Int.pow_mul]
  rfl
theorem cast_pow (k : Nat) : ((65536 ^ k : Nat) : Int) = (65536 : Int) ^ k := by
  induction k with
  | zero => rfl
  | succ k ih => rw [Nat.pow_succ, Int.natCast_mul, ih, Int.pow_succ]; rfl
theorem seg_bits (ds : List Int) (h : ∀ x ∈ ds, 0 ≤ x ∧ x < 65536) {l r : Nat} (hr : r ≤ ds.length) (h9 : ds.length ≤ 9) : Builtin.Int.intBits (segval ds l r) ≤ 144 := by
  obtain ⟨h1, h2⟩ := seg_bound ds h l r hr
  refine intBits_le (k := 144) ?_
  rw [← cast_pow] at h2
  have h3 : (65536 ^ (r - l) : Nat) ≤ 65536 ^ 9 := Nat.pow_le_pow_right (by decide) (by omega)
  have h4 : (2 ^ 144 : Nat) = 65536 ^ 9 := by decide
  rw [h4]
  generalize (65536 ^ (r - l) : Nat) = P at h2 h3
  generalize (65536 ^ 9 : Nat) = P9 at h3 ⊢
  omega

end
theorem reset53xor : True := by
  k_with_none
  w_top off
  try (walk1; fail)
  exact True.intro
section
theorem and_up (x s : Nat) : x &&& (x / 2 ^ s * 2 ^ s) = x / 2 ^ s * 2 ^ s := by
  refine Nat.eq_of_testBit_eq fun c => ?_
  rw [Nat.testBit_and, Nat.testBit_mul_two_pow]
  by_cases h2 : s ≤ c
  · rw [Nat.testBit_div_two_pow, Nat.sub_add_cancel h2]
    simp [h2]
  · simp [h2]
theorem last_pos (ds : List Int) (h : ∀ x ∈ ds, 0 ≤ x ∧ x < 65536) (hne : ds ≠ []) (hl : ds.getLast hne ≠ 0) : 65536 ^ (ds.length - 1) ≤ segval ds 0 ds.length := by
  have h1 : 0 < ds.length := List.length_pos_iff.mpr hne
  rw [seg_split ds (l := 0) (k := ds.length - 1) (r := ds.length) (Nat.zero_le _) (by omega) (Nat.le_refl _)]
  have e : ds.length - 1 + 1 = ds.length := by omega
  have s1 : segval ds (ds.length - 1) ds.length = ds[ds.length - 1] := by
    have := seg_one ds (l := ds.length - 1) (by omega)
    rw [e] at this
    exact this
  rw [s1]
  have s2 := (seg_bound ds h 0 (ds.length - 1) (by omega)).1
  have s3 : ds[ds.length - 1] ≠ 0 := by rw [← List.getLast_eq_getElem hne]; exact hl
  have s4 := h ds[ds.length - 1] (List.getElem_mem _)
  have s5 : (1 : Int) ≤ ds[ds.length - 1] := by omega
  have s6 : (65536 : Int) ^ (ds.length - 1 - 0) * 1 ≤ 65536 ^ (ds.length - 1 - 0) * ds[ds.length - 1] := Int.mul_le_mul_of_nonneg_left s5 (by rw [← cast_pow]; exact Int.natCast_nonneg _)
  rw [Nat.sub_zero] at s6 ⊢
  rw [Int.mul_one] at s6
  omega
theorem bits_len (ds : List Int) (h : ∀ x ∈ ds, 0 ≤ x ∧ x < 65536) (hne : ds ≠ []) (hl : ds.getLast hne ≠ 0) : 16 * (ds.length - 1) < Builtin.Int.intBits (segval ds 0 ds.length) ∧ Builtin.Int.intBits (segval ds 0 ds.length) ≤ 16 * ds.length := by
  obtain ⟨b1, b2⟩ := seg_bound ds h 0 ds.length (Nat.le_refl _)
  have b3 := last_pos ds h hne hl
  rw [← cast_pow] at b2 b3
  obtain ⟨a, ha⟩ := Int.eq_ofNat_of_zero_le b1
  rw [ha] at b2 b3 ⊢
  have c2 : a < 65536 ^ ds.length := by rw [Nat.sub_zero] at b2; exact Int.ofNat_lt.mp b2
  have c3 : 65536 ^ (ds.length - 1) ≤ a := Int.ofNat_le.mp b3
  have e : ∀ k, (65536 : Nat) ^ k = 2 ^ (16 * k) := fun k => by rw [Nat.pow_mul]
  rw [e] at c2 c3
  have c4 : a ≠ 0 := by have := Nat.pow_pos (n := 16 * (ds.length - 1)) (show 0 < 2 by decide); omega
  refine ⟨?_, intBits_le (by rw [Int.natAbs_natCast]; exact c2)⟩
  unfold Builtin.Int.intBits
  have c5 : ((a : Int) == 0) = false := by simp; exact c4
  rw [c5, if_neg (by decide), Int.natAbs_natCast]
  exact Nat.lt_succ_of_le ((Nat.le_log2 c4).mpr c3)
theorem bits_div (ds : List Int) (h : ∀ x ∈ ds, 0 ≤ x ∧ x < 65536) (hne : ds ≠ []) (hl : ds.getLast hne ≠ 0) : ((Builtin.Int.intBits (segval ds 0 ds.length) : Nat) + 16 - 1 : Int) / 16 = (ds.length : Int) := by
  obtain ⟨b1, b2⟩ := bits_len ds h hne hl
  have : 0 < ds.length := List.length_pos_iff.mpr hne
  omega
/-- the upper and the lower part -/
theorem seg_upper (ds : List Int) (h : ∀ x ∈ ds, 0 ≤ x ∧ x < 65536) {l k r : Nat} (h1 : l ≤ k) (h2 : k ≤ r) (h3 : r ≤ ds.length) : Int.fdiv (segval ds l r) (2 ^ (((k : Int) - (l : Int)) * 16).toNat) = segval ds k r := by
  rw [pow16 h1, seg_split ds h1 h2 h3]
  have b := seg_bound ds h l k (by omega)
  have p : (0 : Int) < 65536 ^ (k - l) := by rw [← cast_pow]; exact Int.ofNat_lt.mpr (Nat.pow_pos (by decide))
  rw [Int.fdiv_eq_ediv_of_nonneg _ (Int.le_of_lt p), Int.add_mul_ediv_left _ _ (Int.ne_of_gt p), Int.ediv_eq_zero_of_lt b.1 b.2, Int.zero_add]
theorem seg_lower (ds : List Int) (h : ∀ x ∈ ds, 0 ≤ x ∧ x < 65536) {l k r : Nat} (h1 : l ≤ k) (h2 : k ≤ r) (h3 : r ≤ ds.length) : Builtin.bitXor (segval ds l r) (segval ds k r * 2 ^ (((k : Int) - (l : Int)) * 16).toNat) = segval ds l k := by
  obtain ⟨x, hx⟩ := Int.eq_ofNat_of_zero_le (seg_bound ds h l r h3).1
  obtain ⟨y, hy⟩ := Int.eq_ofNat_of_zero_le (seg_bound ds h k r h3).1
  obtain ⟨z, hz⟩ := Int.eq_ofNat_of_zero_le (seg_bound ds h l k (by omega)).1
  have b := (seg_bound ds h l k (by omega)).2
  have sp := seg_split ds h1 h2 h3
  rw [pow16 h1]
  rw [hx, hy, hz, ← cast_pow, ← Int.natCast_mul, ← Int.natCast_add, Int.ofNat_inj] at sp
  rw [hz, ← cast_pow, Int.ofNat_lt] at b
  have e : (65536 : Nat) ^ (k - l) = 2 ^ (16 * (k - l)) := by rw [Nat.pow_mul]
  rw [hx, hy, hz, ← cast_pow, ← Int.natCast_mul, bitXor_and, bit_nat]
  rw [e] at sp b ⊢
  have d1 : x / 2 ^ (16 * (k - l)) = y := by
    rw [sp, Nat.add_mul_div_left _ _ (Nat.pow_pos (by decide)), Nat.div_eq_of_lt b, Nat.zero_add]
  have d3 := and_up x (16 * (k - l))
  rw [d1] at d3
  rw [d3, sp, Nat.mul_comm (2 ^ (16 * (k - l))) y]
  generalize y * 2 ^ (16 * (k - l)) = q
  omega

end
theorem reset54d2i : True := by
  k_with_none
  w_top off
  try (walk1; fail)
  exact True.intro
section
local macro_rules | `(tactic| walk_at "subscriptTail Name Name ref int") => `(tactic| refine halt ?_)
local macro_rules | `(tactic| walk_at "call builtin:len") => `(tactic| refine halt ?_)
section
variable {w : World} {A₀ : Around} {base h₀ : Heap} {env : Env} {outer : List Env} {L : Addr} {m mg mb : Str → Option Value} {p : Program} {loose : List Str} {mean : ExcName → Option Value} {s : Shared} {R : Result → Shared → Prop} {F : List (Addr × Obj)}
/-- THE CONTRACT of _digits2int, first call -/
theorem d2i_ok {A : Around} (B : Below A₀ base outer h₀) (F₀ : Fr h₀ L s.heap m) (X₀ : (Mine.hd.heap_39 w.params).In h₀) {dl : Nat} {ds : List (Int × Tok)} {ep : Nat} (N : News h₀ L s.heap ((dl, listOf (vals ds).toArray ep) :: (30, tabObj #[]) :: F)) (codeHd : CodeHd h₀ 34 30) (T : Top p loose mean mg mb h₀) (hA : A.frames = some (env :: outer)) (hh : A.handled = none) (hf : env.frame = some L) (hke : env.scope.kind = .function) (hroom : A.depth < 600)
    (hne : ds ≠ []) (hdl : dl ≠ 30) (hF : ∀ q ∈ F, q.1 ≠ 30) (hlen : ds.length ≤ 9) (hds : ∀ x ∈ ds.map (·.1), 0 ≤ x ∧ x < 65536) {nt : Tok}
    (hR : ∀ h' tk' tt (c' : Nat) oc vs t, Fr h₀ L h' m → News h₀ L h' ((c', oc) :: (dl, listOf (vals ds).toArray ep) :: (30, tabObj #[rawInt 23, rawInt 4, .ref c']) :: F) → oc.data = .fields vs → vs[1]? = some (.str (Str.ofString "_digits2int.<locals>.inner") t) → dl < c' → (∀ q ∈ F, q.1 < c') → R (.ok (.ret (.int (segval (ds.map (·.1)) 0 ds.length) tt))) { s with heap := h', toks := tk' }) :
    codeAny (model PR w) A (.call (.ref 35) ⟨[.ref dl, .int 16 nt], []⟩) R s := by
  obtain ⟨hd, d, fr, gs, u⟩ := A
  dsimp only at hA hh hroom
  subst hA hh
  refine' code_defC B F₀ X₀ N T rfl hf hke ?k6 ?k7 ?k8 ?k9 ?kB ?kD ?_ ?c2 ?c3 ?c4
  case k6 => k_is
  case k7 => k_is
  case k8 => k_room
  case k9 => exact BindsTo.of_eq rfl
  case kB => exact rfl
  case kD => decide +kernel
  case c2 => exact rfl
  case c3 => exact rfl
  case c4 => exact rfl
  intro g' L' h' tk' cells' FG' F' N' Y' B' X' T' l1
  have hY := CellsAre.three Y'
  obtain ⟨o1, o2, o3, hE', d1, d2, d3⟩ := hY
  subst hE'
  clear Y'
  simp only [List.cons_append, List.nil_append] at N'
  (try k_fold)
  clear F₀ N
  replace codeHd := codeHd.keeps FG'.keep
  have hL30 : (30 : Nat) < L' := l1 (30, _) (.tail _ (.head _))
  have hLdl : dl < L' := l1 _ (.head _)
  have n1 : ∀ k : Nat, @Ne Nat (L' + k) 30 := fun k => Nat.ne_of_gt (Nat.lt_of_lt_of_le hL30 (Nat.le_add_right _ _))
  replace d1 : o1.data = .cell none := d1
  replace d2 : o2.data = .cell (some (.int 16 nt)) := d2
  replace d3 : o3.data = .cell (some (.ref dl)) := d3
  k_with_none
  k_with "exec FunctionDef" => refine halt ?_
  w_strict k_steps
  refine unhalt ?_
  refine' nestDef_K ?d0 ?e0 ?a0 ?_
  case d0 => exact rfl
  case e0 => exact rfl
  case a0 => exact rfl
  k_dflt (refine' nest_K ?nF ?nN ?nT ?nC ?ncd ?nU ?nt ?nn ?ncl ?_; (case nF => exact F'); (case nN => exact N'); (case nT => exact T'); (case ncd => exact rfl); (case nC => exact codeHd); (case nU => exact (UpdF.tail (n1 3) (UpdF.tail (n1 2) (UpdF.tail (n1 1) (UpdF.tail hdl (UpdF.head hF)))))); (case nt => kn_triples); (case nn => kn_among); (case ncl => exact rfl); k_whole)
  intro f c' oc vs t ctv doc h8 tk8 F8 N8 e1 e2 l8 l9
  dsimp only at N8
  clear F' N'
  have u1 : @LT.lt Nat _ (L' + 1 + 1 + 1) c' := l8 _ (.head _)
  have u2 : @LT.lt Nat _ c' f := l9
  have hall : ∀ (tb : Obj), ∀ q ∈ ((L' + 1 + 1, o2) :: (L' + 1, o3) :: (dl, listOf (vals ds).toArray ep) :: (30, tb) :: F : List (Addr × Obj)), @Ne Nat q.1 (L' + 1 + 1 + 1) := by
    intro tb q hq
    have hlt : ∀ x : Nat, x < L' → @Ne Nat x (L' + 1 + 1 + 1) := fun x hx => Nat.ne_of_lt (Nat.lt_of_lt_of_le hx (Nat.le_add_right L' 3))
    rcases List.mem_cons.mp hq with rfl | hq
    · exact Nat.ne_of_lt (Nat.lt_succ_self _)
    rcases List.mem_cons.mp hq with rfl | hq
    · exact Nat.ne_of_lt (Nat.lt_succ_of_lt (Nat.lt_succ_self _))
    rcases List.mem_cons.mp hq with rfl | hq
    · exact hlt _ hLdl
    rcases List.mem_cons.mp hq with rfl | hq
    · exact hlt _ hL30
    · exact hlt _ (l1 q (.tail _ (.tail _ hq)))
  k_with_none
  k_with "storeName" => refine halt ?_
  w_strict k_steps
  refine unhalt ?_
  refine storeX_C F8 N8 rfl (UpdF.tail (Nat.ne_of_gt (Nat.lt_trans u1 u2)) (UpdF.tail (Nat.ne_of_gt u1) (UpdF.head (hall _)))) d1 ?_
  intro h7 o1' F7 N7 d1'
  clear F8 N8 hall
  generalize hFO : fnMade _ _ _ _ _ _ _ _ _ _ = FO at N7
  have inner : ∀ (k l r : Nat), r - l = k → l < r → r ≤ ds.length → ∀ {A₁ A₀₁ : Around} {env₁ : Env} {outer₁ : List Env} {h₁ : Heap} {L₁ : Addr} {m₁ : Str → Option Value} {s₁ : Shared} {R₁ : Result → Shared → Prop} {nw : List (Addr × Obj)} {tl tr : Tok} (B₁ : Below A₀₁ base outer₁ h₁) (F₁ : Fr h₁ L₁ s₁.heap m₁) (X₁ : (Mine.hd.heap_39 w.params).In h₁) (N₁ : News h₁ L₁ s₁.heap nw) (T₁ : Top p loose mean mg mb h₁)
      (hA₁ : A₁.frames = some (env₁ :: outer₁)) (hh₁ : A₁.handled = none) (hf₁ : env₁.frame = some L₁) (hke₁ : env₁.scope.kind = .function) (hroom₁ : A₁.depth + k < 700)
      (m1 : (f, FO) ∈ nw) (m2 : (c', oc) ∈ nw) (m3 : (L' + 1 + 1 + 1, o1') ∈ nw) (m4 : (L' + 1 + 1, o2) ∈ nw) (m5 : (L' + 1, o3) ∈ nw) (m6 : (dl, listOf (vals ds).toArray ep) ∈ nw)
      (hR₁ : ∀ h' tk' tt, Fr h₁ L₁ h' m₁ → News h₁ L₁ h' nw → R₁ (.ok (.ret (.int (segval (ds.map (·.1)) l r) tt))) { s₁ with heap := h', toks := tk' }),
      codeAny (model PR w) A₁ (.call (.ref f) ⟨[.int (l : Int) tl, .int (r : Int) tr], []⟩) R₁ s₁ := by
    intro k
    induction k using Nat.strongRecOn with
    | ind k ih =>
      intro l r hk hlr hrl A₁ A₀₁ env₁ outer₁ h₁ L₁ m₁ s₁ R₁ nw tl tr B₁ F₁ X₁ N₁ T₁ hA₁ hh₁ hf₁ hke₁ hroom₁ m1 m2 m3 m4 m5 m6 hR₁
      obtain ⟨hd₁, dd₁, fr₁, gs₁, u₁⟩ := A₁
      dsimp only at hA₁ hh₁ hroom₁
      subst hA₁ hh₁
      have m0 := m1
      rw [← hFO] at m1
      refine' code_nest B₁ F₁ X₁ N₁ T₁ rfl hf₁ hke₁ m1 ?q7 ?q8 ?q9 ?qB ?_ ?r2 ?r3 ?r4 ?r5
      case q7 => exact codeRec_news N₁ m2 e1 e2
      case q8 => k_room
      case q9 => exact BindsTo.of_eq rfl
      case r5 => decide
      case qB => exact locs rfl
      case r2 => exact rfl
      case r3 => exact rfl
      case r4 => exact rfl
      intro g2 L2 h2 FG2 F2 N2 B2 X2 T2
      dsimp only
      clear F₁ N₁
      k_with_none
      k_with "call ref" => refine halt ?_
      k_with "eval Name" => (k_dflt (first
        | (refine' nameX_F ?gN ?gc m5 d3 ?_ ?ga ?gb; (case ga => rfl); (case gb => rfl); (case gN => k_asm); (case gc => rfl))
        | (refine' nameX_F ?gN ?gc m4 d2 ?_ ?ga ?gb; (case ga => rfl); (case gb => rfl); (case gN => k_asm); (case gc => rfl))
        | (refine' nameX_F ?gN ?gc m3 d1' ?_ ?ga ?gb; (case ga => rfl); (case gb => rfl); (case gN => k_asm); (case gc => rfl))))
      k_with "callWith ref" => (k_dflt (refine' callWith_F ?y1 ?_; (case y1 => exact FnAt.of (by k_asm) m1); k_whole))
      k_with "FnAt" => (k_dflt (exact FnAt.of (by k_asm) m1))
      w_strict k_steps
      · have hq : (l : Int) + 1 = r := by assumption
        have hl : l < ds.length := by omega
        refine unhalt ?_
        refine kim_list N2 m6 rfl (l := vals ds) rfl (x := .int ds[l].1 ds[l].2) (by omega) (by omega) ?_ ?_
        · simp only [vals, Int.toNat_natCast, List.getElem?_map, List.getElem?_eq_getElem hl, Option.map_some]
        k_with_none
        w_strict k_steps
        have hs : segval (ds.map (·.1)) l r = ds[l].1 := by
          have : r = l + 1 := by omega
          subst this
          rw [seg_one _ (by rw [List.length_map]; exact hl), List.getElem_map]
        rw [hs] at hR₁
        exact hR₁ _ _ _ (by assumption) (by assumption)
      · have hq : (l : Int) + 1 ≠ r := by assumption
        rename Fr g2 L2 _ _ => F3
        rename News g2 L2 _ _ => N3
        refine unhalt ?_
        have hmid : Int.fdiv ((l : Int) + r) (2 ^ Int.toNat 1) = (((l + r) / 2 : Nat) : Int) := by
          rw [show (2 : Int) ^ Int.toNat 1 = 2 from rfl, Int.fdiv_eq_ediv_of_nonneg _ (by omega)]
          omega
        rw [hmid] at F3 ⊢
        generalize hmd : (l + r) / 2 = md at F3 ⊢
        have h1 : l < md := by omega
        have h2 : md < r := by omega
        refine wpAny_call ?_
        refine ih (r - md) (by omega) md r rfl h2 hrl B2 F3 X2 N3 T2 rfl rfl rfl rfl (by dsimp only [Around.deeper]; omega) m0 m2 m3 m4 m5 m6 ?_
        intro h4 tk4 tt4 F4 N4
        clear F3 N3
        have hbits := seg_bits (ds.map (·.1)) hds (l := md) (r := r) (by rw [List.length_map]; exact hrl) (by rw [List.length_map]; exact hlen)
        k_with_none
        k_with "binaryOp LShift int int" => (k_dflt (refine lshift_int (by omega) (by omega) ?_))
        k_with "call ref" => refine halt ?_
        k_with "eval Name" => (k_dflt (first
          | (refine' nameX_F ?gN ?gc m5 d3 ?_ ?ga ?gb; (case ga => rfl); (case gb => rfl); (case gN => k_asm); (case gc => rfl))
          | (refine' nameX_F ?gN ?gc m4 d2 ?_ ?ga ?gb; (case ga => rfl); (case gb => rfl); (case gN => k_asm); (case gc => rfl))
          | (refine' nameX_F ?gN ?gc m3 d1' ?_ ?ga ?gb; (case ga => rfl); (case gb => rfl); (case gN => k_asm); (case gc => rfl))))
        k_with "callWith ref" => (k_dflt (refine' callWith_F ?y1 ?_; (case y1 => exact FnAt.of (by k_asm) m1); k_whole))
        k_with "FnAt" => (k_dflt (exact FnAt.of (by k_asm) m1))
        dsimp only
        w_strict k_steps
        refine unhalt ?_
        refine wpAny_call ?_
        refine ih (md - l) (by omega) l md rfl h1 (by omega) B2 F4 X2 N4 T2 rfl rfl rfl rfl (by dsimp only [Around.deeper]; omega) m0 m2 m3 m4 m5 m6 ?_
        intro h5 tk5 tt5 F5 N5
        clear F4 N4
        dsimp only
        k_with_none
        w_strict k_steps
        have hs : segval (ds.map (·.1)) md r * 2 ^ (((md : Int) - (l : Int)) * 16).toNat + segval (ds.map (·.1)) l md = segval (ds.map (·.1)) l r := by
          rw [pow16 (Nat.le_of_lt h1), seg_split (ds.map (·.1)) (Nat.le_of_lt h1) (Nat.le_of_lt h2) (by rw [List.length_map]; exact hrl), Int.mul_comm, Int.add_comm]
        rw [← hs] at hR₁
        exact hR₁ _ _ _ (by assumption) (by assumption)
  subst hFO
  k_with_none
  k_with "truthy ref" => refine halt ?_
  k_with "call ref" => refine halt ?_
  dsimp only
  w_strict k_steps
  refine unhalt ?_
  refine wpAny_truthy_list (News.isList (items := (vals ds).toArray) N7 (.tail _ (.tail _ (.tail _ (.tail _ (.tail _ (.head _))))))) (by rw [vals_size]; omega) ?_
  have htr : (!(vals ds).toArray.isEmpty) = true := by
    cases ds with
    | nil => exact absurd rfl hne
    | cons x l => rfl
  rw [htr]
  k_with_none
  k_with "call ref" => refine halt ?_
  k_with "callWith ref" => (k_dflt (refine' callWith_F ?y1 ?_; (case y1 => exact FnAt.of (by k_asm) (.head _)); k_whole))
  k_with "FnAt" => (k_dflt (exact FnAt.of (by k_asm) (.head _)))
  w_strict k_steps
  refine unhalt ?_
  refine kun_lenL (News.isList (items := (vals ds).toArray) N7 (.tail _ (.tail _ (.tail _ (.tail _ (.tail _ (.head _))))))) (k := (ds.length : Int)) (vals_size _) (by omega) ?_
  w_strict k_steps
  refine unhalt ?_
  refine wpAny_call ?_
  refine inner ds.length 0 ds.length (Nat.sub_zero _) (List.length_pos_iff.mpr hne) (Nat.le_refl _) B' F7 X' N7 T' rfl rfl rfl rfl (by dsimp only [Around.deeper]; omega) (.head _) (.tail _ (.head _)) (.tail _ (.tail _ (.head _))) (.tail _ (.tail _ (.tail _ (.head _)))) (.tail _ (.tail _ (.tail _ (.tail _ (.head _))))) (.tail _ (.tail _ (.tail _ (.tail _ (.tail _ (.head _)))))) ?_
  intro h5 tk5 tt5 F5 N5
  dsimp only
  clear F7 N7
  k_with_none
  w_strict k_steps
  rename News h₀ L _ _ => N4
  rename Fr h₀ L _ _ => F4
  refine hR _ _ _ c' oc vs t F4 ?_ e1 e2 (l8 _ (.tail _ (.tail _ (.tail _ (.head _))))) (fun q hq => l8 q (.tail _ (.tail _ (.tail _ (.tail _ (.tail _ hq))))))
  intro q hq
  rcases List.mem_cons.mp hq with h | hq
  · exact N4 q (h ▸ .tail _ (.head _))
  · exact N4 q (.tail _ (.tail _ (.tail _ (.tail _ (.tail _ hq)))))
end

end
theorem reset55d2ib : True := by
  k_with_none
  w_top off
  try (walk1; fail)
  exact True.intro
section
local macro_rules | `(tactic| walk_at "subscriptTail Name Name ref int") => `(tactic| refine halt ?_)
local macro_rules | `(tactic| walk_at "call builtin:len") => `(tactic| refine halt ?_)
section
variable {w : World} {A₀ : Around} {base h₀ : Heap} {env : Env} {outer : List Env} {L : Addr} {m mg mb : Str → Option Value} {p : Program} {loose : List Str} {mean : ExcName → Option Value} {s : Shared} {R : Result → Shared → Prop} {F : List (Addr × Obj)}
/-- THE CONTRACT of _digits2int, once its inner code is made -/
theorem d2i_again {A : Around} (B : Below A₀ base outer h₀) (F₀ : Fr h₀ L s.heap m) (X₀ : (Mine.hd.heap_39 w.params).In h₀) {dl : Nat} {ds : List (Int × Tok)} {ep : Nat} {c' : Nat} {oc : Obj} {vs : Array Value} {t : Tok} (N : News h₀ L s.heap ((c', oc) :: (dl, listOf (vals ds).toArray ep) :: (30, tabObj #[rawInt 23, rawInt 4, .ref c']) :: F)) (e1 : oc.data = .fields vs) (e2 : vs[1]? = some (.str (Str.ofString "_digits2int.<locals>.inner") t)) (codeHd : CodeHd h₀ 34 30) (T : Top p loose mean mg mb h₀) (hA : A.frames = some (env :: outer)) (hh : A.handled = none) (hf : env.frame = some L) (hke : env.scope.kind = .function) (hroom : A.depth < 600)
    (hne : ds ≠ []) (hdl : dl ≠ 30) (hF : ∀ q ∈ F, q.1 ≠ 30) (hlen : ds.length ≤ 9) (hds : ∀ x ∈ ds.map (·.1), 0 ≤ x ∧ x < 65536) {nt : Tok}
    (hR : ∀ h' tk' tt, Fr h₀ L h' m → News h₀ L h' ((c', oc) :: (dl, listOf (vals ds).toArray ep) :: (30, tabObj #[rawInt 23, rawInt 4, .ref c']) :: F) → R (.ok (.ret (.int (segval (ds.map (·.1)) 0 ds.length) tt))) { s with heap := h', toks := tk' }) :
    codeAny (model PR w) A (.call (.ref 35) ⟨[.ref dl, .int 16 nt], []⟩) R s := by
  obtain ⟨hd, d, fr, gs, u⟩ := A
  dsimp only at hA hh hroom
  subst hA hh
  refine' code_defC B F₀ X₀ N T rfl hf hke ?k6 ?k7 ?k8 ?k9 ?kB ?kD ?_ ?c2 ?c3 ?c4
  case k6 => k_is
  case k7 => k_is
  case k8 => k_room
  case k9 => exact BindsTo.of_eq rfl
  case kB => exact rfl
  case kD => decide +kernel
  case c2 => exact rfl
  case c3 => exact rfl
  case c4 => exact rfl
  intro g' L' h' tk' cells' FG' F' N' Y' B' X' T' l1
  have hY := CellsAre.three Y'
  obtain ⟨o1, o2, o3, hE', d1, d2, d3⟩ := hY
  subst hE'
  clear Y'
  simp only [List.cons_append, List.nil_append] at N'
  (try k_fold)
  clear F₀ N
  replace codeHd := codeHd.keeps FG'.keep
  have hL30 : (30 : Nat) < L' := l1 (30, _) (.tail _ (.tail _ (.head _)))
  have hLdl : dl < L' := l1 _ (.tail _ (.head _))
  have hLc : c' < L' := l1 _ (.head _)
  have n1 : ∀ k : Nat, @Ne Nat (L' + k) 30 := fun k => Nat.ne_of_gt (Nat.lt_of_lt_of_le hL30 (Nat.le_add_right _ _))
  replace d1 : o1.data = .cell none := d1
  replace d2 : o2.data = .cell (some (.int 16 nt)) := d2
  replace d3 : o3.data = .cell (some (.ref dl)) := d3
  k_with_none
  k_with "exec FunctionDef" => refine halt ?_
  w_strict k_steps
  refine unhalt ?_
  refine' nestDef_K ?d0 ?e0 ?a0 ?_
  case d0 => exact rfl
  case e0 => exact rfl
  case a0 => exact rfl
  k_dflt (refine' nestHit_K ?nF ?nN ?nT ?nC ?ncd ?nU ?nt ?nn ?ncl ?_; (case nF => exact F'); (case nN => exact N'); (case nT => exact T'); (case ncd => exact rfl); (case nC => exact codeHd); (case nU => exact .tail _ (.tail _ (.tail _ (.tail _ (.tail _ (.head _)))))); (case nt => kn_triples); (case nn => kn_hit); (case ncl => exact rfl); k_whole)
  intro f ctv doc h8 tk8 F8 N8 l8
  clear F' N'
  have u2 : @LT.lt Nat _ (L' + 1 + 1 + 1) f := l8 _ (.head _)
  have hall : ∀ (tb : Obj), ∀ q ∈ ((L' + 1 + 1, o2) :: (L' + 1, o3) :: (c', oc) :: (dl, listOf (vals ds).toArray ep) :: (30, tb) :: F : List (Addr × Obj)), @Ne Nat q.1 (L' + 1 + 1 + 1) := by
    intro tb q hq
    have hlt : ∀ x : Nat, x < L' → @Ne Nat x (L' + 1 + 1 + 1) := fun x hx => Nat.ne_of_lt (Nat.lt_of_lt_of_le hx (Nat.le_add_right L' 3))
    rcases List.mem_cons.mp hq with rfl | hq
    · exact Nat.ne_of_lt (Nat.lt_succ_self _)
    rcases List.mem_cons.mp hq with rfl | hq
    · exact Nat.ne_of_lt (Nat.lt_succ_of_lt (Nat.lt_succ_self _))
    rcases List.mem_cons.mp hq with rfl | hq
    · exact hlt _ hLc
    rcases List.mem_cons.mp hq with rfl | hq
    · exact hlt _ hLdl
    rcases List.mem_cons.mp hq with rfl | hq
    · exact hlt _ hL30
    · exact hlt _ (l1 q (.tail _ (.tail _ (.tail _ hq))))
  k_with_none
  k_with "storeName" => refine halt ?_
  w_strict k_steps
  refine unhalt ?_
  refine storeX_C F8 N8 rfl (UpdF.tail (Nat.ne_of_gt u2) (UpdF.head (hall _))) d1 ?_
  intro h7 o1' F7 N7 d1'
  clear F8 N8 hall
  generalize hFO : fnMade _ _ _ _ _ _ _ _ _ _ = FO at N7
  have inner : ∀ (k l r : Nat), r - l = k → l < r → r ≤ ds.length → ∀ {A₁ A₀₁ : Around} {env₁ : Env} {outer₁ : List Env} {h₁ : Heap} {L₁ : Addr} {m₁ : Str → Option Value} {s₁ : Shared} {R₁ : Result → Shared → Prop} {nw : List (Addr × Obj)} {tl tr : Tok} (B₁ : Below A₀₁ base outer₁ h₁) (F₁ : Fr h₁ L₁ s₁.heap m₁) (X₁ : (Mine.hd.heap_39 w.params).In h₁) (N₁ : News h₁ L₁ s₁.heap nw) (T₁ : Top p loose mean mg mb h₁)
      (hA₁ : A₁.frames = some (env₁ :: outer₁)) (hh₁ : A₁.handled = none) (hf₁ : env₁.frame = some L₁) (hke₁ : env₁.scope.kind = .function) (hroom₁ : A₁.depth + k < 700)
      (m1 : (f, FO) ∈ nw) (m2 : (c', oc) ∈ nw) (m3 : (L' + 1 + 1 + 1, o1') ∈ nw) (m4 : (L' + 1 + 1, o2) ∈ nw) (m5 : (L' + 1, o3) ∈ nw) (m6 : (dl, listOf (vals ds).toArray ep) ∈ nw)
      (hR₁ : ∀ h' tk' tt, Fr h₁ L₁ h' m₁ → News h₁ L₁ h' nw → R₁ (.ok (.ret (.int (segval (ds.map (·.1)) l r) tt))) { s₁ with heap := h', toks := tk' }),
      codeAny (model PR w) A₁ (.call (.ref f) ⟨[.int (l : Int) tl, .int (r : Int) tr], []⟩) R₁ s₁ := by
    intro k
    induction k using Nat.strongRecOn with
    | ind k ih =>
      intro l r hk hlr hrl A₁ A₀₁ env₁ outer₁ h₁ L₁ m₁ s₁ R₁ nw tl tr B₁ F₁ X₁ N₁ T₁ hA₁ hh₁ hf₁ hke₁ hroom₁ m1 m2 m3 m4 m5 m6 hR₁
      obtain ⟨hd₁, dd₁, fr₁, gs₁, u₁⟩ := A₁
      dsimp only at hA₁ hh₁ hroom₁
      subst hA₁ hh₁
      have m0 := m1
      rw [← hFO] at m1
      refine' code_nest B₁ F₁ X₁ N₁ T₁ rfl hf₁ hke₁ m1 ?q7 ?q8 ?q9 ?qB ?_ ?r2 ?r3 ?r4 ?r5
      case q7 => exact codeRec_news N₁ m2 e1 e2
      case q8 => k_room
      case q9 => exact BindsTo.of_eq rfl
      case r5 => decide
      case qB => exact locs rfl
      case r2 => exact rfl
      case r3 => exact rfl
      case r4 => exact rfl
      intro g2 L2 h2 FG2 F2 N2 B2 X2 T2
      dsimp only
      clear F₁ N₁
      k_with_none
      k_with "call ref" => refine halt ?_
      k_with "eval Name" => (k_dflt (first
        | (refine' nameX_F ?gN ?gc m5 d3 ?_ ?ga ?gb; (case ga => rfl); (case gb => rfl); (case gN => k_asm); (case gc => rfl))
        | (refine' nameX_F ?gN ?gc m4 d2 ?_ ?ga ?gb; (case ga => rfl); (case gb => rfl); (case gN => k_asm); (case gc => rfl))
        | (refine' nameX_F ?gN ?gc m3 d1' ?_ ?ga ?gb; (case ga => rfl); (case gb => rfl); (case gN => k_asm); (case gc => rfl))))
      k_with "callWith ref" => (k_dflt (refine' callWith_F ?y1 ?_; (case y1 => exact FnAt.of (by k_asm) m1); k_whole))
      k_with "FnAt" => (k_dflt (exact FnAt.of (by k_asm) m1))
      w_strict k_steps
      · have hq : (l : Int) + 1 = r := by assumption
        have hl : l < ds.length := by omega
        refine unhalt ?_
        refine kim_list N2 m6 rfl (l := vals ds) rfl (x := .int ds[l].1 ds[l].2) (by omega) (by omega) ?_ ?_
        · simp only [vals, Int.toNat_natCast, List.getElem?_map, List.getElem?_eq_getElem hl, Option.map_some]
        k_with_none
        w_strict k_steps
        have hs : segval (ds.map (·.1)) l r = ds[l].1 := by
          have : r = l + 1 := by omega
          subst this
          rw [seg_one _ (by rw [List.length_map]; exact hl), List.getElem_map]
        rw [hs] at hR₁
        exact hR₁ _ _ _ (by assumption) (by assumption)
      · have hq : (l : Int) + 1 ≠ r := by assumption
        rename Fr g2 L2 _ _ => F3
        rename News g2 L2 _ _ => N3
        refine unhalt ?_
        have hmid : Int.fdiv ((l : Int) + r) (2 ^ Int.toNat 1) = (((l + r) / 2 : Nat) : Int) := by
          rw [show (2 : Int) ^ Int.toNat 1 = 2 from rfl, Int.fdiv_eq_ediv_of_nonneg _ (by omega)]
          omega
        rw [hmid] at F3 ⊢
        generalize hmd : (l + r) / 2 = md at F3 ⊢
        have h1 : l < md := by omega
        have h2 : md < r := by omega
        refine wpAny_call ?_
        refine ih (r - md) (by omega) md r rfl h2 hrl B2 F3 X2 N3 T2 rfl rfl rfl rfl (by dsimp only [Around.deeper]; omega) m0 m2 m3 m4 m5 m6 ?_
        intro h4 tk4 tt4 F4 N4
        clear F3 N3
        have hbits := seg_bits (ds.map (·.1)) hds (l := md) (r := r) (by rw [List.length_map]; exact hrl) (by rw [List.length_map]; exact hlen)
        k_with_none
        k_with "binaryOp LShift int int" => (k_dflt (refine lshift_int (by omega) (by omega) ?_))
        k_with "call ref" => refine halt ?_
        k_with "eval Name" => (k_dflt (first
          | (refine' nameX_F ?gN ?gc m5 d3 ?_ ?ga ?gb; (case ga => rfl); (case gb => rfl); (case gN => k_asm); (case gc => rfl))
          | (refine' nameX_F ?gN ?gc m4 d2 ?_ ?ga ?gb; (case ga => rfl); (case gb => rfl); (case gN => k_asm); (case gc => rfl))
          | (refine' nameX_F ?gN ?gc m3 d1' ?_ ?ga ?gb; (case ga => rfl); (case gb => rfl); (case gN => k_asm); (case gc => rfl))))
        k_with "callWith ref" => (k_dflt (refine' callWith_F ?y1 ?_; (case y1 => exact FnAt.of (by k_asm) m1); k_whole))
        k_with "FnAt" => (k_dflt (exact FnAt.of (by k_asm) m1))
        dsimp only
        w_strict k_steps
        refine unhalt ?_
        refine wpAny_call ?_
        refine ih (md - l) (by omega) l md rfl h1 (by omega) B2 F4 X2 N4 T2 rfl rfl rfl rfl (by dsimp only [Around.deeper]; omega) m0 m2 m3 m4 m5 m6 ?_
        intro h5 tk5 tt5 F5 N5
        clear F4 N4
        dsimp only
        k_with_none
        w_strict k_steps
        have hs : segval (ds.map (·.1)) md r * 2 ^ (((md : Int) - (l : Int)) * 16).toNat + segval (ds.map (·.1)) l md = segval (ds.map (·.1)) l r := by
          rw [pow16 (Nat.le_of_lt h1), seg_split (ds.map (·.1)) (Nat.le_of_lt h1) (Nat.le_of_lt h2) (by rw [List.length_map]; exact hrl), Int.mul_comm, Int.add_comm]
        rw [← hs] at hR₁
        exact hR₁ _ _ _ (by assumption) (by assumption)
  subst hFO
  k_with_none
  k_with "truthy ref" => refine halt ?_
  k_with "call ref" => refine halt ?_
  dsimp only
  w_strict k_steps
  refine unhalt ?_
  refine wpAny_truthy_list (News.isList (items := (vals ds).toArray) N7 (.tail _ (.tail _ (.tail _ (.tail _ (.tail _ (.head _))))))) (by rw [vals_size]; omega) ?_
  have htr : (!(vals ds).toArray.isEmpty) = true := by
    cases ds with
    | nil => exact absurd rfl hne
    | cons x l => rfl
  rw [htr]
  k_with_none
  k_with "call ref" => refine halt ?_
  k_with "callWith ref" => (k_dflt (refine' callWith_F ?y1 ?_; (case y1 => exact FnAt.of (by k_asm) (.head _)); k_whole))
  k_with "FnAt" => (k_dflt (exact FnAt.of (by k_asm) (.head _)))
  w_strict k_steps
  refine unhalt ?_
  refine kun_lenL (News.isList (items := (vals ds).toArray) N7 (.tail _ (.tail _ (.tail _ (.tail _ (.tail _ (.head _))))))) (k := (ds.length : Int)) (vals_size _) (by omega) ?_
  w_strict k_steps
  refine unhalt ?_
  refine wpAny_call ?_
  refine inner ds.length 0 ds.length (Nat.sub_zero _) (List.length_pos_iff.mpr hne) (Nat.le_refl _) B' F7 X' N7 T' rfl rfl rfl rfl (by dsimp only [Around.deeper]; omega) (.head _) (.tail _ (.tail _ (.tail _ (.tail _ (.head _))))) (.tail _ (.head _)) (.tail _ (.tail _ (.head _))) (.tail _ (.tail _ (.tail _ (.head _)))) (.tail _ (.tail _ (.tail _ (.tail _ (.tail _ (.head _)))))) ?_
  intro h5 tk5 tt5 F5 N5
  dsimp only
  clear F7 N7
  k_with_none
  w_strict k_steps
  rename News h₀ L _ _ => N4
  rename Fr h₀ L _ _ => F4
  exact hR _ _ _ F4 (fun q hq => N4 q (.tail _ (.tail _ (.tail _ (.tail _ hq)))))
end

end
theorem reset56i2d : True := by
  k_with_none
  w_top off
  try (walk1; fail)
  exact True.intro
section
local macro_rules | `(tactic| walk_at "subscriptTail Name Name ref int") => `(tactic| refine halt ?_)
local macro_rules | `(tactic| walk_at "call builtin:len") => `(tactic| refine halt ?_)
theorem ki_of : ∀ (l : List Value) {k : Nat} {v : Value}, k < l.length → ki_setL l k v = some (l.set k v)
  | [], _, _, h => absurd h (Nat.not_lt_zero _)
  | _ :: _, 0, _, _ => rfl
  | x :: r, k + 1, v, h => by
    unfold ki_setL
    rw [ki_of r (Nat.lt_of_succ_lt_succ h)]
    rfl
theorem news_third {h₀ h : Heap} {L : Addr} {x y z : Addr × Obj} {l : List (Addr × Obj)} (N : News h₀ L h (x :: y :: z :: l)) : News h₀ L h (z :: x :: y :: l) := by
  intro q hq
  rcases List.mem_cons.mp hq with h | hq
  · exact N q (h ▸ .tail _ (.tail _ (.head _)))
  rcases List.mem_cons.mp hq with h | hq
  · exact N q (h ▸ .head _)
  rcases List.mem_cons.mp hq with h | hq
  · exact N q (h ▸ .tail _ (.head _))
  · exact N q (.tail _ (.tail _ (.tail _ hq)))
theorem news_third_ne {h₀ h : Heap} {L : Addr} {x y z : Addr × Obj} {l : List (Addr × Obj)} {a : Addr} (_N : News h₀ L h (x :: y :: z :: l)) (h1 : x.1 ≠ a) (h2 : y.1 ≠ a) (h3 : ∀ q ∈ l, q.1 ≠ a) : ∀ q ∈ x :: y :: l, q.1 ≠ a := by
  intro q hq
  rcases List.mem_cons.mp hq with h | hq
  · exact h ▸ h1
  rcases List.mem_cons.mp hq with h | hq
  · exact h ▸ h2
  · exact h3 q hq
theorem news_drop2 {h₀ h : Heap} {L : Addr} {x y : Addr × Obj} {l : List (Addr × Obj)} (N : News h₀ L h (x :: y :: l)) : News h₀ L h (x :: l) := by
  intro q hq
  rcases List.mem_cons.mp hq with h | h
  · exact N q (h ▸ .head _)
  · exact N q (.tail _ (.tail _ h))
theorem i2d_fin {h₀ h : Heap} {L : Addr} {a b c d e f g : Addr × Obj} {F : List (Addr × Obj)} (N : News h₀ L h (a :: b :: c :: d :: e :: f :: g :: F)) : News h₀ L h (a :: g :: F) := by
  intro q hq
  rcases List.mem_cons.mp hq with h | hq
  · exact N q (h ▸ .head _)
  · exact N q (.tail _ (.tail _ (.tail _ (.tail _ (.tail _ (.tail _ hq))))))
section
variable {w : World} {A₀ : Around} {base h₀ : Heap} {env : Env} {outer : List Env} {L : Addr} {m mg mb : Str → Option Value} {p : Program} {loose : List Str} {mean : ExcName → Option Value} {s : Shared} {R : Result → Shared → Prop} {F : List (Addr × Obj)}
/-- THE CONTRACT of _int2digits -/
theorem i2d_ok {A : Around} (B : Below A₀ base outer h₀) (F₀ : Fr h₀ L s.heap m) (X₀ : (Mine.hd.heap_39 w.params).In h₀) (N : News h₀ L s.heap ((23, tabObj #[]) :: F)) (codeHd : CodeHd h₀ 27 23) (T : Top p loose mean mg mb h₀) (hA : A.frames = some (env :: outer)) (hh : A.handled = none) (hf : env.frame = some L) (hke : env.scope.kind = .function) (hroom : A.depth < 600)
    {ds : List Int} (hne : ds ≠ []) (hlast : ds.getLast hne ≠ 0) (hF : ∀ q ∈ F, q.1 ≠ 23) (hlen : ds.length ≤ 9) (hds : ∀ x ∈ ds, 0 ≤ x ∧ x < 65536) {at_ nt : Tok}
    (hR : ∀ h' tk' (ad : Nat) dv ep ps, dv.map (·.1) = ds → Fr h₀ L h' m → News h₀ L h' ((ad, listOf (vals dv).toArray ep) :: (23, tabObj ps) :: F) → (∀ q ∈ F, q.1 < ad) → R (.ok (.ret (.ref ad))) { s with heap := h', toks := tk' }) :
    codeAny (model PR w) A (.call (.ref 28) ⟨[.int (segval ds 0 ds.length) at_, .int 16 nt], []⟩) R s := by
  obtain ⟨hd, d, fr, gs, u⟩ := A
  dsimp only at hA hh hroom
  subst hA hh
  refine' code_defC B F₀ X₀ N T rfl hf hke ?k6 ?k7 ?k8 ?k9 ?kB ?kD ?_ ?c2 ?c3 ?c4
  case k6 => k_is
  case k7 => k_is
  case k8 => k_room
  case k9 => exact BindsTo.of_eq rfl
  case kB => exact rfl
  case kD => decide +kernel
  case c2 => exact rfl
  case c3 => exact rfl
  case c4 => exact rfl
  intro g' L' h' tk' cells' FG' F' N' Y' B' X' T' l1
  have hY := CellsAre.three Y'
  obtain ⟨o1, o2, o3, hE', d1, d2, d3⟩ := hY
  subst hE'
  clear Y'
  simp only [List.cons_append, List.nil_append] at N'
  (try k_fold)
  clear F₀ N
  replace codeHd := codeHd.keeps FG'.keep
  have hL23 : (23 : Nat) < L' := l1 (23, _) (.head _)
  have n1 : ∀ k : Nat, @Ne Nat (L' + k) 23 := fun k => Nat.ne_of_gt (Nat.lt_of_lt_of_le hL23 (Nat.le_add_right _ _))
  have hbd := bits_div ds hds hne hlast
  have hbl := bits_len ds hds hne hlast
  have hdp : 0 < ds.length := List.length_pos_iff.mpr hne
  replace d1 : o1.data = .cell none := d1
  replace d2 : o2.data = .cell none := d2
  replace d3 : o3.data = .cell (some (.int 16 nt)) := d3
  generalize hav : segval ds 0 ds.length = av at *
  k_with_none
  k_with "storeName" => refine halt ?_
  k_with "binaryOp Mult ref int" => refine halt ?_
  w_strict k_steps
  rename News g' L' _ _ => N7
  rename Fr g' L' _ _ => F7
  refine unhalt ?_
  have hfd : Int.fdiv (((Builtin.Int.intBits av : Nat) : Int) + 16 - 1) 16 = (ds.length : Int) := by
    rw [Int.fdiv_eq_ediv_of_nonneg _ (by decide)]
    exact hbd
  rw [hfd]
  refine KMa.mul (vs := [.int 0 tk']) (ws := vals (List.replicate ds.length (0, tk'))) F7 N7 (News.isList N7 (.head _)) (by omega) (by omega) (by rw [Int.toNat_natCast, List.length_singleton]; omega) (by rw [Int.toNat_natCast]; simp [vals, List.map_replicate]) ?_
  intro ad h6 F6 N6 l6
  have u3 : @LT.lt Nat _ (L' + 1 + 1 + 1) ad := l6 _ (.tail _ (.head _))
  have ult : ∀ q ∈ F, @LT.lt Nat _ q.1 L' := fun q hq => l1 q (.tail _ hq)
  have had : ∀ k : Nat, k ≤ 3 → @Ne Nat ad (L' + k) := fun k hk => Nat.ne_of_gt (Nat.lt_of_le_of_lt (Nat.add_le_add_left hk L') u3)
  have had23 : @Ne Nat ad 23 := Nat.ne_of_gt (Nat.lt_trans (Nat.lt_of_lt_of_le hL23 (Nat.le_add_right L' 3)) u3)
  have hall2 : ∀ (tb : Obj), ∀ q ∈ ((L' + 1, o3) :: (23, tb) :: F : List (Addr × Obj)), @Ne Nat q.1 (L' + 1 + 1) := by
    intro tb q hq
    have hlt : ∀ x : Nat, x < L' → @Ne Nat x (L' + 1 + 1) := fun x hx => Nat.ne_of_lt (Nat.lt_of_lt_of_le hx (Nat.le_add_right L' 2))
    rcases List.mem_cons.mp hq with rfl | hq
    · exact Nat.ne_of_lt (Nat.lt_succ_self _)
    rcases List.mem_cons.mp hq with rfl | hq
    · exact hlt _ hL23
    · exact hlt _ (ult q hq)
  have hall3 : ∀ (oo tb : Obj), ∀ q ∈ ((L' + 1 + 1, oo) :: (L' + 1, o3) :: (23, tb) :: F : List (Addr × Obj)), @Ne Nat q.1 (L' + 1 + 1 + 1) := by
    intro oo tb q hq
    have hlt : ∀ x : Nat, x < L' → @Ne Nat x (L' + 1 + 1 + 1) := fun x hx => Nat.ne_of_lt (Nat.lt_of_lt_of_le hx (Nat.le_add_right L' 3))
    rcases List.mem_cons.mp hq with rfl | hq
    · exact Nat.ne_of_lt (Nat.lt_succ_self _)
    rcases List.mem_cons.mp hq with rfl | hq
    · exact Nat.ne_of_lt (Nat.lt_succ_of_lt (Nat.lt_succ_self _))
    rcases List.mem_cons.mp hq with rfl | hq
    · exact hlt _ hL23
    · exact hlt _ (ult q hq)
  replace N6 := news_drop2 N6
  clear F7 N7
  k_with_none
  k_with "storeName" => refine halt ?_
  w_strict k_steps
  refine unhalt ?_
  refine storeX_C F6 N6 rfl (UpdF.tail (had 2 (by decide)) (UpdF.tail (Nat.succ_ne_self _) (UpdF.head (hall2 _)))) d2 ?_
  intro h5 o2' F5 N5 d2'
  clear F6 N6
  k_with_none
  k_with "exec FunctionDef" => refine halt ?_
  dsimp only
  w_strict k_steps
  refine unhalt ?_
  refine' nestDef_K ?d0 ?e0 ?a0 ?_
  case d0 => exact rfl
  case e0 => exact rfl
  case a0 => exact rfl
  k_dflt (refine' nest_K ?nF ?nN ?nT ?nC ?ncd ?nU ?nt ?nn ?ncl ?_; (case nF => exact F5); (case nN => exact N5); (case nT => exact T'); (case ncd => exact rfl); (case nC => exact codeHd); (case nU => exact (UpdF.tail had23 (UpdF.tail (n1 3) (UpdF.tail (n1 2) (UpdF.tail (n1 1) (UpdF.head hF)))))); (case nt => kn_triples); (case nn => kn_among); (case ncl => exact rfl); k_whole)
  intro f c' oc vs t ctv doc h8 tk8 F8 N8 e1 e2 l8 l9
  clear F5 N5
  have u1 : @LT.lt Nat _ ad c' := l8 _ (.head _)
  have u2 : @LT.lt Nat _ c' f := l9
  k_with_none
  k_with "storeName" => refine halt ?_
  w_strict k_steps
  refine unhalt ?_
  refine storeX_C F8 N8 rfl (UpdF.tail (Nat.ne_of_gt (Nat.lt_trans (Nat.lt_trans u3 u1) u2)) (UpdF.tail (Nat.ne_of_gt (Nat.lt_trans u3 u1)) (UpdF.tail (had 3 (by decide)) (UpdF.head (hall3 _ _))))) d1 ?_
  intro h7 o1' F7 N7 d1'
  clear F8 N8
  generalize hFO : fnMade _ _ _ _ _ _ _ _ _ _ = FO at N7
  have inner : ∀ (k l r : Nat), r - l = k → l < r → r ≤ ds.length → ∀ {A₁ A₀₁ : Around} {env₁ : Env} {outer₁ : List Env} {h₁ : Heap} {L₁ : Addr} {m₁ : Str → Option Value} {s₁ : Shared} {R₁ : Result → Shared → Prop} {rest : List (Addr × Obj)} {cur : List (Int × Tok)} {ep₁ : Nat} {tx tl tr : Tok} (B₁ : Below A₀₁ base outer₁ h₁) (F₁ : Fr h₁ L₁ s₁.heap m₁) (X₁ : (Mine.hd.heap_39 w.params).In h₁) (N₁ : News h₁ L₁ s₁.heap ((ad, listOf (vals cur).toArray ep₁) :: rest)) (T₁ : Top p loose mean mg mb h₁)
      (hA₁ : A₁.frames = some (env₁ :: outer₁)) (hh₁ : A₁.handled = none) (hf₁ : env₁.frame = some L₁) (hke₁ : env₁.scope.kind = .function) (hroom₁ : A₁.depth + k < 700)
      (hcur : cur.length = ds.length) (hrest : ∀ q ∈ rest, q.1 ≠ ad) (m1 : (f, FO) ∈ rest) (m2 : (c', oc) ∈ rest) (m3 : (L' + 1 + 1 + 1, o1') ∈ rest) (m4 : (L' + 1 + 1, o2') ∈ rest) (m5 : (L' + 1, o3) ∈ rest)
      (hR₁ : ∀ h' tk' cur' ep', cur'.length = ds.length → (∀ j : Nat, (cur'.map (·.1))[j]? = if l ≤ j ∧ j < r then ds[j]? else (cur.map (·.1))[j]?) → Fr h₁ L₁ h' m₁ → News h₁ L₁ h' ((ad, listOf (vals cur').toArray ep') :: rest) → R₁ (.ok (.ret .none)) { s₁ with heap := h', toks := tk' }),
      codeAny (model PR w) A₁ (.call (.ref f) ⟨[.int (segval ds l r) tx, .int (l : Int) tl, .int (r : Int) tr], []⟩) R₁ s₁ := by
    intro k
    induction k using Nat.strongRecOn with
    | ind k ih =>
      intro l r hk hlr hrl A₁ A₀₁ env₁ outer₁ h₁ L₁ m₁ s₁ R₁ rest cur ep₁ tx tl tr B₁ F₁ X₁ N₁ T₁ hA₁ hh₁ hf₁ hke₁ hroom₁ hcur hrest m1 m2 m3 m4 m5 hR₁
      obtain ⟨hd₁, dd₁, fr₁, gs₁, u₁⟩ := A₁
      dsimp only at hA₁ hh₁ hroom₁
      subst hA₁ hh₁
      have m0 := m1
      rw [← hFO] at m1
      refine' code_nest B₁ F₁ X₁ N₁ T₁ rfl hf₁ hke₁ (.tail _ m1) ?q7 ?q8 ?q9 ?qB ?_ ?r2 ?r3 ?r4 ?r5
      case q7 => exact codeRec_news N₁ (.tail _ m2) e1 e2
      case q8 => k_room
      case q9 => exact BindsTo.of_eq rfl
      case r5 => decide
      case qB => exact locs rfl
      case r2 => exact rfl
      case r3 => exact rfl
      case r4 => exact rfl
      intro g2 L2 h2 FG2 F2 N2 B2 X2 T2
      dsimp only
      clear F₁ N₁
      have hup : ∀ md : Nat, l ≤ md → md ≤ r → Int.fdiv (segval ds l r) (2 ^ (((md : Int) - (l : Int)) * 16).toNat) = segval ds md r := fun md h1 h2 => seg_upper ds hds h1 h2 hrl
      have hlow : ∀ md : Nat, l ≤ md → md ≤ r → Builtin.bitXor (segval ds l r) (segval ds md r * 2 ^ (((md : Int) - (l : Int)) * 16).toNat) = segval ds l md := fun md h1 h2 => seg_lower ds hds h1 h2 hrl
      k_with_none
      k_with "setItem ref int" => refine halt ?_
      k_with "binaryOp RShift int int" => refine halt ?_
      k_with "eval Name" => (k_dflt (first
          | (refine' nameX_F ?gN ?gc (.tail _ m5) d3 ?_ ?ga ?gb; (case ga => rfl); (case gb => rfl); (case gN => k_asm); (case gc => rfl))
          | (refine' nameX_F ?gN ?gc (.tail _ m4) d2' ?_ ?ga ?gb; (case ga => rfl); (case gb => rfl); (case gN => k_asm); (case gc => rfl))
          | (refine' nameX_F ?gN ?gc (.tail _ m3) d1' ?_ ?ga ?gb; (case ga => rfl); (case gb => rfl); (case gN => k_asm); (case gc => rfl))))
      w_strict k_steps
      · have hq : (l : Int) + 1 = r := by assumption
        refine unhalt ?_
        refine ki_set (its := (vals cur).toArray) (by k_asm) (by k_asm) (by omega) (by omega) (ki_of (vals cur) (k := l) (by rw [List.length_map]; omega)) (Upd.head hrest) ?_
        intro h4 F4 N4
        clear F2 N2
        k_with_none
        w_strict k_steps
        have hs : segval ds l r = ds[l] := by
          have : r = l + 1 := by omega
          subst this
          exact seg_one ds (by omega)
        rename News h₁ L₁ _ _ => N3
        rename Fr h₁ L₁ _ _ => F3
        have ev : (vals cur).set l (.int (segval ds l r) tx) = vals (cur.set l (segval ds l r, tx)) := by simp [vals, List.map_set]
        rw [ev] at N3
        refine hR₁ _ _ (cur.set l (segval ds l r, tx)) _ (by rw [List.length_set]; exact hcur) ?_ F3 N3
        intro j
        rw [List.map_set, List.getElem?_set, hs]
        by_cases hj : l = j
        · subst hj
          rw [if_pos rfl, if_pos (by rw [List.length_map]; omega), if_pos ⟨Nat.le_refl _, hlr⟩, List.getElem?_eq_getElem (by omega)]
        · rw [if_neg hj, if_neg (by omega)]
      · have hq : (l : Int) + 1 ≠ r := by assumption
        refine unhalt ?_
        refine rshift_int (by decide) ?_
        have hmid : Int.fdiv ((l : Int) + r) (2 ^ Int.toNat 1) = (((l + r) / 2 : Nat) : Int) := by
          rw [show (2 : Int) ^ Int.toNat 1 = 2 from rfl, Int.fdiv_eq_ediv_of_nonneg _ (by omega)]
          omega
        rw [hmid]
        generalize hmd : (l + r) / 2 = md
        have h1 : l < md := by omega
        have h2 : md < r := by omega
        k_with_none
        k_with "binaryOp RShift int int" => refine halt ?_
        k_with "eval Name" => (k_dflt (first
          | (refine' nameX_F ?gN ?gc (.tail _ m5) d3 ?_ ?ga ?gb; (case ga => rfl); (case gb => rfl); (case gN => k_asm); (case gc => rfl))
          | (refine' nameX_F ?gN ?gc (.tail _ m4) d2' ?_ ?ga ?gb; (case ga => rfl); (case gb => rfl); (case gN => k_asm); (case gc => rfl))
          | (refine' nameX_F ?gN ?gc (.tail _ m3) d1' ?_ ?ga ?gb; (case ga => rfl); (case gb => rfl); (case gN => k_asm); (case gc => rfl))))
        w_strict k_steps
        refine unhalt ?_
        refine rshift_int (by omega) ?_
        rw [hup md (Nat.le_of_lt h1) (Nat.le_of_lt h2)]
        have hbits := seg_bits ds hds (l := md) (r := r) hrl hlen
        k_with_none
        k_with "binaryOp LShift int int" => (k_dflt (refine lshift_int (by omega) (by omega) ?_))
        k_with "call ref" => refine halt ?_
        k_with "eval Name" => (k_dflt (first
          | (refine' nameX_F ?gN ?gc (.tail _ m5) d3 ?_ ?ga ?gb; (case ga => rfl); (case gb => rfl); (case gN => k_asm); (case gc => rfl))
          | (refine' nameX_F ?gN ?gc (.tail _ m4) d2' ?_ ?ga ?gb; (case ga => rfl); (case gb => rfl); (case gN => k_asm); (case gc => rfl))
          | (refine' nameX_F ?gN ?gc (.tail _ m3) d1' ?_ ?ga ?gb; (case ga => rfl); (case gb => rfl); (case gN => k_asm); (case gc => rfl))))
        k_with "callWith ref" => (k_dflt (refine' callWith_F ?y1 ?_; (case y1 => exact FnAt.of (by k_asm) (.tail _ m1)); k_whole))
        k_with "FnAt" => (k_dflt (exact FnAt.of (by k_asm) (.tail _ m1)))
        w_strict k_steps
        rename News g2 L2 _ _ => N3
        rename Fr g2 L2 _ _ => F3
        refine unhalt ?_
        rw [hlow md (Nat.le_of_lt h1) (Nat.le_of_lt h2)]
        refine wpAny_call ?_
        refine ih (md - l) (by omega) l md rfl h1 (by omega) B2 F3 X2 N3 T2 rfl rfl rfl rfl (by dsimp only [Around.deeper]; omega) hcur hrest m0 m2 m3 m4 m5 ?_
        intro h4 tk4 cur4 ep4 hc4 hp4 F4 N4
        clear F3 N3
        k_with_none
        k_with "call ref" => refine halt ?_
        k_with "eval Name" => (k_dflt (first
          | (refine' nameX_F ?gN ?gc (.tail _ m5) d3 ?_ ?ga ?gb; (case ga => rfl); (case gb => rfl); (case gN => k_asm); (case gc => rfl))
          | (refine' nameX_F ?gN ?gc (.tail _ m4) d2' ?_ ?ga ?gb; (case ga => rfl); (case gb => rfl); (case gN => k_asm); (case gc => rfl))
          | (refine' nameX_F ?gN ?gc (.tail _ m3) d1' ?_ ?ga ?gb; (case ga => rfl); (case gb => rfl); (case gN => k_asm); (case gc => rfl))))
        k_with "callWith ref" => (k_dflt (refine' callWith_F ?y1 ?_; (case y1 => exact FnAt.of (by k_asm) (.tail _ m1)); k_whole))
        k_with "FnAt" => (k_dflt (exact FnAt.of (by k_asm) (.tail _ m1)))
        dsimp only
        w_strict k_steps
        refine unhalt ?_
        refine wpAny_call ?_
        refine ih (r - md) (by omega) md r rfl h2 hrl B2 F4 X2 N4 T2 rfl rfl rfl rfl (by dsimp only [Around.deeper]; omega) hc4 hrest m0 m2 m3 m4 m5 ?_
        intro h5 tk5 cur5 ep5 hc5 hp5 F5 N5
        clear F4 N4
        k_with_none
        dsimp only
        w_strict k_steps
        refine hR₁ _ _ cur5 ep5 hc5 ?_ (by assumption) (by assumption)
        intro j
        rw [hp5, hp4]
        by_cases c1 : md ≤ j ∧ j < r
        · rw [if_pos c1, if_pos (by omega)]
        · rw [if_neg c1]
          by_cases c2 : l ≤ j ∧ j < md
          · rw [if_pos c2, if_pos (by omega)]
          · rw [if_neg c2, if_neg (by omega)]
  subst hFO
  have N9 := news_third N7
  have hall4 : ∀ (a1 a2 a3 tb : Obj), ∀ q ∈ ((L' + 1 + 1 + 1, a1) :: (L' + 1 + 1, a2) :: (L' + 1, a3) :: (23, tb) :: F : List (Addr × Obj)), @Ne Nat q.1 ad := by
    intro a1 a2 a3 tb q hq
    rcases List.mem_cons.mp hq with rfl | hq
    · exact (had 3 (by decide)).symm
    rcases List.mem_cons.mp hq with rfl | hq
    · exact (had 2 (by decide)).symm
    rcases List.mem_cons.mp hq with rfl | hq
    · exact (had 1 (by decide)).symm
    rcases List.mem_cons.mp hq with rfl | hq
    · exact had23.symm
    · exact Nat.ne_of_lt (Nat.lt_trans (Nat.lt_of_lt_of_le (ult q hq) (Nat.le_add_right L' 3)) u3)
  have hrest := news_third_ne N7 (Nat.ne_of_gt (Nat.lt_trans u1 u2)) (Nat.ne_of_gt u1) (hall4 _ _ _ _)
  have hav0 : av ≠ 0 := by
    have q1 := last_pos ds hds hne hlast
    rw [hav, ← cast_pow] at q1
    have q2 : 0 < 65536 ^ (ds.length - 1) := Nat.pow_pos (by decide)
    omega
  clear N7
  k_with_none
  k_with "call ref" => refine halt ?_
  k_with "callWith ref" => (k_dflt (refine' callWith_F ?y1 ?_; (case y1 => exact FnAt.of (by k_asm) (.tail _ (.head _))); k_whole))
  k_with "FnAt" => (k_dflt (exact FnAt.of (by k_asm) (.tail _ (.head _))))
  dsimp only
  w_strict k_steps
  · refine unhalt ?_
    refine kun_lenL (News.isList (items := (vals (List.replicate ds.length (0, tk'))).toArray) N9 (.head _)) (k := (ds.length : Int)) (by rw [vals_size, List.length_replicate]) (by omega) ?_
    w_strict k_steps
    refine unhalt ?_
    refine wpAny_call ?_
    rw [← hav]
    refine inner ds.length 0 ds.length (Nat.sub_zero _) hdp (Nat.le_refl _) B' F7 X' N9 T' rfl rfl rfl rfl (by dsimp only [Around.deeper]; omega) (List.length_replicate ..) hrest (.head _) (.tail _ (.head _)) (.tail _ (.tail _ (.head _))) (.tail _ (.tail _ (.tail _ (.head _)))) (.tail _ (.tail _ (.tail _ (.tail _ (.head _))))) ?_
    intro h5 tk5 cur5 ep5 hc5 hp5 F5 N5
    clear F7 N9
    k_with_none
    dsimp only
    w_strict k_steps
    rename News h₀ L _ _ => N4
    rename Fr h₀ L _ _ => F4
    refine hR _ _ ad cur5 ep5 _ ?_ F4 (i2d_fin N4) (fun q hq => Nat.lt_trans (Nat.lt_of_lt_of_le (ult q hq) (Nat.le_add_right L' 3)) u3)
    · refine List.ext_getElem? fun j => ?_
      rw [hp5]
      by_cases hj : j < ds.length
      · rw [if_pos ⟨Nat.zero_le _, hj⟩]
      · rw [if_neg (fun h => hj h.2), List.getElem?_eq_none (by simp; omega), List.getElem?_eq_none (by omega)]
  · exact absurd (by assumption) hav0
end

end
theorem reset57range : True := by
  k_with_none
  w_top off
  try (walk1; fail)
  exact True.intro
section
section
variable {prog : Program} {w : World} {A : Around} {E : Value → Shared → Prop} {env : Env} {h₀ : Heap} {x : Str} {body : List Stmt} {Q : Flow → Shared → Prop}
/-- a loop over a range -/
theorem iter_rng {s : Shared} {r : Addr} {a₀ b₀ : Int} {t₀ u₀ v₀ : Tok} {n : Nat} {m₀ : Str → Option Value} {news₀ : List (Addr × Obj)} (J : Nat → (Str → Option Value) → List (Addr × Obj) → Prop)
    (hh : A.handled = none) (hr : IsRange s.heap r a₀ b₀ 1 t₀ u₀ v₀) (hsmall : Builtin.Range.small a₀ b₀ 1 = true) (hn : Builtin.Range.rangeSize a₀ b₀ 1 = (n : Int)) (F : Fr h₀ env.locals s.heap m₀) (N : News h₀ env.locals s.heap news₀) (hj : J 0 m₀ news₀)
    (turn : ∀ i t m₁ news₁ I oI h tk, i < n → J i m₁ news₁ → (∀ p ∈ news₁, p.1 ≠ I) → Fr h₀ env.locals h (fun y => if y = x then some (.int (a₀ + (i : Int)) t) else m₁ y) → News h₀ env.locals h ((I, oI) :: news₁) →
      wpAny (model prog w) A (execs body env) (TurnEnd h₀ env.locals I oI (J (i + 1)) { s with heap := h, toks := tk } Q) E { s with heap := h, toks := tk })
    (done : ∀ m₁ news₁ h tk, J n m₁ news₁ → Fr h₀ env.locals h m₁ → News h₀ env.locals h news₁ → Q .next { s with heap := h, toks := tk }) :
    wpAny (model prog w) A (pyIter (.ref r)) (fun it s₂ => LoopAtV prog w A h₀ env x body Q E it s₂) E s := by
  refine wpAny_pyIter_range hr hsmall ?_
  have W : Walks prog w A s.heap.objs.size [s.heap.objs.size] [s.heap.objs.size] n (fun i v => i < n ∧ ∃ t, v = .int (a₀ + i * 1) t)
      (fun i h => IsRangeIter h s.heap.objs.size (a₀ + (i : Nat) * 1) ((n : Int) - (i : Nat)) 1) := (Walks.range hh _ a₀ 1 n).bound
  have hnew := next_is_new F
  refine ⟨_, _, _, n, _, _, m₀, news₀, J, rfl, W, ?_, ?_, ?_, (by show IsRangeIter _ _ _ _ _; rw [hn]; simpa using Heap.get?_push_size _ rfl), F.push _, (fun p hp => ⟨Heap.get?_push_of_some _ (N p hp).1, (N p hp).2⟩), hj, ?_, ?_⟩
  · intro hm
    exact absurd F.ns.lt ((List.mem_singleton.mp hm) ▸ Nat.lt_irrefl _)
  · intro b hb
    rw [List.mem_singleton.mp hb]
    exact hnew
  · intro p hp hI
    exact absurd (Heap.lt_size (N p hp).1) ((List.mem_singleton.mp hI) ▸ Nat.lt_irrefl _)
  · rintro i v m₁ news₁ s₁ own ⟨hh', tk', rfl⟩ hin ⟨_, t, rfl⟩ hJ hoff hown hget hall hst F₁ N₁
    rw [Int.mul_one] at F₁
    obtain ⟨oI, hst'⟩ : ∃ oI, hh'.get? s.heap.objs.size = some oI := ⟨_, hst⟩
    have hmem := hall s.heap.objs.size (List.mem_singleton.mpr rfl) hnew _ hst'
    have N₂ : News h₀ env.locals hh' ((s.heap.objs.size, oI) :: news₁) := fun p hp => by
      rcases List.mem_cons.mp hp with rfl | hp
      · exact N₁ _ (List.mem_append_left _ hmem)
      · exact N₁ _ (List.mem_append_right _ hp)
    refine wpAny_mono (turn i t m₁ news₁ _ oI hh' tk' hin hJ (fun p hp e => hoff p hp (e ▸ .head _)) F₁ N₂) (fun f s₂ p => ?_) fun _ _ e => e
    have fin : (∃ h' tk'' m' news', s₂ = { s with heap := h', toks := tk'' } ∧ Fr h₀ env.locals h' m' ∧ News h₀ env.locals h' ((s.heap.objs.size, oI) :: news') ∧ (∀ p ∈ news', p.1 ≠ s.heap.objs.size) ∧ J (i + 1) m' news') →
        LoopStepU h₀ env.locals [s.heap.objs.size] own (J (i + 1)) { s with heap := hh', toks := tk' } .next s₂ := by
      rintro ⟨h', tk, m', news', rfl, F', N', ho, hJ'⟩
      refine ⟨rfl, h', tk, m', news', rfl, F', fun p hp => ?_, fun p hp hI => ho p hp (List.mem_singleton.mp hI), hJ'⟩
      rcases List.mem_append.mp hp with hp | hp
      · have h1 : p.1 = s.heap.objs.size := List.mem_singleton.mp (hown p hp)
        have h2 : hh'.get? p.1 = some p.2 := hget p hp
        have h3 : p = (s.heap.objs.size, oI) := by
          rw [h1, hst'] at h2
          exact Prod.ext h1 (Option.some.inj h2).symm
        rw [h3]; exact N' _ (List.mem_cons_self ..)
      · exact N' _ (List.mem_cons_of_mem _ hp)
    cases f with
    | ret v => exact .ret p
    | brk => exact .brk p
    | next => exact .next (fin p)
    | cont => exact .cont (fin p)
  · rintro h' tk m' news' F' N' _ hJ
    exact done m' news' h' tk hJ F' N'
end

end
theorem reset60kahn : True := by
  k_with_none
  w_top off
  try (walk1; fail)
  exact True.intro
section
/-! the sorter's plain law: what the adds make -/
theorem find_ensure (A : AG) (k j : Int) : ((ensure A k).find? fun x => x.1 = j) = (A.find? fun x => x.1 = j).or (if k ∉ A.map (·.1) ∧ k = j then some (k, 0, []) else none) := by
  unfold ensure
  by_cases h : k ∈ A.map (·.1)
  · rw [if_pos h, if_neg (fun q => q.1 h), Option.or_none]
  · rw [if_neg h, List.find?_append]
    congr 1
    by_cases e : k = j
    · rw [if_pos ⟨h, e⟩, List.find?_cons]
      simp [e]
    · rw [if_neg (fun q => e q.2), List.find?_cons]
      simp [e]
theorem npOf_ensure (A : AG) (k j : Int) : npOf (ensure A k) j = npOf A j := by
  unfold npOf
  rw [find_ensure]
  cases A.find? (fun x => decide (x.1 = j)) with
  | some x => rfl
  | none => rw [Option.none_or]; split <;> rfl
theorem sucOf_ensure (A : AG) (k j : Int) : sucOf (ensure A k) j = sucOf A j := by
  unfold sucOf
  rw [find_ensure]
  cases A.find? (fun x => decide (x.1 = j)) with
  | some x => rfl
  | none => rw [Option.none_or]; split <;> rfl
theorem find_keep (f : Int × Int × List Int → Int × Int × List Int) (hf : ∀ x, (f x).1 = x.1) (A : AG) (j : Int) : ((A.map f).find? fun x => x.1 = j) = (A.find? fun x => x.1 = j).map f := by
  rw [List.find?_map]
  congr 1
  congr 1
  funext x
  simp [Function.comp, hf]
theorem find_key {A : AG} {j : Int} {x : Int × Int × List Int} (h : A.find? (fun x => decide (x.1 = j)) = some x) : x.1 = j := by
  have := List.find?_some h
  simpa using this
theorem npOf_bump (A : AG) (k n j : Int) (h : k ∈ A.map (·.1)) : npOf (bump A k n) j = npOf A j + if j = k then n else 0 := by
  unfold npOf bump
  rw [find_keep _ (fun x => by split <;> rfl)]
  cases e : A.find? (fun x => decide (x.1 = j)) with
  | some x =>
    have hx := find_key e
    by_cases q : j = k
    · simp [hx, q]
    · simp [hx, q]
  | none =>
    by_cases q : j = k
    · subst q
      obtain ⟨x, hx, rfl⟩ := List.mem_map.mp h
      have := List.find?_eq_none.mp e x hx
      simp at this
    · simp [q]
theorem sucOf_bump (A : AG) (k n j : Int) : sucOf (bump A k n) j = sucOf A j := by
  unfold sucOf bump
  rw [find_keep _ (fun x => by split <;> rfl)]
  cases e : A.find? (fun x => decide (x.1 = j)) with
  | some x => simp only [Option.map_some, Option.getD_some]; split <;> rfl
  | none => rfl
theorem npOf_push (A : AG) (p k j : Int) : npOf (pushS A p k) j = npOf A j := by
  unfold npOf pushS
  rw [find_keep _ (fun x => by split <;> rfl)]
  cases e : A.find? (fun x => decide (x.1 = j)) with
  | some x => simp only [Option.map_some, Option.getD_some]; split <;> rfl
  | none => rfl
theorem sucOf_push (A : AG) (p k j : Int) (h : p ∈ A.map (·.1)) : sucOf (pushS A p k) j = sucOf A j ++ if j = p then [k] else [] := by
  unfold sucOf pushS
  rw [find_keep _ (fun x => by split <;> rfl)]
  cases e : A.find? (fun x => decide (x.1 = j)) with
  | some x =>
    have hx := find_key e
    by_cases q : j = p
    · simp [hx, q]
    · simp [hx, q]
  | none =>
    by_cases q : j = p
    · subst q
      obtain ⟨x, hx, rfl⟩ := List.mem_map.mp h
      have := List.find?_eq_none.mp e x hx
      simp at this
    · simp [q]
theorem keys_bump (A : AG) (k n : Int) : (bump A k n).map (·.1) = A.map (·.1) := by
  unfold bump; rw [List.map_map]; refine List.map_congr_left fun x _ => ?_
  simp only [Function.comp]; split <;> rfl
theorem keys_push (A : AG) (p k : Int) : (pushS A p k).map (·.1) = A.map (·.1) := by
  unfold pushS; rw [List.map_map]; refine List.map_congr_left fun x _ => ?_
  simp only [Function.comp]; split <;> rfl
theorem mem_ensure (A : AG) (k j : Int) : j ∈ (ensure A k).map (·.1) ↔ j ∈ A.map (·.1) ∨ j = k := by
  unfold ensure
  split
  · rename_i h
    constructor
    · exact .inl
    · rintro (q | rfl)
      · exact q
      · exact h
  · rw [List.map_append, List.mem_append]
    simp
theorem nodup_ensure {A : AG} (k : Int) (h : (A.map (·.1)).Nodup) : ((ensure A k).map (·.1)).Nodup := by
  unfold ensure
  split
  · exact h
  · rename_i hk
    rw [List.map_append, List.nodup_append]
    refine ⟨h, by simp, fun a ha b hb e => ?_⟩
    simp at hb
    rw [e, hb] at ha
    exact hk ha
theorem addPs_np (k : Int) (ps : List Int) : ∀ (A : AG) (j : Int), npOf (addPs A k ps) j = npOf A j := by
  induction ps with
  | nil => intro A j; rfl
  | cons p ps ih => intro A j; show npOf (addPs (pushS (ensure A p) p k) k ps) j = _; rw [ih, npOf_push, npOf_ensure]
theorem addPs_suc (k : Int) (ps : List Int) : ∀ (A : AG) (j : Int), sucOf (addPs A k ps) j = sucOf A j ++ (ps.filter fun p => p = j).map fun _ => k := by
  induction ps with
  | nil => intro A j; simp [addPs]
  | cons p ps ih =>
    intro A j
    show sucOf (addPs (pushS (ensure A p) p k) k ps) j = _
    rw [ih, sucOf_push _ _ _ _ ((mem_ensure A p p).mpr (.inr rfl)), sucOf_ensure]
    by_cases e : j = p
    · subst e; simp
    · have e' : ¬ p = j := fun q => e q.symm
      simp [e, e']
theorem addPs_mem (k : Int) (ps : List Int) : ∀ (A : AG) (j : Int), j ∈ (addPs A k ps).map (·.1) ↔ j ∈ A.map (·.1) ∨ j ∈ ps := by
  induction ps with
  | nil => intro A j; simp [addPs]
  | cons p ps ih =>
    intro A j
    show j ∈ (addPs (pushS (ensure A p) p k) k ps).map (·.1) ↔ _
    rw [ih, keys_push, mem_ensure, List.mem_cons, or_assoc]
theorem addPs_nodup (k : Int) (ps : List Int) : ∀ (A : AG), (A.map (·.1)).Nodup → ((addPs A k ps).map (·.1)).Nodup := by
  induction ps with
  | nil => intro A h; exact h
  | cons p ps ih =>
    intro A h
    show ((addPs (pushS (ensure A p) p k) k ps).map (·.1)).Nodup
    exact ih _ (by rw [keys_push]; exact nodup_ensure p h)
theorem addA_np (A : AG) (k : Int) (ps : List Int) (j : Int) : npOf (addA A k ps) j = npOf A j + if j = k then (ps.length : Int) else 0 := by
  unfold addA
  rw [addPs_np, npOf_bump _ _ _ _ ((mem_ensure A k k).mpr (.inr rfl)), npOf_ensure]
theorem addA_suc (A : AG) (k : Int) (ps : List Int) (j : Int) : sucOf (addA A k ps) j = sucOf A j ++ (ps.filter fun p => p = j).map fun _ => k := by
  unfold addA
  rw [addPs_suc, sucOf_bump, sucOf_ensure]
theorem addA_mem (A : AG) (k : Int) (ps : List Int) (j : Int) : j ∈ (addA A k ps).map (·.1) ↔ j ∈ A.map (·.1) ∨ j = k ∨ j ∈ ps := by
  unfold addA
  rw [addPs_mem, keys_bump, mem_ensure, or_assoc]
theorem addA_nodup {A : AG} (k : Int) (ps : List Int) (h : (A.map (·.1)).Nodup) : ((addA A k ps).map (·.1)).Nodup := by
  unfold addA
  exact addPs_nodup k ps _ (by rw [keys_bump]; exact nodup_ensure k h)
/-- what n adds make -/
def built (ps : Nat → List Int) (n : Nat) : AG := (List.range n).foldl (fun (A : AG) (k : Nat) => addA A (k : Int) (ps k)) []
theorem built_succ (ps : Nat → List Int) (n : Nat) : built ps (n + 1) = addA (built ps n) (n : Int) (ps n) := by unfold built; rw [List.range_succ, List.foldl_append]; rfl
theorem built_np (ps : Nat → List Int) (k : Nat) : ∀ n, npOf (built ps n) (k : Int) = if k < n then ((ps k).length : Int) else 0 := by
  intro n
  induction n with
  | zero => rfl
  | succ n ih =>
    rw [built_succ, addA_np, ih]
    by_cases h : k = n
    · subst h; simp
    · have : ¬ ((k : Int) = (n : Int)) := by omega
      rw [if_neg this]
      by_cases q : k < n
      · rw [if_pos q, if_pos (by omega)]; simp
      · rw [if_neg q, if_neg (by omega)]; rfl
theorem built_nodup (ps : Nat → List Int) : ∀ n, ((built ps n).map (·.1)).Nodup := by
  intro n
  induction n with
  | zero => exact List.nodup_nil
  | succ n ih => rw [built_succ]; exact addA_nodup _ _ ih
theorem built_suc (ps : Nat → List Int) (hps : ∀ k, (ps k).Nodup) (j : Int) : ∀ n, sucOf (built ps n) j = ((List.range n).filter fun k => j ∈ ps k).map fun (k : Nat) => (k : Int) := by
  intro n
  induction n with
  | zero => rfl
  | succ n ih =>
    rw [built_succ, addA_suc, ih, List.range_succ, List.filter_append, List.map_append]
    congr 1
    have e : (ps n).filter (fun p => p = j) = if j ∈ ps n then [j] else [] := by
      have h := hps n
      generalize ps n = l at h
      induction l with
      | nil => rfl
      | cons x l ih2 =>
        rw [List.nodup_cons] at h
        rw [List.filter_cons, ih2 h.2]
        by_cases q : x = j
        · subst q; simp [h.1]
        · have q' : ¬ j = x := fun z => q z.symm
          simp [q, q']
    rw [e]
    by_cases q : j ∈ ps n <;> simp [q]

end
theorem reset57tolda : True := by
  k_with_none
  w_top off
  try (walk1; fail)
  exact True.intro
section
open PyProof
theorem canon_start {w : World} {h₀ h : Heap} {L sx dx nx : Addr} {on : Obj} {t1 t2 t3 t4 tp tf : Tok} {x1 x2 x3 : Addr × Obj} {F : List (Addr × Obj)}
    (N : News h₀ L h ((nx, on) :: (sx, instObj 151 dx) :: (dx, dictOf (srtEs w t1 t2 t3 t4 (.ref nx) .none (.int 0 tp) (.int 0 tf)) 4) :: x1 :: x2 :: x3 :: F)) :
    News h₀ L h (canon w (x2 :: x1 :: x3 :: F) ⟨sx, dx, nx, on, t1, t2, t3, t4, none, 0, tp, 0, tf⟩ []) := by
  intro q hq
  have : q ∈ (nx, on) :: (sx, instObj 151 dx) :: (dx, dictOf (srtEs w t1 t2 t3 t4 (.ref nx) .none (.int 0 tp) (.int 0 tf)) 4) :: x1 :: x2 :: x3 :: F := by
    simp only [canon, SR.list, rdL, rdV, List.flatMap_nil, List.nil_append, List.cons_append, List.mem_cons] at hq ⊢
    rcases hq with h | h | h | h | h | h | h
    · exact .inr (.inl h)
    · exact .inr (.inr (.inl h))
    · exact .inl h
    · exact .inr (.inr (.inr (.inr (.inl h))))
    · exact .inr (.inr (.inr (.inl h)))
    · exact .inr (.inr (.inr (.inr (.inr (.inl h)))))
    · exact .inr (.inr (.inr (.inr (.inr (.inr h)))))
  exact N q this
theorem good_start {w : World} {sx dx nx a1 a2 a3 : Nat} {on o1 o2 o3 : Obj} {t1 t2 t3 t4 tp tf : Tok} {F : List (Addr × Obj)} (hF : (F.map (·.1)).Nodup) (h3 : ∀ q ∈ F, @LT.lt Nat _ q.1 a3) (h32 : a3 < a2) (h21 : a2 < a1) (h1d : a1 < dx) (hds : dx < sx) (hsn : sx < nx)
    (hi : on.IsDictOf (PySem.intKind PR w) []) (lo : (nx == sysModules) = false) : Good w ((a2, o2) :: (a1, o1) :: (a3, o3) :: F) ⟨sx, dx, nx, on, t1, t2, t3, t4, none, 0, tp, 0, tf⟩ [] := by
  refine ⟨?_, by simpa [kvsOf] using hi, List.nodup_nil, lo⟩
  have hm : ∀ c : Nat, a3 ≤ c → c ∉ F.map (·.1) := by
    intro c hc hm
    obtain ⟨q, hq, e⟩ := List.mem_map.mp hm
    have := h3 q hq
    rw [e] at this
    omega
  simp only [canon, SR.list, rdL, List.flatMap_nil, List.nil_append, List.cons_append, List.map_cons, List.nodup_cons, List.mem_cons, not_or]
  refine ⟨⟨?_, ?_, ?_, ?_, ?_, hm sx (by omega)⟩, ⟨?_, ?_, ?_, ?_, hm dx (by omega)⟩, ⟨?_, ?_, ?_, hm nx (by omega)⟩, ⟨?_, ?_, hm a2 (by omega)⟩, ⟨?_, hm a1 (by omega)⟩, hm a3 (by omega), hF⟩
  all_goals exact neN (by omega)
theorem start_ok {w : World} {h₀ h : Heap} {L : Addr} {sx dx nx a1 a2 a3 : Nat} {on o1 o2 o3 : Obj} {t1 t2 t3 t4 tp tf : Tok} {F : List (Addr × Obj)}
    (N : News h₀ L h ((nx, on) :: (sx, instObj 151 dx) :: (dx, dictOf (srtEs w t1 t2 t3 t4 (.ref nx) .none (.int 0 tp) (.int 0 tf)) 4) :: (a1, o1) :: (a2, o2) :: (a3, o3) :: F))
    (hF : (F.map (·.1)).Nodup) (h3 : ∀ q ∈ F, @LT.lt Nat _ q.1 a3) (h32 : a3 < a2) (h21 : a2 < a1) (h1d : a1 < dx) (hds : dx < sx) (hsn : sx < nx) (hi : on.IsDictOf (PySem.intKind PR w) []) (lo : (nx == sysModules) = false) :
    ∃ S : SR, S.sx = sx ∧ S.rd = none ∧ S.po = 0 ∧ S.fi = 0 ∧ News h₀ L h (canon w ((a2, o2) :: (a1, o1) :: (a3, o3) :: F) S []) ∧ Good w ((a2, o2) :: (a1, o1) :: (a3, o3) :: F) S [] :=
  ⟨_, rfl, rfl, rfl, rfl, canon_start N, good_start hF h3 h32 h21 h1d hds hsn hi lo⟩
theorem news_out2 {w : World} {F : List (Addr × Obj)} {S : SR} {G : List NR} {h₀ h : Heap} {L : Addr} {x : Addr × Obj} (N : News h₀ L h (canon w (x :: F) S G)) : News h₀ L h (x :: canon w F S G) := fun p hp => N p ((canon_cons_perm w F S G x).mem_iff.mpr hp)
theorem good_ne {w : World} {F : List (Addr × Obj)} {S : SR} {G : List NR} {x : Addr × Obj} (g : Good w (x :: F) S G) : ∀ p ∈ canon w F S G, p.1 ≠ x.1 := by
  have := g.nd
  rw [((canon_cons_perm w F S G x).map _).nodup_iff, List.map_cons, List.nodup_cons] at this
  exact fun p hp e => this.1 (List.mem_map.mpr ⟨p, hp, e⟩)
theorem good_in2 {w : World} {F : List (Addr × Obj)} {S : SR} {G : List NR} (g : Good w F S G) {a : Addr} {o : Obj} (h : ∀ p ∈ canon w F S G, p.1 ≠ a) : Good w ((a, o) :: F) S G := by
  refine ⟨?_, g.dict, g.keys, g.lo⟩
  rw [((canon_cons_perm w F S G (a, o)).map _).nodup_iff, List.map_cons]
  refine List.nodup_cons.mpr ⟨fun hm => ?_, g.nd⟩
  obtain ⟨q, hq, e⟩ := List.mem_map.mp hm
  exact h q hq e
/-- the waits of file k -/
def psOf (ds : List Int) (k : Nat) : List Int := ((List.range 9).filter fun i => decide (ds[k]?.getD 0 * 2 ^ i / 256 % 2 = 1) && decide (i < ds.length)).map fun i : Nat => (i : Int)
theorem sign_tell {md : Int} {cs : List Nat} (hcs : cs.length = 10) (hsg : ∀ j c, cs[j + 1]? = some c → (goodSign c ↔ needs md j)) :
    (Txt.slice ⟨cs.toArray⟩ (some 1) none).length = 9 ∧ ∀ j : Nat, j < 9 → ((!(Builtin.Str.occurrences (Str.ofString "rwxst") (Txt.item (Txt.slice ⟨cs.toArray⟩ (some 1) none) (j : Int)) 0 (Str.ofString "rwxst").length 1).isEmpty) = true ↔ needs md j) := by
  rcases cs with _ | ⟨c0, _ | ⟨c1, _ | ⟨c2, _ | ⟨c3, _ | ⟨c4, _ | ⟨c5, _ | ⟨c6, _ | ⟨c7, _ | ⟨c8, _ | ⟨c9, _ | ⟨c10, r⟩⟩⟩⟩⟩⟩⟩⟩⟩⟩⟩
  all_goals first | (exfalso; simp only [List.length_cons, List.length_nil] at hcs; omega) | skip
  have e : Txt.slice ⟨[c0, c1, c2, c3, c4, c5, c6, c7, c8, c9].toArray⟩ (some 1) none = ⟨#[c1, c2, c3, c4, c5, c6, c7, c8, c9]⟩ := by
    unfold Txt.slice
    have : Builtin.Str.strSliceIndices (some 1) none 1 (Str.mk [c0, c1, c2, c3, c4, c5, c6, c7, c8, c9].toArray).length = [1, 2, 3, 4, 5, 6, 7, 8, 9] := (by decide +kernel : Builtin.Str.strSliceIndices (some 1) none 1 10 = [1, 2, 3, 4, 5, 6, 7, 8, 9])
    rw [this]
    rfl
  rw [e]
  refine ⟨rfl, fun j hj => ?_⟩
  have key : ∀ c, (Txt.item ⟨#[c1, c2, c3, c4, c5, c6, c7, c8, c9]⟩ (j : Int)) = ⟨#[c]⟩ → [c0, c1, c2, c3, c4, c5, c6, c7, c8, c9][j + 1]? = some c → ((!(Builtin.Str.occurrences (Str.ofString "rwxst") (Txt.item ⟨#[c1, c2, c3, c4, c5, c6, c7, c8, c9]⟩ (j : Int)) 0 (Str.ofString "rwxst").length 1).isEmpty) = true ↔ needs md j) := by
    intro c h1 h2
    rw [h1, StrLaws.found_one, decide_eq_true_eq, ← hsg j c h2]
    unfold goodSign
    show c ∈ [114, 119, 120, 115, 116] ↔ _
    simp
  match j, hj with
  | 0, _ => exact key c1 rfl rfl
  | 1, _ => exact key c2 rfl rfl
  | 2, _ => exact key c3 rfl rfl
  | 3, _ => exact key c4 rfl rfl
  | 4, _ => exact key c5 rfl rfl
  | 5, _ => exact key c6 rfl rfl
  | 6, _ => exact key c7 rfl rfl
  | 7, _ => exact key c8 rfl rfl
  | 8, _ => exact key c9 rfl rfl
theorem methodCall_star {M : Model} {A : Around} {E : Value → Shared → Prop} {s : Shared} {env : Env} {o : PySem.Expr} {name : Str} {apos pos : Pos} {args : List PySem.Expr} {Q : Value → Shared → Prop}
    (h : wpAny M A (eval o env) (fun ov s₁ => wpAny M A (getAttr ov name true) (fun f s₂ => wpAny M A (callWith pos f [] (backTo pos (starEach args env)) []) Q E s₂) E s₁) E s)
    (he : eval (.Call (.Attribute o name apos) args [] pos) env = (do
      let ov ← eval o env
      standAt apos.atName
      let f ← holding [ov] (getAttr ov name true >>= fun f => pure (f, ([] : List Value)))
      callWith pos f.1 f.2 (backTo pos (starEach args env)) []) := by rfl) :
    wpAny M A (eval (.Call (.Attribute o name apos) args [] pos) env) Q E s := by
  rw [he]
  refine wpAny_bind (wpAny_mono h (fun ov s₁ h₁ => wpAny_bind (wpAny_standAt (wpAny_bind (wpAny_holding (wpAny_bind (wpAny_mono h₁ (fun fx s₂ h₂ => wpAny_pure ?_) fun _ _ x => x)))))) fun _ _ x => x)
  exact h₂
theorem callWith_MS {M : Model} {A : Around} {E : Value → Shared → Prop} {s : Shared} {K : Frag} {env : Env} {pos p : Pos} {first : List Value} {Q : Value → Shared → Prop} {e : PySem.Expr} {q g : Addr} {self : Value} (hf : fnIn K g = true)
    (h : wpAny M A (eval e env) (fun v s₁ => StarOf M A E v (fun vs s₂ => MethP K q g self s₂.heap ∧ wpAny M A (call (.ref q) (first ++ vs)) Q E s₂) s₁) E s)
    (he : starEach [.Starred e p] env = [(true, eval e env)] := by rfl) :
    wpAny M A (callWith pos (.ref q) first (backTo pos (starEach [.Starred e p] env)) []) Q E s := by
  rw [he]
  exact ks_call rfl (keeps_M hf) (ks_lone h)
theorem callWith_MS2 {M : Model} {A : Around} {E : Value → Shared → Prop} {s : Shared} {K : Frag} {env : Env} {pos : Pos} {first : List Value} {Q : Value → Shared → Prop} {e : PySem.Expr} {rest : List PySem.Expr} {q g : Addr} {self : Value} (hf : fnIn K g = true)
    (h : wpAny M A (spliced (backTo pos (starEach (e :: rest) env))) (fun vs s₁ => MethP K q g self s₁.heap ∧ wpAny M A (call (.ref q) (first ++ vs)) Q E s₁) E s)
    (he : starEach (e :: rest) env = (false, eval e env) :: starEach rest env := by rfl) (hst : (backTo pos (starEach rest env)).any (·.1) = true := by rfl) :
    wpAny M A (callWith pos (.ref q) first (backTo pos (starEach (e :: rest) env)) []) Q E s := by
  rw [he] at h ⊢
  exact ks_call (by show (false || (backTo pos (starEach rest env)).any (·.1)) = true; rw [hst]; rfl) (keeps_M hf) (evalArgs_plain h)
theorem psOf_len (ds : List Int) (k : Nat) : (psOf ds k).length ≤ 9 := by
  unfold psOf
  rw [List.length_map]
  exact Nat.le_trans (List.length_filter_le _ _) (by simp)
theorem addA_len (A : AG) (k : Int) (ps : List Int) : (addA A k ps).length ≤ A.length + 1 + ps.length := by
  unfold addA
  have h1 := addPs_len k ps (bump (ensure A k) k ps.length)
  rw [bump_len] at h1
  have h2 := ensure_len A k
  omega
theorem built_len (ps : Nat → List Int) (h : ∀ k, (ps k).length ≤ 9) : ∀ n, (built ps n).length ≤ n * 10 := by
  intro n
  induction n with
  | zero => exact Nat.le_refl _
  | succ n ih =>
    rw [built_succ]
    have h1 := addA_len (built ps n) (n : Int) (ps n)
    have h2 := h n
    omega
theorem built_sv (ps : Nat → List Int) (h : ∀ k, (ps k).length ≤ 9) : ∀ n, ∀ x ∈ built ps n, x.2.2.length ≤ n * 9 := by
  intro n
  induction n with
  | zero => intro x hx; cases hx
  | succ n ih =>
    intro x hx
    rw [built_succ] at hx
    unfold addA at hx
    have h2 := h n
    have := addPs_sv (ps n) (bump_sv (ensure_sv ih)) x hx
    omega
theorem built_mem (ps : Nat → List Int) (k : Nat) : ∀ n, k < n → (k : Int) ∈ (built ps n).map (·.1) := by
  intro n
  induction n with
  | zero => intro h; exact absurd h (Nat.not_lt_zero _)
  | succ n ih =>
    intro h
    rw [built_succ, addA_mem]
    by_cases e : k = n
    · exact .inr (.inl (by rw [e]))
    · exact .inl (ih (by omega))
theorem suc_at {A : AG} (hn : (A.map (·.1)).Nodup) {x : Int × Int × List Int} (hx : x ∈ A) : sucOf A x.1 = x.2.2 := by
  unfold sucOf
  have : A.find? (fun y => decide (y.1 = x.1)) = some x := by
    induction A with
    | nil => cases hx
    | cons a A ih =>
      rw [List.map_cons, List.nodup_cons] at hn
      rw [List.find?_cons]
      by_cases e : a.1 = x.1
      · have : a = x := by
          rcases List.mem_cons.mp hx with h | h
          · exact h.symm
          · exact absurd (List.mem_map.mpr ⟨x, h, e.symm⟩) hn.1
        subst this
        simp
      · rcases List.mem_cons.mp hx with h | h
        · exact absurd (by rw [h]) e
        · simp only [e, decide_false]
          exact ih hn.2 h
  rw [this]; rfl
theorem psOf_nodup (ds : List Int) (k : Nat) : (psOf ds k).Nodup := by
  unfold psOf
  rw [List.nodup_iff_pairwise_ne, List.pairwise_map]
  exact ((List.nodup_range (n := 9)).filter _).imp fun h e => h (by omega)
theorem built_sk (ds : List Int) (n : Nat) : ∀ x ∈ built (psOf ds) n, ∀ j ∈ x.2.2, j ∈ (built (psOf ds) n).map (·.1) := by
  intro x hx j hj
  rw [← suc_at (built_nodup _ n) hx, built_suc _ (psOf_nodup ds)] at hj
  obtain ⟨k, hk, rfl⟩ := List.mem_map.mp hj
  exact built_mem _ k n (List.mem_range.mp (List.mem_filter.mp hk).1)
/-- the end of a statement, laid aside -/
def EndsNext (Post : Shared → Prop) (f : Flow) (s : Shared) : Prop := f = .next ∧ Post s
theorem cut_next {prog : Program} {w : World} {A : Around} {E : Value → Shared → Prop} {s : Shared} {X : Sem Flow} {Q : Flow → Shared → Prop} (Post : Shared → Prop) (tail : ∀ s', Post s' → Q .next s') (h : wpAny (model prog w) A X (EndsNext Post) E s) : wpAny (model prog w) A X Q E s :=
  wpAny_mono h (fun _ s' ⟨e, p⟩ => e ▸ tail s' p) fun _ _ e => e
theorem frm2b {h₀ h : Heap} {L : Addr} {m : Str → Option Value} {a b : Str} {va vb : Value} (F : Fr h₀ L h m) (ha : m a = some va) (hb : m b = some vb) : Fr h₀ L h (fun y => if y = a then some va else if y = b then some vb else m y) := (map2 ha hb) ▸ F

end
theorem reset60rounds : True := by
  k_with_none
  w_top off
  try (walk1; fail)
  exact True.intro
section
/-! the sorter's plain law: what a round does -/
theorem npOf_map (f : Int × Int × List Int → Int × Int × List Int) (hf : ∀ x, (f x).1 = x.1) (A : AG) (j : Int) : npOf (A.map f) j = ((A.find? fun x => x.1 = j).map fun x => (f x).2.1).getD 0 := by
  unfold npOf
  rw [find_keep f hf, Option.map_map]
  rfl
theorem npOf_setNp (A : AG) (k v j : Int) (h : k ∈ A.map (·.1)) : npOf (setNp A k v) j = if j = k then v else npOf A j := by
  unfold setNp
  rw [npOf_map _ (fun x => by split <;> rfl)]
  unfold npOf
  cases e : A.find? (fun x => decide (x.1 = j)) with
  | some x =>
    have hx := find_key e
    by_cases q : j = k
    · simp [hx, q]
    · simp [hx, q]
  | none =>
    by_cases q : j = k
    · subst q
      obtain ⟨x, hx, rfl⟩ := List.mem_map.mp h
      have := List.find?_eq_none.mp e x hx
      simp at this
    · simp [q]
theorem npOf_decA (A : AG) (k j : Int) (h : k ∈ A.map (·.1)) : npOf (decA A k) j = if j = k then npOf A j - 1 else npOf A j := by
  unfold decA
  rw [npOf_map _ (fun x => by split <;> rfl)]
  unfold npOf
  cases e : A.find? (fun x => decide (x.1 = j)) with
  | some x =>
    have hx := find_key e
    by_cases q : j = k
    · simp [hx, q]
    · simp [hx, q]
  | none =>
    by_cases q : j = k
    · subst q
      obtain ⟨x, hx, rfl⟩ := List.mem_map.mp h
      have := List.find?_eq_none.mp e x hx
      simp at this
    · simp [q]
theorem keys_shape {A B : AG} (h : shape A = shape B) : A.map (·.1) = B.map (·.1) := by
  have e : ∀ C : AG, C.map (·.1) = (shape C).map (·.1) := fun C => by unfold shape; rw [List.map_map]; rfl
  rw [e, e, h]
theorem keys_decA (A : AG) (k : Int) : (decA A k).map (·.1) = A.map (·.1) := keys_shape (shape_decA A k)
theorem keys_setNp (A : AG) (k v : Int) : (setNp A k v).map (·.1) = A.map (·.1) := keys_shape (shape_setNp A k v)
theorem foldDec_np (js : List Int) : ∀ (A : AG) (ys : List Int), js.Nodup → (∀ j ∈ js, j ∈ A.map (·.1)) → (∀ j, npOf (js.foldl decS (A, ys)).1 j = if j ∈ js then npOf A j - 1 else npOf A j) ∧ (js.foldl decS (A, ys)).2 = ys ++ js.filter fun j => decide (npOf A j = 1) := by
  induction js with
  | nil => intro A ys _ _; exact ⟨fun j => by simp, by simp⟩
  | cons x js ih =>
    intro A ys hn hk
    rw [List.nodup_cons] at hn
    have hx := hk x (.head _)
    have hnp : ∀ j, npOf (decA A x) j = if j = x then npOf A j - 1 else npOf A j := fun j => npOf_decA A x j hx
    rw [List.foldl_cons]
    unfold decS
    obtain ⟨i1, i2⟩ := ih (decA A x) (if npOf (decA A x) x = 0 then ys ++ [x] else ys) hn.2 (fun j hj => by rw [keys_decA]; exact hk j (.tail _ hj))
    refine ⟨fun j => ?_, ?_⟩
    · refine (i1 j).trans ?_
      rw [hnp]
      by_cases e : j = x
      · subst e; simp [hn.1]
      · simp [e]
    · refine i2.trans ?_
      have e1 : js.filter (fun j => decide (npOf (decA A x) j = 1)) = js.filter (fun j => decide (npOf A j = 1)) := by
        refine List.filter_congr fun y hy => ?_
        have : y ≠ x := fun q => hn.1 (q ▸ hy)
        rw [hnp, if_neg this]
      rw [e1, hnp x, if_pos rfl, List.filter_cons]
      by_cases e : npOf A x = 1
      · simp [e]
      · have : ¬ (npOf A x - 1 = 0) := by omega
        simp [e, this]
/-- how many of ks have j behind them -/
def cnt (S : Int → List Int) (ks : List Int) (j : Int) : Nat := (ks.filter fun k => decide (j ∈ S k)).length
theorem cnt_cons (S : Int → List Int) (k : Int) (ks : List Int) (j : Int) : cnt S (k :: ks) j = cnt S ks j + if j ∈ S k then 1 else 0 := by
  unfold cnt
  rw [List.filter_cons]
  by_cases h : j ∈ S k <;> simp [h]
theorem cnt_perm (S : Int → List Int) {ks ks' : List Int} (h : ks.Perm ks') (j : Int) : cnt S ks j = cnt S ks' j := (h.filter _).length_eq
theorem cnt_pos {S : Int → List Int} {ks : List Int} {j : Int} (h : 1 ≤ cnt S ks j) : ∃ k ∈ ks, j ∈ S k := by
  unfold cnt at h
  obtain ⟨k, hk⟩ := List.exists_mem_of_length_pos h
  obtain ⟨h1, h2⟩ := List.mem_filter.mp hk
  exact ⟨k, h1, of_decide_eq_true h2⟩
theorem cnt_le (S : Int → List Int) {ks ks' : List Int} (h : ks.Sublist ks') (j : Int) : cnt S ks j ≤ cnt S ks' j := (h.filter _).length_le
/-- what the finishing of ks does -/
theorem doneAll_np (S : Int → List Int) (hS : ∀ k, (S k).Nodup) (ks : List Int) : ∀ (A : AG) (ys : List Int), (∀ k, sucOf A k = S k) → ks.Nodup → (∀ k ∈ ks, k ∈ A.map (·.1)) → (∀ k ∈ ks, ∀ j ∈ S k, j ∈ A.map (·.1) ∧ j ∉ ks) →
    (∀ j, 1 ≤ cnt S ks j → (cnt S ks j : Int) ≤ npOf A j) → ys.Nodup → (∀ j ∈ ys, npOf A j = 0 ∧ j ∉ ks) →
    (∀ j, npOf (doneAll (A, ys) ks).1 j = if j ∈ ks then -2 else npOf A j - (cnt S ks j : Int)) ∧ (doneAll (A, ys) ks).2.Nodup ∧ ∀ j, j ∈ (doneAll (A, ys) ks).2 ↔ j ∈ ys ∨ (1 ≤ cnt S ks j ∧ (cnt S ks j : Int) = npOf A j) := by
  induction ks with
  | nil =>
    intro A ys _ _ _ _ _ hy _
    refine ⟨fun j => by simp [doneAll, cnt], hy, fun j => ?_⟩
    simp [doneAll, cnt]
  | cons k ks ih =>
    intro A ys hs hn hk hj hc hyn hy
    rw [List.nodup_cons] at hn
    have hkk := hk k (.head _)
    have hjk := hj k (.head _)
    have e0 : sucOf A k = S k := hs k
    obtain ⟨a1, a2⟩ := foldDec_np (S k) (setNp A k (-2)) ys (hS k) (fun j q => by rw [keys_setNp]; exact (hjk j q).1)
    have hone : doneOne (A, ys) k = (S k).foldl decS (setNp A k (-2), ys) := by unfold doneOne; rw [e0]
    rw [← hone] at a1 a2
    have hkS : k ∉ S k := fun q => (hjk k q).2 (.head _)
    have np1 : ∀ j, npOf (doneOne (A, ys) k).1 j = if j = k then -2 else npOf A j - (if j ∈ S k then 1 else 0) := by
      intro j
      rw [a1, npOf_setNp _ _ _ _ hkk]
      by_cases e : j = k
      · subst e; simp [hkS]
      · by_cases q : j ∈ S k <;> simp [e, q]
    have shp : shape (doneOne (A, ys) k).1 = shape A := doneOne_shape (A, ys) k
    have kys : (doneOne (A, ys) k).1.map (·.1) = A.map (·.1) := keys_shape shp
    have ys1 : (doneOne (A, ys) k).2 = ys ++ (S k).filter fun j => decide (npOf A j = 1) := by
      rw [a2]
      congr 1
      refine List.filter_congr fun y hy' => ?_
      have : y ≠ k := fun q => hkS (q ▸ hy')
      rw [npOf_setNp _ _ _ _ hkk, if_neg this]
    have hm1 : ∀ j, j ∈ (doneOne (A, ys) k).2 ↔ j ∈ ys ∨ (j ∈ S k ∧ npOf A j = 1) := by
      intro j
      rw [ys1, List.mem_append, List.mem_filter, decide_eq_true_eq]
    have hc0 : ∀ j ∈ S k, ((cnt S ks j : Int) + 1) ≤ npOf A j := by
      intro j q
      have := hc j (by rw [cnt_cons, if_pos q]; omega)
      rw [cnt_cons, if_pos q] at this
      omega
    have key := ih (doneOne (A, ys) k).1 (doneOne (A, ys) k).2 (fun x => by rw [sucOf_shape shp]; exact hs x) hn.2 (fun x q => by rw [kys]; exact hk x (.tail _ q))
      (fun x q j q2 => by rw [kys]; exact ⟨(hj x (.tail _ q) j q2).1, fun q3 => (hj x (.tail _ q) j q2).2 (.tail _ q3)⟩) ?c1 ?c2 ?c3
    · have hd : doneAll (A, ys) (k :: ks) = doneAll ((doneOne (A, ys) k).1, (doneOne (A, ys) k).2) ks := rfl
      rw [hd]
      obtain ⟨b1, b2, b3⟩ := key
      refine ⟨fun j => ?_, b2, fun j => ?_⟩
      · rw [b1, np1]
        by_cases e : j = k
        · subst e
          rw [if_neg hn.1, if_pos rfl, if_pos (.head _)]
          have : cnt S ks j = 0 := by
            rcases Nat.eq_zero_or_pos (cnt S ks j) with z | z
            · exact z
            · obtain ⟨x, hx, hx2⟩ := cnt_pos z
              exact absurd (.head _) (hj x (.tail _ hx) j hx2).2
          rw [this]; rfl
        · rw [if_neg e]
          by_cases q : j ∈ ks
          · rw [if_pos q, if_pos (.tail _ q)]
          · have hne : j ∉ k :: ks := fun z => by
              rcases List.mem_cons.mp z with z | z
              · exact e z
              · exact q z
            rw [cnt_cons]
            by_cases z : j ∈ S k
            · simp only [z, q, hne, if_true, if_false]; omega
            · simp only [z, q, hne, if_false]; omega
      · rw [b3, hm1, cnt_cons, np1]
        by_cases q : j ∈ S k
        · have e : j ≠ k := fun z => hkS (z ▸ q)
          have h1 := hc0 j q
          have hny : j ∉ ys := fun z => by have := (hy j z).1; omega
          simp only [e, if_false, if_true, hny, false_or, q, true_and]
          constructor
          · rintro (z | z) <;> omega
          · intro z
            by_cases h2 : cnt S ks j = 0
            · left; omega
            · right; omega
        · simp only [q, if_false, false_and, or_false, Nat.add_zero, Int.sub_zero]
          by_cases e : j = k
          · subst e
            have : cnt S ks j = 0 := by
              rcases Nat.eq_zero_or_pos (cnt S ks j) with z | z
              · exact z
              · obtain ⟨x, hx, hx2⟩ := cnt_pos z
                exact absurd (.head _) (hj x (.tail _ hx) j hx2).2
            simp [this]
          · rw [if_neg e]
    case c1 =>
      intro j h1
      have e : j ≠ k := fun z => by
        obtain ⟨x, hx, hx2⟩ := cnt_pos h1
        exact absurd (z ▸ List.Mem.head _) (hj x (.tail _ hx) j hx2).2
      rw [np1, if_neg e]
      have := hc j (by rw [cnt_cons]; omega)
      rw [cnt_cons] at this
      by_cases q : j ∈ S k
      · rw [if_pos q] at this ⊢; omega
      · rw [if_neg q] at this ⊢; omega
    case c2 =>
      rw [ys1, List.nodup_append]
      refine ⟨hyn, (hS k).filter _, fun a ha b hb e => ?_⟩
      subst e
      obtain ⟨h1, h2⟩ := List.mem_filter.mp hb
      rw [decide_eq_true_eq] at h2
      have := (hy a ha).1
      omega
    case c3 =>
      intro j h1
      rcases (hm1 j).mp h1 with h1 | ⟨h1, h2⟩
      · obtain ⟨h3, h4⟩ := hy j h1
        have e : j ≠ k := fun z => h4 (z ▸ .head _)
        have q : j ∉ S k := fun z => by have := hc0 j z; omega
        rw [np1, if_neg e, if_neg q]
        exact ⟨by omega, fun z => h4 (.tail _ z)⟩
      · have e : j ≠ k := fun z => hkS (z ▸ h1)
        rw [np1, if_neg e, if_pos h1]
        exact ⟨by omega, fun z => (hjk j h1).2 (.tail _ z)⟩
theorem outA_shape (ks : List Int) : ∀ A : AG, shape (outA A ks) = shape A := by
  induction ks with
  | nil => intro A; rfl
  | cons k ks ih => intro A; show shape (outA (setNp A k (-1)) ks) = _; rw [ih, shape_setNp]
theorem outA_np (ks : List Int) : ∀ (A : AG), (∀ k ∈ ks, k ∈ A.map (·.1)) → ∀ j, npOf (outA A ks) j = if j ∈ ks then -1 else npOf A j := by
  induction ks with
  | nil => intro A _ j; simp [outA]
  | cons k ks ih =>
    intro A h j
    show npOf (outA (setNp A k (-1)) ks) j = _
    rw [ih _ (fun x hx => by rw [keys_setNp]; exact h x (.tail _ hx)), npOf_setNp _ _ _ _ (h k (.head _))]
    by_cases e : j ∈ ks
    · simp [e]
    · by_cases q : j = k
      · subst q; simp
      · simp [e, q]

end
theorem reset61lay : True := by
  k_with_none
  w_top off
  try (walk1; fail)
  exact True.intro
section
/-! the layers, as the law's own text tells them -/
def bitN (ds : List Int) (k i : Nat) : Bool := decide (ds[k]?.getD 0 * 2 ^ i / 256 % 2 = 1)
def inn (ds : List Int) (left : List Nat) (k : Nat) : List Nat := left.filter fun i => bitN ds k i && decide (i < 9)
def stepL (ds : List Int) (left : List Nat) : List Nat := left.filter fun k => !(inn ds left k).isEmpty
def lay (ds : List Int) : Nat → List Nat
  | 0 => List.range ds.length
  | t + 1 => stepL ds (lay ds t)
def toI (l : List Nat) : List Int := l.map fun k : Nat => (k : Int)
def rnd (ds : List Int) (t : Nat) : List Int := toI ((lay ds t).filter fun k => decide (k ∉ lay ds (t + 1)))
abbrev BB (ds : List Int) : AG := built (psOf ds) ds.length
abbrev SS (ds : List Int) : Int → List Int := sucOf (BB ds)
structure KInv (ds : List Int) (t : Nat) (A : AG) (xs : List Int) : Prop where
  sh : shape A = shape (built (psOf ds) ds.length)
  free : ∀ k ∈ lay ds t, k ∉ lay ds (t + 1) → npOf A (k : Int) = 0
  wait : ∀ k ∈ lay ds (t + 1), npOf A (k : Int) = ((inn ds (lay ds t) k).length : Int)
  xnd : xs.Nodup
  xm : ∀ j, j ∈ xs ↔ ∃ k, k ∈ lay ds t ∧ k ∉ lay ds (t + 1) ∧ j = (k : Int)
theorem lay_sub {ds : List Int} {t k : Nat} (h : k ∈ lay ds (t + 1)) : k ∈ lay ds t := (List.mem_filter.mp h).1
theorem lay_sl (ds : List Int) : ∀ t, (lay ds t).Sublist (List.range ds.length)
  | 0 => List.Sublist.refl _
  | t + 1 => List.filter_sublist.trans (lay_sl ds t)
theorem lay_nodup (ds : List Int) (t : Nat) : (lay ds t).Nodup := (lay_sl ds t).nodup List.nodup_range
theorem lay_lt {ds : List Int} {t k : Nat} (h : k ∈ lay ds t) : k < ds.length := List.mem_range.mp ((lay_sl ds t).mem h)
theorem mem_inn {ds : List Int} {left : List Nat} {k i : Nat} : i ∈ inn ds left k ↔ i ∈ left ∧ bitN ds k i = true ∧ i < 9 := by
  unfold inn
  rw [List.mem_filter, Bool.and_eq_true, decide_eq_true_eq]
theorem mem_lay {ds : List Int} {t k : Nat} : k ∈ lay ds (t + 1) ↔ k ∈ lay ds t ∧ inn ds (lay ds t) k ≠ [] := by
  show k ∈ stepL ds (lay ds t) ↔ _
  unfold stepL
  rw [List.mem_filter]
  cases inn ds (lay ds t) k <;> simp
theorem mem_ps {ds : List Int} {k : Nat} {j : Int} : j ∈ psOf ds k ↔ ∃ i : Nat, j = (i : Int) ∧ i < 9 ∧ bitN ds k i = true ∧ i < ds.length := by
  unfold psOf
  rw [List.mem_map]
  constructor
  · rintro ⟨i, hi, rfl⟩
    obtain ⟨h1, h2⟩ := List.mem_filter.mp hi
    rw [Bool.and_eq_true, decide_eq_true_eq (p := i < ds.length)] at h2
    exact ⟨i, rfl, List.mem_range.mp h1, h2.1, h2.2⟩
  · rintro ⟨i, rfl, h1, h2, h3⟩
    refine ⟨i, List.mem_filter.mpr ⟨List.mem_range.mpr h1, ?_⟩, rfl⟩
    rw [Bool.and_eq_true, decide_eq_true_eq (p := i < ds.length)]
    exact ⟨h2, h3⟩
theorem SS_eq (ds : List Int) (q : Int) : SS ds q = ((List.range ds.length).filter fun k => q ∈ psOf ds k).map fun k : Nat => (k : Int) := built_suc (psOf ds) (psOf_nodup ds) q ds.length
theorem mem_SS {ds : List Int} {q j : Int} : j ∈ SS ds q ↔ ∃ k : Nat, k < ds.length ∧ j = (k : Int) ∧ q ∈ psOf ds k := by
  rw [SS_eq, List.mem_map]
  constructor
  · rintro ⟨k, hk, rfl⟩
    obtain ⟨h1, h2⟩ := List.mem_filter.mp hk
    exact ⟨k, List.mem_range.mp h1, rfl, of_decide_eq_true h2⟩
  · rintro ⟨k, h1, rfl, h2⟩
    exact ⟨k, List.mem_filter.mpr ⟨List.mem_range.mpr h1, decide_eq_true h2⟩, rfl⟩
theorem SS_nodup (ds : List Int) (q : Int) : (SS ds q).Nodup := by
  rw [SS_eq, List.nodup_iff_pairwise_ne, List.pairwise_map]
  exact (List.nodup_range.filter _).imp fun h e => h (by omega)
theorem mem_SS' {ds : List Int} {k i : Nat} (hk : k < ds.length) (hi : i < ds.length) : (k : Int) ∈ SS ds (i : Int) ↔ bitN ds k i = true ∧ i < 9 := by
  rw [mem_SS]
  constructor
  · rintro ⟨k', h1, h2, h3⟩
    obtain rfl : k = k' := by omega
    obtain ⟨i', h4, h5, h6, _⟩ := mem_ps.mp h3
    obtain rfl : i = i' := by omega
    exact ⟨h6, h5⟩
  · rintro ⟨h1, h2⟩
    exact ⟨k, hk, rfl, mem_ps.mpr ⟨i, rfl, h2, h1, hi⟩⟩
theorem stays {ds : List Int} {k i : Nat} (hk : k < ds.length) (hb : bitN ds k i = true) (h9 : i < 9) : ∀ t, i ∈ lay ds t → k ∈ lay ds (t + 1) := by
  intro t
  induction t with
  | zero => exact fun h => mem_lay.mpr ⟨List.mem_range.mpr hk, List.ne_nil_of_mem (mem_inn.mpr ⟨h, hb, h9⟩)⟩
  | succ t ih => exact fun h => mem_lay.mpr ⟨ih (lay_sub h), List.ne_nil_of_mem (mem_inn.mpr ⟨h, hb, h9⟩)⟩
theorem len_split (p f : Nat → Bool) (l : List Nat) : (l.filter p).length = ((l.filter f).filter p).length + ((l.filter fun i => !f i).filter p).length := by
  induction l with
  | nil => rfl
  | cons x l ih =>
    rw [List.filter_cons, List.filter_cons, List.filter_cons]
    cases hf : f x <;> cases hp : p x <;> simp [hp, -List.filter_filter] <;> omega
theorem rnd_eq (ds : List Int) (t : Nat) : rnd ds t = toI ((lay ds t).filter fun k => !(!(inn ds (lay ds t) k).isEmpty)) := by
  unfold rnd
  congr 1
  refine List.filter_congr fun k hk => ?_
  have := @mem_lay ds t k
  cases e : inn ds (lay ds t) k with
  | nil => rw [e] at this; simp [this]
  | cons => rw [e] at this; simp [this, hk]
theorem toI_nodup {l : List Nat} (h : l.Nodup) : (toI l).Nodup := by
  unfold toI
  rw [List.nodup_iff_pairwise_ne, List.pairwise_map]
  exact h.imp fun h e => h (by omega)
theorem rnd_nodup (ds : List Int) (t : Nat) : (rnd ds t).Nodup := toI_nodup ((lay_nodup ds t).filter _)
theorem mem_rnd {ds : List Int} {t : Nat} {j : Int} : j ∈ rnd ds t ↔ ∃ k, k ∈ lay ds t ∧ k ∉ lay ds (t + 1) ∧ j = (k : Int) := by
  unfold rnd toI
  rw [List.mem_map]
  constructor
  · rintro ⟨k, hk, rfl⟩
    obtain ⟨h1, h2⟩ := List.mem_filter.mp hk
    exact ⟨k, h1, of_decide_eq_true h2, rfl⟩
  · rintro ⟨k, h1, h2, rfl⟩
    exact ⟨k, List.mem_filter.mpr ⟨h1, decide_eq_true h2⟩, rfl⟩
theorem kinv_perm {ds : List Int} {t : Nat} {A : AG} {xs : List Int} (h : KInv ds t A xs) : xs.Perm (rnd ds t) :=
  (List.perm_ext_iff_of_nodup h.xnd (rnd_nodup ds t)).mpr fun j => by rw [h.xm, mem_rnd]
theorem cnt_rnd {ds : List Int} {t k : Nat} (hk : k < ds.length) : (inn ds (lay ds t) k).length = (inn ds (lay ds (t + 1)) k).length + cnt (SS ds) (rnd ds t) (k : Int) := by
  have e := len_split (fun i => bitN ds k i && decide (i < 9)) (fun k => !(inn ds (lay ds t) k).isEmpty) (lay ds t)
  have e2 : cnt (SS ds) (rnd ds t) (k : Int) = (((lay ds t).filter fun i => !(!(inn ds (lay ds t) i).isEmpty)).filter fun i => bitN ds k i && decide (i < 9)).length := by
    rw [rnd_eq]
    unfold cnt toI
    rw [List.filter_map, List.length_map]
    congr 1
    refine List.filter_congr fun i hi => ?_
    have hi' := lay_lt (List.mem_filter.mp hi).1
    have := mem_SS' hk hi'
    show decide ((k : Int) ∈ SS ds (i : Int)) = _
    by_cases q : bitN ds k i = true ∧ i < 9
    · rw [decide_eq_true (this.mpr q), q.1, decide_eq_true q.2]; rfl
    · rw [decide_eq_false fun z => q (this.mp z)]
      symm
      rw [Bool.and_eq_false_iff]
      by_cases z : bitN ds k i = true
      · right; exact decide_eq_false fun z2 => q ⟨z, z2⟩
      · left; exact Bool.eq_false_iff.mpr z
  rw [e2]
  exact e
theorem cnt_k {ds : List Int} {t : Nat} {A : AG} {xs : List Int} (h : KInv ds t A xs) {k : Nat} (hk : k < ds.length) : (inn ds (lay ds t) k).length = (inn ds (lay ds (t + 1)) k).length + cnt (SS ds) xs (k : Int) := by
  rw [cnt_perm _ (kinv_perm h)]; exact cnt_rnd hk
theorem kinv_keys {ds : List Int} {t : Nat} {A : AG} {xs : List Int} (h : KInv ds t A xs) : A.map (·.1) = (BB ds).map (·.1) := keys_shape h.sh
theorem kinv_key {ds : List Int} {t : Nat} {A : AG} {xs : List Int} (h : KInv ds t A xs) : ∀ q ∈ xs, q ∈ A.map (·.1) := by
  intro q hq
  obtain ⟨k, h1, _, rfl⟩ := (h.xm q).mp hq
  rw [kinv_keys h]
  exact built_mem _ k _ (lay_lt h1)
theorem suc_xs {ds : List Int} {t : Nat} {A : AG} {xs : List Int} (h : KInv ds t A xs) : ∀ k ∈ xs, ∀ j ∈ SS ds k, ∃ i : Nat, j = (i : Int) ∧ i ∈ lay ds (t + 1) := by
  intro q hq j hj
  obtain ⟨k, h1, _, rfl⟩ := (h.xm q).mp hq
  obtain ⟨i, hi, rfl, hp⟩ := mem_SS.mp hj
  obtain ⟨k', e, h9, hb, _⟩ := mem_ps.mp hp
  obtain rfl : k = k' := by omega
  exact ⟨i, rfl, stays hi hb h9 t h1⟩
/-- the round begun: what done does with a part of the ready -/
theorem kinv_part {ds : List Int} {t : Nat} {A : AG} {xs ks : List Int} (h : KInv ds t A xs) (hs : ks.Sublist xs) :
    (∀ j, npOf (doneAll (outA A xs, []) ks).1 j = if j ∈ ks then -2 else npOf (outA A xs) j - (cnt (SS ds) ks j : Int)) ∧ (doneAll (outA A xs, []) ks).2.Nodup ∧ ∀ j, j ∈ (doneAll (outA A xs, []) ks).2 ↔ j ∈ ([] : List Int) ∨ (1 ≤ cnt (SS ds) ks j ∧ (cnt (SS ds) ks j : Int) = npOf (outA A xs) j) := by
  have hk : (outA A xs).map (·.1) = (BB ds).map (·.1) := (keys_shape (outA_shape xs A)).trans (kinv_keys h)
  have hx : ∀ j : Nat, j ∈ lay ds (t + 1) → (j : Int) ∉ xs := fun j hj hm => by
    obtain ⟨k, _, h2, e⟩ := (h.xm _).mp hm
    obtain rfl : j = k := by omega
    exact h2 hj
  refine doneAll_np (SS ds) (SS_nodup ds) ks (outA A xs) [] (fun k => sucOf_shape ((outA_shape xs A).trans h.sh) k) (hs.nodup h.xnd) (fun k q => ?_) (fun k q j hj => ?_) (fun j hj => ?_) List.nodup_nil (fun j hj => nomatch hj)
  · rw [hk, ← kinv_keys h]; exact kinv_key h k (hs.mem q)
  · obtain ⟨i, rfl, hi⟩ := suc_xs h k (hs.mem q) j hj
    exact ⟨by rw [hk]; exact built_mem _ i _ (lay_lt hi), fun z => hx i hi (hs.mem z)⟩
  · obtain ⟨k, q, hk2⟩ := cnt_pos hj
    obtain ⟨i, rfl, hi⟩ := suc_xs h k (hs.mem q) j hk2
    rw [outA_np xs A (kinv_key h), if_neg (hx i hi), h.wait i hi, cnt_k h (lay_lt hi)]
    have := cnt_le (SS ds) hs (i : Int)
    omega
theorem kinv_step {ds : List Int} {t : Nat} {A : AG} {xs : List Int} (h : KInv ds t A xs) : KInv ds (t + 1) (doneAll (outA A xs, []) xs).1 (doneAll (outA A xs, []) xs).2 := by
  obtain ⟨a1, a2, a3⟩ := kinv_part h (List.Sublist.refl xs)
  have hx : ∀ j : Nat, j ∈ lay ds (t + 1) → (j : Int) ∉ xs := fun j hj hm => by
    obtain ⟨k, _, h2, e⟩ := (h.xm _).mp hm
    obtain rfl : j = k := by omega
    exact h2 hj
  have np : ∀ k : Nat, k ∈ lay ds (t + 1) → npOf (doneAll (outA A xs, []) xs).1 (k : Int) = ((inn ds (lay ds (t + 1)) k).length : Int) := by
    intro k hk
    rw [a1, if_neg (hx k hk), outA_np xs A (kinv_key h), if_neg (hx k hk), h.wait k hk, cnt_k h (lay_lt hk)]
    omega
  refine ⟨?_, ?_, ?_, a2, ?_⟩
  · rw [doneAll_shape, outA_shape, h.sh]
  · intro k hk hk2
    rw [np k hk]
    have : inn ds (lay ds (t + 1)) k = [] := Decidable.byContradiction fun z => hk2 (mem_lay.mpr ⟨hk, z⟩)
    rw [this]; rfl
  · exact fun k hk => np k (lay_sub hk)
  · intro j
    rw [a3]
    constructor
    · rintro (z | ⟨h1, h2⟩)
      · cases z
      · obtain ⟨q, hq, hq2⟩ := cnt_pos h1
        obtain ⟨k, rfl, hk⟩ := suc_xs h q hq j hq2
        rw [outA_np xs A (kinv_key h), if_neg (hx k hk), h.wait k hk, cnt_k h (lay_lt hk)] at h2
        refine ⟨k, hk, fun z => ?_, rfl⟩
        have := List.length_pos_iff.mpr (mem_lay.mp z).2
        omega
    · rintro ⟨k, hk, hk2, rfl⟩
      right
      have e : inn ds (lay ds (t + 1)) k = [] := Decidable.byContradiction fun z => hk2 (mem_lay.mpr ⟨hk, z⟩)
      have e1 := List.length_pos_iff.mpr (mem_lay.mp hk).2
      have e2 := cnt_k h (lay_lt hk)
      rw [e] at e2
      simp only [List.length_nil, Nat.zero_add] at e2
      rw [outA_np xs A (kinv_key h), if_neg (hx k hk), h.wait k hk, e2]
      exact ⟨by omega, rfl⟩
theorem kinv_np {ds : List Int} {t : Nat} {A : AG} {xs : List Int} (h : KInv ds t A xs) {i : Nat} {q : Int} (hq : xs[i]? = some q) : npOf (doneAll (outA A xs, []) (xs.take i)).1 q = -1 := by
  obtain ⟨a1, _, _⟩ := kinv_part h (List.take_sublist i xs)
  have hqx := List.mem_of_getElem? hq
  have hn : q ∉ xs.take i := by
    intro hm
    obtain ⟨j, hj, e⟩ := List.mem_take_iff_getElem.mp hm
    obtain ⟨hi, e2⟩ := List.getElem?_eq_some_iff.mp hq
    have := (List.nodup_iff_pairwise_ne.mp h.xnd)
    exact List.pairwise_iff_getElem.mp this j i (by omega) hi (by omega) (by rw [e, e2])
  have hc : cnt (SS ds) (xs.take i) q = 0 := by
    rcases Nat.eq_zero_or_pos (cnt (SS ds) (xs.take i) q) with z | z
    · exact z
    · obtain ⟨k, hk, hk2⟩ := cnt_pos z
      obtain ⟨j, rfl, hj⟩ := suc_xs h k (List.mem_of_mem_take hk) q hk2
      obtain ⟨k', _, h2, e⟩ := (h.xm _).mp hqx
      obtain rfl : j = k' := by omega
      exact absurd hj h2
  rw [a1, if_neg hn, outA_np xs A (kinv_key h), if_pos hqx, hc]
  rfl
theorem kinv_len {ds : List Int} {t : Nat} {A : AG} {xs : List Int} (h9 : ds.length ≤ 9) (h : KInv ds t A xs) : xs.length ≤ 9 := by
  rw [(kinv_perm h).length_eq]
  unfold rnd toI
  rw [List.length_map]
  have h1 := List.length_filter_le (fun k => decide (k ∉ lay ds (t + 1))) (lay ds t)
  have h2 := (lay_sl ds t).length_le
  rw [List.length_range] at h2
  omega
theorem kinv_sv {ds : List Int} {t : Nat} {A : AG} {xs : List Int} (h9 : ds.length ≤ 9) (h : KInv ds t A xs) : ∀ x ∈ outA A xs, x.2.2.length ≤ 20 ∧ ∀ j ∈ x.2.2, j ∈ A.map (·.1) := by
  intro x hx
  have hs : shape (outA A xs) = shape (BB ds) := (outA_shape xs A).trans h.sh
  have hn : ((outA A xs).map (·.1)).Nodup := by rw [keys_shape hs]; exact built_nodup _ _
  have e := suc_at hn hx
  rw [sucOf_shape hs] at e
  constructor
  · rw [← e]
    show (SS ds x.1).length ≤ 20
    rw [SS_eq, List.length_map]
    have := List.length_filter_le (fun k => decide (x.1 ∈ psOf ds k)) (List.range ds.length)
    rw [List.length_range] at this
    omega
  · intro j hj
    rw [← e] at hj
    obtain ⟨k, hk, rfl, _⟩ := mem_SS.mp hj
    rw [kinv_keys h]
    exact built_mem _ k _ hk
theorem lay_nil {ds : List Int} {t : Nat} : rnd ds t = [] ↔ lay ds (t + 1) = lay ds t := by
  show _ ↔ stepL ds (lay ds t) = lay ds t
  unfold stepL
  rw [List.filter_eq_self, rnd_eq]
  unfold toI
  rw [List.map_eq_nil_iff, List.filter_eq_nil_iff]
  refine forall_congr' fun k => forall_congr' fun _ => ?_
  cases (inn ds (lay ds t) k) <;> simp
theorem kinv_nil {ds : List Int} {t : Nat} {A : AG} {xs : List Int} (h : KInv ds t A xs) : xs = [] ↔ lay ds (t + 1) = lay ds t := by
  rw [← lay_nil]
  constructor
  · intro e; have := kinv_perm h; rw [e] at this; exact List.nil_perm.mp this
  · intro e; have := kinv_perm h; rw [e] at this; exact List.perm_nil.mp this
theorem rnd_sorted (ds : List Int) (t : Nat) : (rnd ds t).Pairwise (· ≤ ·) := by
  unfold rnd toI
  rw [List.pairwise_map]
  refine (List.Pairwise.filter _ (List.Pairwise.sublist (lay_sl ds t) List.pairwise_lt_range)).imp fun h => ?_
  omega
theorem kinv_rnd {ds : List Int} {t : Nat} {A : AG} {xs ys : List Int} (h : KInv ds t A xs) (hp : ys.Perm xs) (hs : ys.Pairwise (· ≤ ·)) : ys = rnd ds t :=
  List.Perm.eq_of_pairwise (le := (· ≤ ·)) (fun _ _ _ _ h1 h2 => Int.le_antisymm h1 h2) hs (rnd_sorted ds t) (hp.trans (kinv_perm h))
theorem lay_less {ds : List Int} {t : Nat} (h : lay ds (t + 1) ≠ lay ds t) : (lay ds (t + 1)).length < (lay ds t).length := by
  have hle : (lay ds (t + 1)).length ≤ (lay ds t).length := List.length_filter_le _ _
  refine Nat.lt_of_le_of_ne hle fun e => h ?_
  exact List.filter_sublist.eq_of_length e
theorem kinv_start (ds : List Int) : KInv ds 0 (built (psOf ds) ds.length) (freeOf (built (psOf ds) ds.length)) := by
  have np : ∀ k : Nat, k < ds.length → npOf (BB ds) (k : Int) = ((inn ds (lay ds 0) k).length : Int) := by
    intro k hk
    rw [built_np, if_pos hk]
    congr 1
    have hn : (toI (inn ds (lay ds 0) k)).Nodup := toI_nodup ((lay_nodup ds 0).filter _)
    have : (psOf ds k).Perm (toI (inn ds (lay ds 0) k)) := (List.perm_ext_iff_of_nodup (psOf_nodup ds k) hn).mpr fun j => by
      rw [mem_ps]
      unfold toI
      rw [List.mem_map]
      constructor
      · rintro ⟨i, rfl, h1, h2, h3⟩
        exact ⟨i, mem_inn.mpr ⟨List.mem_range.mpr h3, h2, h1⟩, rfl⟩
      · rintro ⟨i, hi, rfl⟩
        obtain ⟨h1, h2, h3⟩ := mem_inn.mp hi
        exact ⟨i, rfl, h3, h2, List.mem_range.mp h1⟩
    rw [this.length_eq]
    unfold toI
    rw [List.length_map]
  have hkeys : ∀ j, j ∈ (BB ds).map (·.1) ↔ ∃ k : Nat, k < ds.length ∧ j = (k : Int) := by
    have aux : ∀ n, n ≤ ds.length → ∀ j, j ∈ (built (psOf ds) n).map (·.1) → ∃ k : Nat, k < ds.length ∧ j = (k : Int) := by
      intro n
      induction n with
      | zero => intro _ j hj; cases hj
      | succ n ih =>
        intro hn j hj
        rw [built_succ, addA_mem] at hj
        rcases hj with h | h | h
        · exact ih (by omega) j h
        · exact ⟨n, by omega, h⟩
        · obtain ⟨i, h1, _, _, h2⟩ := mem_ps.mp h
          exact ⟨i, h2, h1⟩
    refine fun j => ⟨aux _ (Nat.le_refl _) j, ?_⟩
    rintro ⟨k, hk, rfl⟩
    exact built_mem _ k _ hk
  have hnd : ((BB ds).map (·.1)).Nodup := built_nodup _ _
  have npx : ∀ x ∈ BB ds, npOf (BB ds) x.1 = x.2.1 := by
    intro x hx
    generalize BB ds = A at hnd hx
    unfold npOf
    have : A.find? (fun y => decide (y.1 = x.1)) = some x := by
      induction A with
      | nil => cases hx
      | cons a A ih =>
        rw [List.map_cons, List.nodup_cons] at hnd
        rw [List.find?_cons]
        by_cases e : a.1 = x.1
        · have : a = x := by
            rcases List.mem_cons.mp hx with h | h
            · exact h.symm
            · exact absurd (List.mem_map.mpr ⟨x, h, e.symm⟩) hnd.1
          subst this
          simp
        · rcases List.mem_cons.mp hx with h | h
          · exact absurd (by rw [h]) e
          · simp only [e, decide_false]
            exact ih hnd.2 h
    rw [this]; rfl
  refine ⟨rfl, ?_, fun k hk => np k (lay_lt hk), ?_, ?_⟩
  · intro k hk hk2
    rw [np k (lay_lt hk)]
    have : inn ds (lay ds 0) k = [] := Decidable.byContradiction fun z => hk2 (mem_lay.mpr ⟨hk, z⟩)
    rw [this]; rfl
  · exact ((List.filter_sublist (l := BB ds)).map _).nodup hnd
  · intro j
    unfold freeOf
    rw [List.mem_map]
    constructor
    · rintro ⟨x, hx, rfl⟩
      obtain ⟨h1, h2⟩ := List.mem_filter.mp hx
      obtain ⟨k, hk, e⟩ := (hkeys x.1).mp (List.mem_map_of_mem h1)
      rw [decide_eq_true_eq, ← npx x h1, e, np k hk] at h2
      refine ⟨k, List.mem_range.mpr hk, fun z => ?_, e⟩
      have := List.length_pos_iff.mpr (mem_lay.mp z).2
      omega
    · rintro ⟨k, hk, hk2, rfl⟩
      obtain ⟨x, hx, e⟩ := List.mem_map.mp ((hkeys (k : Int)).mpr ⟨k, lay_lt hk, rfl⟩)
      refine ⟨x, List.mem_filter.mpr ⟨hx, ?_⟩, e⟩
      rw [decide_eq_true_eq, ← npx x hx, e, np k (lay_lt hk)]
      have : inn ds (lay ds 0) k = [] := Decidable.byContradiction fun z => hk2 (mem_lay.mpr ⟨hk, z⟩)
      rw [this]; rfl
theorem ring_yes {ds : List Int} (h : Cyc (sucOf (built (psOf ds) ds.length)) ((built (psOf ds) ds.length).map (·.1))) (t : Nat) : lay ds t ≠ [] := by
  obtain ⟨C, c1, _, c3⟩ := h
  have key : ∀ t, ∀ y ∈ C, ∃ k : Nat, y = (k : Int) ∧ k ∈ lay ds t := by
    intro t
    induction t with
    | zero =>
      intro y hy
      obtain ⟨x, _, hx⟩ := c3 y hy
      obtain ⟨k, hk, e, _⟩ := mem_SS.mp hx
      exact ⟨k, e, List.mem_range.mpr hk⟩
    | succ t ih =>
      intro y hy
      obtain ⟨x, hxC, hx⟩ := c3 y hy
      obtain ⟨k, hk, e, hp⟩ := mem_SS.mp hx
      obtain ⟨i, e2, h9, hb, _⟩ := mem_ps.mp hp
      obtain ⟨i', e3, hi⟩ := ih x hxC
      obtain rfl : i = i' := by omega
      exact ⟨k, e, stays hk hb h9 t hi⟩
  obtain ⟨y, hy⟩ := List.exists_mem_of_ne_nil C c1
  obtain ⟨k, _, hk⟩ := key t y hy
  exact List.ne_nil_of_mem hk
theorem ring_no {ds : List Int} (h : Top9 (sucOf (built (psOf ds) ds.length)) ((built (psOf ds) ds.length).map (·.1))) {t : Nat} (ht : lay ds (t + 1) = lay ds t) : lay ds t = [] := by
  obtain ⟨fo, f1, _, f3⟩ := h
  have hfo : ∀ k ∈ lay ds t, (k : Int) ∈ fo := fun k hk => f3 _ (built_mem _ k _ (lay_lt hk))
  have key : ∀ n : Nat, ∀ k ∈ lay ds t, fo.length - fo.idxOf (k : Int) ≤ n → False := by
    intro n
    induction n with
    | zero =>
      intro k hk hn
      have := List.idxOf_lt_length_of_mem (hfo k hk)
      omega
    | succ n ih =>
      intro k hk hn
      have h1 := hk
      rw [← ht] at h1
      obtain ⟨i, hi⟩ := List.exists_mem_of_ne_nil _ (mem_lay.mp h1).2
      obtain ⟨hi1, hb, h9⟩ := mem_inn.mp hi
      refine ih i hi1 ?_
      have hs := (mem_SS' (lay_lt hk) (lay_lt hi1)).mpr ⟨hb, h9⟩
      have hil := List.idxOf_lt_length_of_mem (hfo i hi1)
      have hg : fo[fo.idxOf (i : Int)]? = some (i : Int) := by
        rw [List.getElem?_eq_getElem hil, List.getElem_idxOf]
      have hm := f1 _ _ hg _ hs
      have hlt : fo.idxOf (k : Int) < fo.idxOf (i : Int) := by
        have e : fo.idxOf (k : Int) = (fo.take (fo.idxOf (i : Int))).idxOf (k : Int) := by
          conv => lhs; rw [← List.take_append_drop (fo.idxOf (i : Int)) fo]
          rw [List.idxOf_append, if_pos hm]
        have h1 := List.idxOf_lt_length_of_mem hm
        have h2 := List.length_take_le (fo.idxOf (i : Int)) fo
        omega
      have := List.idxOf_lt_length_of_mem (hfo k hk)
      omega
  cases e : lay ds t with
  | nil => rfl
  | cons k l => exact absurd (key _ k (by rw [e]; exact .head _) (Nat.le_refl _)) id
/-- what both halves hand back -/
def Res (ds : List Int) (F₁ : List (Addr × Obj)) (v : Value) : Prop :=
  ∃ t rl v1 v3 ep, lay ds (t + 1) = lay ds t ∧ (∀ t' < t, lay ds (t' + 1) ≠ lay ds t') ∧ v = .ref rl ∧ (rl, listOf [v1, .bool (decide (lay ds t ≠ [])), v3].toArray ep) ∈ F₁ ∧
    DatIn F₁ v1 (.list (ds.map Dat.int)) ∧ DatIn F₁ v3 (.list ((List.range t).map fun t => Dat.list ((rnd ds t).map Dat.int)))
theorem ints_vals (xs : List (Int × Tok)) : IntsAre (vals xs) (xs.map (·.1)) := by
  induction xs with
  | nil => exact .nil
  | cons x xs ih => exact .cons _ _ ih
theorem ints_dat {L : List (Addr × Obj)} {vs : List Value} {ns : List Int} (h : IntsAre vs ns) : DatAll L vs (ns.map Dat.int) := by
  induction h with
  | nil => exact .nil
  | cons n t _ ih => exact .cons (.int n t) ih
theorem told_end {h₀ h : Heap} {L l rl ad : Addr} {C F Ls : List (Addr × Obj)} {dv : List (Int × Tok)} {vs : List Value} {e ep : Nat} {b : Bool} {ds : List Int} {t : Nat}
    (NE : News h₀ L h ((l, PySem.W.listOf [.ref ad, .bool b, .ref rl].toArray 0) :: C)) (hb : b = decide (lay ds t ≠ [])) (hfix : lay ds (t + 1) = lay ds t) (hlt : ∀ t' < t, lay ds (t' + 1) ≠ lay ds t')
    (m1 : (rl, PySem.W.listOf vs.toArray e) ∈ C) (m2 : (ad, PySem.W.listOf (vals dv).toArray ep) ∈ C) (m3 : ∀ q ∈ Ls, q ∈ C) (m4 : ∀ q ∈ F, q ∈ C) (hdv : dv.map (·.1) = ds) (hdat : DatAll Ls vs ((List.range t).map fun t => Dat.list ((rnd ds t).map Dat.int))) :
    ∃ F₁, News h₀ L h (F₁ ++ F) ∧ Res ds F₁ (.ref l) := by
  subst hb
  refine ⟨(l, PySem.W.listOf [.ref ad, .bool (decide (lay ds t ≠ [])), .ref rl].toArray 0) :: (rl, PySem.W.listOf vs.toArray e) :: (ad, PySem.W.listOf (vals dv).toArray ep) :: Ls, fun q hq => NE q ?_, t, l, .ref ad, .ref rl, 0, hfix, hlt, rfl, .head _, ?_, ?_⟩
  · simp only [List.cons_append, List.mem_cons, List.mem_append] at hq
    rcases hq with h | h | h | h | h
    · exact h ▸ .head _
    · exact .tail _ (h ▸ m1)
    · exact .tail _ (h ▸ m2)
    · exact .tail _ (m3 q h)
    · exact .tail _ (m4 q h)
  · exact DatIn.list (.tail _ (.tail _ (.head _))) (hdv ▸ ints_dat (ints_vals dv))
  · exact DatIn.list (.tail _ (.head _)) (hdat.mono fun q hq => .tail _ (.tail _ (.tail _ hq)))

end
theorem reset66eq : True := by
  k_with_none
  w_top off
  try (walk1; fail)
  exact True.intro
section
/-! both halves hand back the same -/
theorem nd_off {l : List (Addr × Obj)} {a : Addr} {o : Obj} (h : (l.map (·.1)).Nodup) (hl : ∀ p ∈ l, p.1 ≠ a) : (((a, o) :: l).map (·.1)).Nodup := by
  rw [List.map_cons, List.nodup_cons]
  refine ⟨fun hm => ?_, h⟩
  obtain ⟨q, hq, e⟩ := List.mem_map.mp hm
  exact hl q hq e
theorem news_nodup {h₀ h : Heap} {L : Addr} : ∀ {l : List (Addr × Obj)}, News h₀ L h l → ∃ l' : List (Addr × Obj), (l'.map (·.1)).Nodup ∧ ∀ q, q ∈ l ↔ q ∈ l'
  | [], _ => ⟨[], List.nodup_nil, fun _ => Iff.rfl⟩
  | p :: l, N => by
    obtain ⟨l', h1, h2⟩ := news_nodup (l := l) fun q hq => N q (.tail _ hq)
    by_cases hm : p.1 ∈ l'.map (·.1)
    · obtain ⟨q, hq, e⟩ := List.mem_map.mp hm
      have hp := (N p (.head _)).1
      have hq' := (N q (.tail _ ((h2 q).mpr hq))).1
      rw [e, hp] at hq'
      have hpq : p = q := Prod.ext e.symm (Option.some.inj hq')
      refine ⟨l', h1, fun x => ?_⟩
      rw [List.mem_cons, h2]
      constructor
      · rintro (h | h)
        · rw [h, hpq]; exact hq
        · exact h
      · exact .inr
    · refine ⟨p :: l', ?_, fun x => by rw [List.mem_cons, List.mem_cons, h2]⟩
      rw [List.map_cons, List.nodup_cons]
      exact ⟨hm, h1⟩
theorem res_mono {ds : List Int} {F F' : List (Addr × Obj)} {v : Value} (h : Res ds F v) (hs : ∀ q ∈ F, q ∈ F') : Res ds F' v := by
  obtain ⟨t, rl, v1, v3, ep, a1, a2, a3, a4, a5, a6⟩ := h
  exact ⟨t, rl, v1, v3, ep, a1, a2, a3, hs _ a4, a5.mono hs, a6.mono hs⟩
theorem ok_ints (n : Nat) (l : List Int) : kqdOk (n + 1) (.list (l.map Dat.int)) = true := by
  simp [kqdOk]
theorem ok_rounds (n : Nat) (ds : List Int) (t : Nat) : kqdOk (n + 2) (.list ((List.range t).map fun t => Dat.list ((rnd ds t).map Dat.int))) = true := by
  simp [kqdOk]
section
variable {prog : Program} {w : World} {A : Around} {E : Value → Shared → Prop} {s : Shared} {h₀ : Heap} {L : Addr} {news : List (Addr × Obj)} {Q : Value → Shared → Prop}
theorem res_eq {ds : List Int} {v v' : Value} (N : News h₀ L s.heap news) (h1 : Res ds news v) (h2 : Res ds news v') (hu : A.units + 64 < cLine) (h : Q (.bool true) s) : wpAny (model prog w) A (compareOp .Eq v v') Q E s := by
  obtain ⟨t, rl, v1, v3, ep, a1, a2, rfl, a4, a5, a6⟩ := h1
  obtain ⟨t', rl', v1', v3', ep', b1, b2, rfl, b4, b5, b6⟩ := h2
  have ht : t = t' := by
    rcases Nat.lt_trichotomy t t' with h | h | h
    · exact absurd a1 (b2 t h)
    · exact h
    · exact absurd b1 (a2 t' h)
  subst ht
  obtain ⟨as1, r1⟩ := kqd_in N 8 a5 (ok_ints 7 ds)
  obtain ⟨as3, r3⟩ := kqd_in N 8 a6 (ok_rounds 6 ds t)
  obtain ⟨bs1, q1⟩ := kqd_in N 8 b5 (ok_ints 7 ds)
  obtain ⟨bs3, q3⟩ := kqd_in N 8 b6 (ok_rounds 6 ds t)
  have l1 := kqd_lay 8 _ (ok_ints 7 ds)
  have l3 := kqd_lay 8 _ (ok_rounds 6 ds t)
  have e1 := (kqd_eqv 8 _ _ 8 (ok_ints 7 ds) (ok_ints 7 ds)).mpr rfl
  have e3 := (kqd_eqv 8 _ _ 8 (ok_rounds 6 ds t) (ok_rounds 6 ds t)).mpr rfl
  generalize kqdP (.list (ds.map Dat.int)) = p1 at *
  generalize kqdP (.list ((List.range t).map fun t => Dat.list ((rnd ds t).map Dat.int))) = p3 at *
  have e : PyData.eqv (.list [p1, .bool (decide (lay ds t ≠ [])), p3]) (.list [p1, .bool (decide (lay ds t ≠ [])), p3]) = true := by
    simp [PyData.eqv, PyData.eqvAll, e1, e3]
  have hl : (PyData.list [p1, .bool (decide (lay ds t ≠ [])), p3]).canLay0 = true ∧ (PyData.list [p1, .bool (decide (lay ds t ≠ [])), p3]).depth ≤ 9 := by
    have x1 := l1.2
    have x3 := l3.2
    constructor
    · simp [PyData.canLay0, PyData.canLayAll0, l1.1, l3.1]
    · simp only [PyData.depth, PyData.depthAll]
      omega
  refine eq_dataH (reads_list_at (N.get a4) rfl rfl (ReadsAll.cons r1 (ReadsAll.cons (Reads.bool _) (ReadsAll.cons r3 ReadsAll.nil)))) (reads_list_at (N.get b4) rfl rfl (ReadsAll.cons q1 (ReadsAll.cons (Reads.bool _) (ReadsAll.cons q3 ReadsAll.nil)))) ?_ ?_ hu (by rw [e]; exact h)
  · unfold SeqAt.shaped; rw [hl.1, Bool.true_and]; exact decide_eq_true (Nat.le_trans hl.2 (by decide))
  · unfold SeqAt.shaped; rw [hl.1, Bool.true_and]; exact decide_eq_true (Nat.le_trans hl.2 (by decide))
end

end
theorem reset58told : True := by
  k_with_none
  w_top off
  try (walk1; fail)
  exact True.intro
section
open PyProof
local macro_rules | `(tactic| walk_at "subscriptTail Name Name str int") => `(tactic| refine halt ?_)
local macro_rules | `(tactic| walk_at "subscriptTail Name Name ref int") => `(tactic| refine halt ?_)
local macro_rules | `(tactic| walk_at "call builtin:len") => `(tactic| refine halt ?_)
local macro_rules | `(tactic| walk_at "callWith ref") => `(tactic| first | k_extra "callWith ref" | (k_here; k_dflt (first
  | (refine' callWith_K ?k1 ?k2 ?_; (case k1 => k_asm); (case k2 => k_is); k_whole)
  | (refine' callWith_K0 ?k1 ?k2 ?_; (case k1 => exact Frag.In.keeps (by k_asm) (Fr.keep (by k_asm))); (case k2 => k_is); k_whole))))
inductive TJ1 (w : World) (c : Addr) (B : List (Addr × Obj)) (sx dx nx : Addr) (t1 t2 t3 t4 : Tok) (tp tf : Tok) (ds : List Int) (i : Nat) (m : Str → Option Value) (news : List (Addr × Obj)) : Prop
  | mk (o1 on : Obj) (G : List NR) (h1 : news = canon w ((c, o1) :: B) ⟨sx, dx, nx, on, t1, t2, t3, t4, none, 0, tp, 0, tf⟩ G) (h2 : Good w ((c, o1) :: B) ⟨sx, dx, nx, on, t1, t2, t3, t4, none, 0, tp, 0, tf⟩ G) (h3 : ∃ x, o1.data = .cell x) (h4 : absG G = built (psOf ds) i) (h5 : m (Str.ofString "sorter") = some (.ref sx)) : TJ1 w c B sx dx nx t1 t2 t3 t4 tp tf ds i m news
inductive TJ2 (w : World) (s : Shared) (A : Around) (base g' : Heap) (L' : Addr) (env : Env) (p : Program) (loose : List Str) (mean : ExcName → Option Value) (mg mb : Str → Option Value) (B : List (Addr × Obj)) (sx dx nx : Addr) (t1 t2 t3 t4 : Tok) (on : Obj) (tp tf : Tok) (G : List NR) (s' : Shared) : Prop
  | mk (g2 h2 : Heap) (tk2 : Tok) (m₂ : Str → Option Value) (ra : Addr) (xs : List (Int × Tok)) (ep2 : Nat) (ring : Bool) (h1 : s' = { s with heap := h2, toks := tk2 }) (h2' : KtsTurn ([env].filterMap (·.frame)) g' g2) (h3 : Fr g2 L' h2 m₂)
      (h4 : News g2 L' h2 (canon w B ⟨sx, dx, nx, on, t1, t2, t3, t4, some (ra, xs, ep2), 0, tp, 0, tf⟩ G)) (h5 : Good w B ⟨sx, dx, nx, on, t1, t2, t3, t4, some (ra, xs, ep2), 0, tp, 0, tf⟩ G)
      (h6 : Below A base [env] g2) (h7 : (Mine.hd.heap_39 w.params).In g2) (h8 : Top p loose mean mg mb g2) (h9 : KtsDicts ([env].filterMap (·.frame)) g2) (h10 : m₂ (Str.ofString "sorter") = some (.ref sx)) (h11 : m₂ (Str.ofString "ring") = some (.bool ring))
      (h12 : xs.map (·.1) = freeOf (absG G)) (h13 : ring = true → Cyc (sucOf (absG G)) (G.map NR.key)) (h14 : ring = false → Top9 (sucOf (absG G)) (G.map NR.key)) : TJ2 w s A base g' L' env p loose mean mg mb B sx dx nx t1 t2 t3 t4 on tp tf G s'
inductive TJ3 (w : World) (s : Shared) (g2 : Heap) (L' rl : Addr) (FB : List (Addr × Obj)) (sx dx nx : Addr) (t1 t2 t3 t4 : Tok) (on : Obj) (ra : Addr) (ds : List Int) (ring : Bool) (n : Nat) (s' : Shared) : Prop
  | mk (t : Nat) (h : Heap) (tk : Tok) (m : Str → Option Value) (G : List NR) (xs : List (Int × Tok)) (ep : Nat) (po : Int) (tp tf : Tok) (vs : List Value) (e : Nat) (Ls : List (Addr × Obj)) (h1 : s' = { s with heap := h, toks := tk }) (h2 : Fr g2 L' h m)
      (h3 : News g2 L' h (canon w ((rl, listOf vs.toArray e) :: (Ls ++ FB)) ⟨sx, dx, nx, on, t1, t2, t3, t4, some (ra, xs, ep), po, tp, po, tf⟩ G)) (h4 : Good w ((rl, listOf vs.toArray e) :: (Ls ++ FB)) ⟨sx, dx, nx, on, t1, t2, t3, t4, some (ra, xs, ep), po, tp, po, tf⟩ G)
      (h5 : KInv ds t (absG G) (xs.map (·.1))) (h6 : DatAll Ls vs ((List.range t).map fun t => Dat.list ((rnd ds t).map Dat.int))) (h7 : ∀ t' < t, lay ds (t' + 1) ≠ lay ds t') (h8 : n = (lay ds t).length) (h9 : t + (lay ds t).length ≤ ds.length)
      (h10 : m (Str.ofString "sorter") = some (.ref sx)) (h11 : m (Str.ofString "ring") = some (.bool ring)) (h12 : m (Str.ofString "rounds") = some (.ref rl)) : TJ3 w s g2 L' rl FB sx dx nx t1 t2 t3 t4 on ra ds ring n s'
theorem told_more {h₀ g' h6 : Heap} {L L' : Nat} {m : Str → Option Value} {ds : List Int} {s : Shared} {R : Result → Shared → Prop} {a b c : Addr × Obj} {ps : Array Value} {F : List (Addr × Obj)}
    (N : News g' L' h6 (c :: (23, tabObj ps) :: a :: b :: F)) (ult : ∀ q ∈ F, @LT.lt Nat _ q.1 L') (h23 : @LT.lt Nat _ 23 L') (hFn : (F.map (·.1)).Nodup) (hF : ∀ q ∈ F, q.1 ≠ 23)
    (hR : ∀ h' tk' F₁ v ps, Fr h₀ L h' m → News h₀ L h' (F₁ ++ F) → Res ds F₁ v → (23, tabObj ps) ∈ F₁ → R (.ok (.ret v)) { s with heap := h', toks := tk' }) :
    ∃ F2, News g' L' h6 (c :: a :: b :: F2) ∧ (∀ q ∈ F2, @LT.lt Nat _ q.1 L') ∧ (F2.map (·.1)).Nodup ∧ (∀ h' tk' F₁ v, Fr h₀ L h' m → News h₀ L h' (F₁ ++ F2) → Res ds F₁ v → R (.ok (.ret v)) { s with heap := h', toks := tk' }) := by
  refine ⟨(23, tabObj ps) :: F, fun q hq => N q ?_, fun q hq => ?_, nd_off hFn hF, fun h' tk' F₁ v FE NE RE => hR h' tk' (F₁ ++ [(23, tabObj ps)]) v ps FE (fun q hq => NE q ?_) (res_mono RE fun q hq => List.mem_append_left _ hq) (List.mem_append_right _ (.head _))⟩
  · simp only [List.mem_cons] at hq ⊢
    rcases hq with h | h | h | h | h
    · exact .inl h
    · exact .inr (.inr (.inl h))
    · exact .inr (.inr (.inr (.inl h)))
    · exact .inr (.inl h)
    · exact .inr (.inr (.inr (.inr h)))
  · rcases List.mem_cons.mp hq with rfl | hq
    · exact h23
    · exact ult q hq
  · simp only [List.mem_append, List.mem_cons, List.not_mem_nil, or_false] at hq ⊢
    rcases hq with (h | h) | h
    · exact .inl h
    · exact .inr (.inl h)
    · exact .inr (.inr h)
section
variable {w : World} {A₀ : Around} {base h₀ : Heap} {env : Env} {L : Addr} {m mg mb : Str → Option Value} {p : Program} {loose : List Str} {mean : ExcName → Option Value} {s : Shared} {R : Result → Shared → Prop} {F : List (Addr × Obj)}
set_option maxHeartbeats 4000000 in
/-- THE CONTRACT of _law_told -/
theorem told_ok {A : Around} (B : Below A₀ base [] h₀) (F₀ : Fr h₀ L s.heap m) (X₀ : (Mine.hd.heap_39 w.params).In h₀) (N : News h₀ L s.heap ((23, tabObj #[]) :: F)) (codeHd : CodeHd h₀ 27 23) (T : Top p loose mean mg mb h₀) (XB : (Mine.hd.heap_39 w.params).In base) (TB : Top p loose mean mg mb base) (hA : A.frames = some [env]) (hh : A.handled = none) (hf : env.frame = some L) (hke : env.scope.kind = .function) (hroom : A.depth < 500)
    {ds : List Int} (hne : ds ≠ []) (hlast : ds.getLast hne ≠ 0) (hF : ∀ q ∈ F, q.1 ≠ 23) (hFn : (F.map (·.1)).Nodup) (hlen : ds.length ≤ 9) (hds : ∀ x ∈ ds, 0 ≤ x ∧ x < 65536) {nt : Tok}
    (hR : ∀ h' tk' F₁ v ps, Fr h₀ L h' m → News h₀ L h' (F₁ ++ F) → Res ds F₁ v → (23, tabObj ps) ∈ F₁ → R (.ok (.ret v)) { s with heap := h', toks := tk' }) :
    codeAny (model PR w) A (.call (.ref 207) ⟨[.int (segval ds 0 ds.length) nt], []⟩) R s := by
  obtain ⟨hd, d, fr, gs, u⟩ := A
  dsimp only at hA hh hroom
  subst hA hh
  refine' code_defEC B F₀ X₀ N T rfl hf hke ?k6 ?k7 ?k8 ?k9 ?kB ?kD ?_ ?c2 ?c3 ?c4
  case k6 => k_is
  case k7 => k_is
  case k8 => k_room
  case k9 => exact BindsTo.of_eq rfl
  case kB => exact rfl
  case kD => decide +kernel
  case c2 => exact rfl
  case c3 => exact rfl
  case c4 => exact rfl
  intro g' L' h' tk' cells' FG' F' N' Y' B' X' T' D' l1
  have hY := CellsAre.two Y'
  obtain ⟨o1, o2, hE', d1, d2⟩ := hY
  subst hE'
  clear Y'
  simp only [List.cons_append, List.nil_append] at N'
  (try k_fold)
  clear F₀ N
  replace codeHd := codeHd.keeps FG'.keep
  have hL23 : (23 : Nat) < L' := l1 (23, _) (.head _)
  generalize hav : segval ds 0 ds.length = av at *
  replace d1 : o1.data = .cell none := d1
  replace d2 : o2.data = .cell none := d2
  replace F' : Fr g' L' h' (fun y => if y = Str.ofString "number" then some (.int av nt) else none) := F'
  k_with_none
  k_with "call ref" => refine halt ?_
  w_strict k_steps
  rename News g' L' _ _ => N7
  rename Fr g' L' _ _ => F7
  refine unhalt ?_
  have ult : ∀ q ∈ F, @LT.lt Nat _ q.1 L' := fun q hq => l1 q (.tail _ hq)
  have n1 : ∀ k : Nat, @Ne Nat (L' + k) 23 := fun k => Nat.ne_of_gt (Nat.lt_of_lt_of_le hL23 (Nat.le_add_right _ _))
  refine wpAny_call ?_
  subst hav
  refine i2d_ok B' F7 X' (news_third N7) codeHd T' rfl rfl rfl rfl (by dsimp only [Around.deeper]; omega) hne hlast ?fne hlen hds ?_
  case fne =>
    intro q hq
    rcases List.mem_cons.mp hq with rfl | hq
    · exact n1 2
    rcases List.mem_cons.mp hq with rfl | hq
    · exact n1 1
    · exact hF q hq
  intro h6 tk6 ad dv ep ps6 hdv F6 N6 l6
  obtain ⟨F, N6, ult, hFn, hR⟩ := told_more N6 ult hL23 hFn hF hR
  clear F7 N7 codeHd
  have u2 : @LT.lt Nat _ (L' + 1 + 1) ad := l6 _ (.head _)
  have u1 : @LT.lt Nat _ (L' + 1) ad := l6 _ (.tail _ (.head _))
  generalize hav : segval ds 0 ds.length = av at *
  k_with_none
  k_with "storeName" => refine halt ?_
  dsimp only
  w_strict k_steps
  refine unhalt ?_
  refine storeX_C F6 N6 rfl (UpdF.tail (Nat.ne_of_gt u1) (UpdF.tail (Nat.succ_ne_self _) (UpdF.head (fun q hq => Nat.ne_of_lt (Nat.lt_of_lt_of_le (ult q hq) (Nat.le_add_right L' 1)))))) d2 ?_
  intro h5 o2' F5 N5 d2'
  clear F6 N6
  k_with_none
  k_with "exec For" => refine halt ?_
  dsimp only
  w_strict k_steps
  rename News g' L' _ _ => N7
  rename Fr g' L' _ _ => F7
  rename Obj.IsDictOf (PySem.intKind PR w) _ _ => hi7
  rename (_ == sysModules) = false => lo7
  rename _ ∧ _ ∧ _ ∧ _ ∧ _ ∧ AllLt _ F => la7
  rename _ ∧ _ ∧ _ ∧ AllLt _ F => lb7
  rename @LT.lt Nat _ _ _ => lc7
  refine unhalt ?_
  obtain ⟨⟨sx, dx, nx, on, t1, t2, t3, t4, rd, po, tp, fi, tf⟩, e1, e2, e3, e4, N8, g8⟩ := start_ok N7 hFn (fun q hq => Nat.lt_of_lt_of_le (ult q hq) (Nat.le_add_right L' 1)) (Nat.lt_succ_self _) u2 lb7.1 lc7 la7.1 hi7 lo7
  dsimp only at e1 e2 e3 e4
  subst e1 e2 e3 e4
  clear N7 la7 lb7 lc7 hi7 lo7 l6 hav
  have F8 := F7
  clear F7
  have hdl : dv.length = ds.length := by rw [← hdv, List.length_map]
  refine kun_lenL (News.isList (items := (vals dv).toArray) N8 (mem_fr (.tail _ (.head _)))) (k := (dv.length : Int)) (vals_size _) (by omega) ?_
  rw [hdl]
  k_with_none
  k_with "pyIter ref" => refine halt ?_
  k_with "last pyIter ref" => refine halt ?_
  w_strict k_steps
  rename News g' L' _ _ => N9
  rename Fr g' L' _ _ => F9
  rename IsRange _ _ _ _ _ _ _ _ => hr9
  refine unhalt ?_
  refine iter_rng (n := ds.length) (TJ1 w (L' + 1 + 1) ((ad, listOf (vals dv).toArray ep) :: (L' + 1, o2') :: F) sx dx nx t1 t2 t3 t4 tp tf ds) rfl hr9 (small_one (by decide) (by decide) (by omega) (by omega)) (rangeSize_nat _ _) F9 N9 ⟨o1, on, [], rfl, g8, ⟨_, d1⟩, rfl, rfl⟩ ?turn ?done
  case done =>
    rintro m₁ news₁ h1 tk1 ⟨o1, on, G, rfl, g1, _, hb, hs⟩ F1 N1
    clear F9 N9 hr9 g8
    change Fr g' L' h1 _ at F1
    change News g' L' h1 _ at N1
    replace F1 := frm1 (a := Str.ofString "sorter") (va := .ref sx) F1 hs
    k_with_none
    w_strict k_steps
    refine cut_next (TJ2 w s ⟨none, d, some [env], gs, u⟩ base g' L' env p loose mean mg mb ((L' + 1 + 1, o1) :: (ad, listOf (vals dv).toArray ep) :: (L' + 1, o2') :: F) sx dx nx t1 t2 t3 t4 on tp tf G) ?tail ?trying
    case tail =>
      rintro s' ⟨g2, h2, tk2, m₂, ra, xs, ep2, ring, rfl, K2, F2, N2, g3, B2, X2, T2, D2, hs2, hr2, hfx, hc, ht⟩
      replace F2 := frm2b F2 hs2 hr2
      k_with_none
      k_with "exec While" => refine halt ?_
      dsimp only
      w_strict k_steps
      rename News g2 L' _ _ => N4
      rename Fr g2 L' _ _ => F4
      rename ∀ p ∈ canon _ _ _ _, p.1 < _ => l4
      obtain ⟨rl, hrl⟩ := addr_of N4
      subst hrl
      replace N4 := news_in N4
      have g4 := good_in (o := listOf #[] 0) g3 l4
      clear g3 l4 g1 B' X' T' D'
      rw [hb] at hfx hc ht
      rw [← keys_abs, hb] at hc ht
      have hkv := kinv_start ds
      rw [← hfx, ← hb] at hkv
      generalize hFB : ((L' + 1 + 1, o1) :: (ad, listOf (vals dv).toArray ep) :: (L' + 1, o2') :: F : List (Addr × Obj)) = FB at N4 g4
      have hmA : (ad, listOf (vals dv).toArray ep) ∈ FB := hFB ▸ .tail _ (.head _)
      have hmM : (L' + 1, o2') ∈ FB := hFB ▸ .tail _ (.tail _ (.head _))
      have hmF : ∀ q ∈ F, q ∈ FB := fun q hq => hFB ▸ .tail _ (.tail _ (.tail _ hq))
      refine unhalt ?_
      refine while_ind (n := (lay ds 0).length) (TJ3 w s g2 L' rl FB sx dx nx t1 t2 t3 t4 on ra ds ring) ?wstart ?wturn ?wpass
      case wpass => passes_own
      case wstart =>
        exact ⟨0, _, _, _, G, xs, ep2, 0, tp, tf, [], _, [], rfl, F4, N4, g4, hkv, .nil, fun t' q => absurd q (Nat.not_lt_zero _), rfl, by simp [lay], rfl, rfl, rfl⟩
      case wturn =>
        clear F4 N4 g4 hkv hfx hb
        rintro n s' ⟨t, h5, tk5, m5, G, xs, ep5, po, tp, tf, vs, e5, Ls, rfl, F5, N5, g5, hk, hdat, hlt, rfl, htn, hs5, hr5, ho5⟩
        replace F5 := frm3b F5 hs5 hr5 ho5
        have hxl := kinv_len hlen hk
        rw [List.length_map] at hxl
        k_with_none
        k_with "call ref" => refine halt ?_
        w_strict k_steps
        rename News g2 L' _ _ => N6
        rename Fr g2 L' _ _ => F6
        refine unhalt ?_
        refine wpAny_call ?_
        refine active_ok (S := ⟨sx, dx, nx, on, t1, t2, t3, t4, some (ra, xs, ep5), po, tp, po, tf⟩) B2 F6 X2 N6 T2 rfl rfl rfl rfl (by dsimp only [Around.deeper]; omega) rfl (by omega) ?_
        intro h7 tk7 F7 N7
        clear F6 N6
        dsimp only at N7 ⊢
        by_cases hx : xs = []
        · have hbe : (decide (po < po) || !xs.isEmpty) = false := by simp [hx]
          rw [hbe]
          have hmm : (L' + 1, o2') ∈ canon w ((rl, PySem.W.listOf vs.toArray e5) :: (Ls ++ FB)) ⟨sx, dx, nx, on, t1, t2, t3, t4, some (ra, xs, ep5), po, tp, po, tf⟩ G := mem_fr (.tail _ (List.mem_append_right _ hmM))
          k_with_none
          k_with "eval Name" => refine halt ?_
          w_strict k_steps
          refine unhalt ?_
          rename News g2 L' _ _ => N8
          refine nameX_C N8 (by exact rfl) hmm d2' ?_
          k_with_none
          w_strict k_steps
          rename News h₀ L _ _ => NE
          rename Fr h₀ L _ _ => FE
          have hfix : lay ds (t + 1) = lay ds t := (kinv_nil hk).mp (by rw [hx]; rfl)
          have hring : ring = decide (lay ds t ≠ []) := by
            cases hrg : ring with
            | true => exact (decide_eq_true (ring_yes (hc hrg) t)).symm
            | false => exact (decide_eq_false (fun q => q (ring_no (ht hrg) hfix))).symm
          obtain ⟨F₁, n1, n2⟩ := told_end NE hring hfix hlt (mem_fr (.head _)) (mem_fr (.tail _ (List.mem_append_right _ hmA))) (fun q h => mem_fr (.tail _ (List.mem_append_left _ h))) (fun q h => mem_fr (.tail _ (List.mem_append_right _ (hmF q h)))) hdv hdat
          exact hR _ _ F₁ _ FE n1 n2
        · have hbe : (decide (po < po) || !xs.isEmpty) = true := by simp [hx]
          rw [hbe]
          k_with_none
          k_with "call ref" => refine halt ?_
          w_strict k_steps
          refine unhalt ?_
          refine wpAny_call ?_
          have hkin : ∀ q ∈ xs, q.1 ∈ G.map NR.key := fun q hq => by
            have := kinv_key hk q.1 (List.mem_map_of_mem hq)
            rwa [keys_abs] at this
          rename News g2 L' _ _ => N6
          rename Fr g2 L' _ _ => F6
          refine ready_ok (S := ⟨sx, dx, nx, on, t1, t2, t3, t4, some (ra, xs, ep5), po, tp, po, tf⟩) B2 F6 X2 N6 T2 rfl rfl rfl rfl (by dsimp only [Around.deeper]; omega) g5 rfl (by omega) hkin hx ?_
          intro h8 tk8 G8 td ep8 tp8 F8 N8 g8 ha8
          clear F6 N6
          dsimp only at N8 g8 ⊢
          k_with_none
          k_with "call builtin:sorted" => refine halt ?_
          w_strict k_steps
          rename News g2 L' _ _ => N9
          rename Fr g2 L' _ _ => F9
          refine unhalt ?_

          refine sorted_tupN (vs := vals xs) (ns := xs.map (·.1)) F9 N9 (mem_fr (.head _)) rfl rfl ?iv (by simp [vals]; omega) ?_
          case iv => exact ints_vals xs
          intro D9 h9 vs9 ns9 e9 F10 N10 l10 i10 p10 s10
          clear F9 N9
          replace N10 := news_in N10
          have g10 := good_in (o := PySem.W.listOf vs9.toArray e9) g8 l10
          have hns := kinv_rnd hk p10 s10
          k_with_none
          k_with "call builtin:list.append" => refine halt ?_
          w_strict k_steps
          rename News g2 L' _ _ => N11
          rename Fr g2 L' _ _ => F11
          refine unhalt ?_
          have hvl : vs.length = t := by rw [hdat.length, List.length_map, List.length_range]
          refine append_K F11 N11 (updFr (pre := [(D9, PySem.W.listOf vs9.toArray e9), (td, { cls := .type "tuple", data := .seq (vals xs).toArray })]) g10) ?_ (by rw [sizeLine_eq, List.size_toArray, hvl]; omega)
          intro h12 F12 N12
          clear F11 N11
          (try clear F10); (try clear N10); (try clear F8); (try clear N8)
          have hpu : vs.toArray.push (.ref D9) = (vs ++ [Value.ref D9]).toArray := by simp
          rw [hpu] at N12
          have g12 : Good w ((rl, PySem.W.listOf (vs ++ [Value.ref D9]).toArray (e5 + 1)) :: (D9, PySem.W.listOf vs9.toArray e9) :: (td, { cls := .type "tuple", data := .seq (vals xs).toArray }) :: (Ls ++ FB)) ⟨sx, dx, nx, on, t1, t2, t3, t4, some (ra, [], ep8), po + xs.length, tp8, po, tf⟩ G8 :=
            good_perm (good_fr (F' := (D9, PySem.W.listOf vs9.toArray e9) :: (td, { cls := .type "tuple", data := .seq (vals xs).toArray }) :: (rl, PySem.W.listOf (vs ++ [Value.ref D9]).toArray (e5 + 1)) :: (Ls ++ FB)) g10 rfl) ((List.Perm.cons _ (List.Perm.swap _ _ _)).trans (List.Perm.swap _ _ _))
          have N13 : News g2 L' h12 (canon w ((rl, PySem.W.listOf (vs ++ [Value.ref D9]).toArray (e5 + 1)) :: (D9, PySem.W.listOf vs9.toArray e9) :: (td, { cls := .type "tuple", data := .seq (vals xs).toArray }) :: (Ls ++ FB)) ⟨sx, dx, nx, on, t1, t2, t3, t4, some (ra, [], ep8), po + xs.length, tp8, po, tf⟩ G8) :=
            news_perm N12 (fun q hq => by
              simp only [List.cons_append, List.nil_append, List.mem_cons] at hq ⊢
              rcases hq with h | h | h | h
              · exact .inr (.inr (.inl h))
              · exact .inl h
              · exact .inr (.inl h)
              · exact .inr (.inr (.inr h)))
          clear N12 g10 g8
          k_with_none
          k_with "callWith ref" => refine halt ?_
          k_with "eval Call Attribute" => (k_dflt (refine methodCall_star ?_))
          w_strict k_steps
          rename News g2 L' _ _ => N14
          rename Fr g2 L' _ _ => F14
          rename ∀ p ∈ canon _ _ _ _, p.1 < _ => l14
          replace N14 := news_in N14
          have g14 := good_in (o := methodObj (.ref 134) (.ref sx)) g12 l14
          refine unhalt ?_
          refine callWith_MS (K := Mine.hd.heap_39 w.params) (g := 134) (self := .ref sx) (by k_is) ?_
          k_with_none
          k_with "StarOf ref" => refine halt ?_
          w_strict k_steps
          refine unhalt ?_
          refine star_seq F14 N14 (mem_fr (.tail _ (.tail _ (.tail _ (.head _))))) rfl rfl (.inr rfl) (ws := vals xs) rfl (by rw [sizeLine_eq]; simp [vals]; omega) ?_
          intro h15 F15 N15
          clear F14 N14 g12 l14
          k_with_none
          k_with "call ref" => refine halt ?_
          k_with "And" => refine halt ?_
          w_strict k_steps
          refine unhalt ?_
          refine ⟨methP N15 (mem_fr (.head _)) (X2.keeps F15.keep), ?_⟩
          refine call_meth N15 (mem_fr (.head _)) ?_
          simp only [List.nil_append, List.append_nil, List.cons_append]
          have hk8 : G8.map NR.key = G.map NR.key := by
            have := keys_shape (outA_shape (xs.map (·.1)) (absG G))
            rw [← ha8, keys_abs, keys_abs] at this
            exact this
          refine done_ok (S := ⟨sx, dx, nx, on, t1, t2, t3, t4, some (ra, [], ep8), po + xs.length, tp8, po, tf⟩) (ks := xs) (xs := []) B2 F15 X2 N15 T2 rfl rfl rfl rfl (by dsimp only [Around.deeper]; omega) g14 rfl hxl (by simp) ?dsv ?din ?dnp ?_
          case dsv =>
            intro x hx'
            rw [ha8] at hx'
            have := kinv_sv hlen hk x hx'
            rw [keys_abs] at this
            rw [hk8]
            exact this
          case din => rw [hk8]; exact hkin
          case dnp =>
            intro i q hq
            rw [ha8, List.map_take]
            exact kinv_np hk (by rw [List.getElem?_map, hq]; rfl)
          intro h16 tk16 G16 xs16 ep16 tf16 F16 N16 g16 he16
          clear F15 N15 g14
          dsimp only at N16 g16 ⊢
          rw [ha8] at he16
          have hk16 := kinv_step hk
          have e1 := congrArg Prod.fst he16
          have e2 := congrArg Prod.snd he16
          dsimp only at e1 e2
          rw [List.map_nil] at e1 e2
          rw [← e1, ← e2] at hk16
          k_with_none
          w_strict k_steps
          rename News g2 L' _ _ => N17
          rename Fr g2 L' _ _ => F17
          have hne16 : lay ds (t + 1) ≠ lay ds t := fun q => hx (List.map_eq_nil_iff.mp ((kinv_nil hk).mpr q))
          have hless := lay_less hne16
          have g17 := good_out (good_perm (good_out g16) ((List.Perm.cons _ (List.Perm.swap _ _ _)).trans (List.Perm.swap _ _ _)))
          refine ⟨(lay ds (t + 1)).length, hless, t + 1, _, _, _, G16, xs16, ep16, _, _, _, vs ++ [Value.ref D9], e5 + 1, (D9, PySem.W.listOf vs9.toArray e9) :: Ls, rfl, F17, ?n17, g17, hk16, ?d17, ?l17, rfl, by omega, by exact rfl, by exact rfl, by exact rfl⟩
          case n17 =>
            refine news_perm N17 (fun q hq => ?_)
            simp only [List.cons_append, List.mem_cons] at hq ⊢
            rcases hq with h | h | h
            · exact .inr (.inl h)
            · exact .inr (.inr (.inl h))
            · exact .inr (.inr (.inr (.inr h)))
          case d17 =>
            rw [List.range_succ, List.map_append]
            refine DatAll.append (hdat.mono fun q hq => .tail _ hq) (DatAll.one (DatIn.list (.head _) ?_))
            rw [← hns]
            exact ints_dat i10
          case l17 =>
            intro t' ht'
            by_cases q : t' = t
            · subst q; exact hne16
            · exact hlt t' (by omega)
    case trying =>
      refine wpAny_Try_except ?_
      k_with_none
      k_with "call ref" => refine halt ?_
      w_strict k_steps
      rename News g' L' _ _ => N2
      rename Fr g' L' _ _ => F2
      refine unhalt ?_
      refine wpAny_call ?_
      have hbl := built_len (psOf ds) (psOf_len ds) ds.length
      rw [← hb, abs_len] at hbl
      have hbk := built_sk ds ds.length
      rw [← hb, keys_abs] at hbk
      refine prepare_ok (S := ⟨sx, dx, nx, on, t1, t2, t3, t4, none, 0, tp, 0, tf⟩) B' F2 X' N2 T' XB TB D' rfl rfl rfl rfl (by dsimp only [Around.deeper]; omega) g1 rfl (by omega) hbk ?pok ?pring
      case pok =>
        intro h3 tk3 g2 ra xs ep2 K3 F3 N3 g3 hfx B3 X3 P3 D3 ht9
        clear F2 N2
        dsimp only at N3 g3 ⊢
        k_with_none
        w_strict k_steps
        refine ⟨rfl, g2, _, _, _, ra, xs, ep2, false, rfl, K3, by assumption, by assumption, g3, B3, X3, P3, D3, rfl, rfl, hfx, fun q => (nomatch q), fun _ => ht9⟩
      case pring =>
        intro h3 tk3 g2 H3 e3 tt3 vs3 ra xs ep2 K3 F3 B3 X3 P3 D3 R3 hu3 g3 hfx hcyc
        clear F2 N2
        dsimp only at R3 g3 ⊢
        refine caught_SOX R3 F3 B3 hu3 XB TB D3 K3 (by k_is) (by kts_isx) ?_ rfl rfl rfl (by passes_own)
        intro h4 g4 K4 F4 N4 B4 X4 P4 D4
        clear F3
        k_with_none
        dsimp only
        w_strict k_steps
        refine ⟨rfl, g4, _, _, _, ra, xs, ep2, true, rfl, K4, by assumption, by assumption, g3, B4, X4, P4, D4, rfl, rfl, hfx, fun _ => hcyc, fun q => (nomatch q)⟩
  case turn =>
    rintro i t m₁ news₁ I oI h1 tk1 hi ⟨o1, on, G, rfl, g1, ⟨cx, d1⟩, hb, hs⟩ hI F1 N1
    clear F9 N9 hr9 g8
    rw [Int.zero_add] at F1
    replace F1 := frm1 (a := Str.ofString "sorter") (va := .ref sx) F1 (by rw [if_neg (by decide)]; exact hs)
    replace N1 := news_in N1
    replace g1 := good_in2 (o := oI) g1 hI
    change Fr g' L' h1 _ at F1
    change News g' L' h1 _ at N1
    k_with_none
    k_with "call ref" => refine halt ?_
    w_strict k_steps
    refine unhalt ?_
    have hi' : i < dv.length := by omega
    refine kim_list N1 (mem_fr (.tail _ (.tail _ (.head _)))) rfl (l := vals dv) rfl (x := .int dv[i].1 dv[i].2) (by omega) (by omega) ?gi ?_
    case gi => simp only [vals, Int.toNat_natCast, List.getElem?_map, List.getElem?_eq_getElem hi', Option.map_some]
    have hmd : dv[i].1 = ds[i] := by
      have : (dv.map (·.1))[i]? = ds[i]? := by rw [hdv]
      rw [List.getElem?_map, List.getElem?_eq_getElem hi', List.getElem?_eq_getElem hi] at this
      exact Option.some.inj this
    generalize dv[i].2 = tmd
    rw [hmd]
    have hmr := hds ds[i] (List.getElem_mem hi)
    have hgd : ds[i]?.getD 0 = ds[i] := by rw [List.getElem?_eq_getElem hi]; rfl
    generalize hmv : ds[i] = md at hmr hgd ⊢
    k_with_none
    k_with "call ref" => refine halt ?_
    w_strict k_steps
    refine unhalt ?_
    refine wpAny_call ?_
    refine fm_ok B' F1 X' N1 T' rfl rfl rfl rfl (by dsimp only [Around.deeper]; omega) hmr.1 hmr.2 ?_
    intro h2 tk2 cs tt hcs hsg F2 N2
    clear F1 N1
    dsimp only
    k_with_none
    k_with "storeName" => refine halt ?_
    w_strict k_steps
    rename News g' L' _ _ => N3
    rename Fr g' L' _ _ => F3
    refine unhalt ?_
    obtain ⟨hsl, hsn⟩ := sign_tell hcs hsg
    clear hsg hcs
    generalize Txt.slice ⟨cs.toArray⟩ (some 1) none = sg at hsl hsn ⊢
    refine storeX_C F3 N3 rfl (updFF (pre := [(I, oI)]) g1) d1 ?_
    intro h4 o1' F4 N4 d1'
    replace g1 : Good w ((I, oI) :: (L' + 1 + 1, o1') :: (ad, listOf (vals dv).toArray ep) :: (L' + 1, o2') :: F) ⟨sx, dx, nx, on, t1, t2, t3, t4, none, 0, tp, 0, tf⟩ G := good_fr g1 rfl
    simp only [List.singleton_append] at N4
    clear F2 N2 F3 N3 d1
    k_with_none
    k_with "callWith ref" => refine halt ?_
    k_with "eval Call Attribute" => (k_dflt (refine methodCall_star ?_))
    w_strict k_steps
    rename News g' L' _ _ => N5
    rename Fr g' L' _ _ => F5
    rename ∀ p ∈ canon _ _ _ _, p.1 < _ => l5
    replace N5 := news_in N5
    have g5 := good_in (o := methodObj (.ref 101) (.ref sx)) g1 l5
    refine unhalt ?_
    refine callWith_MS2 (K := Mine.hd.heap_39 w.params) (g := 101) (self := .ref sx) (by k_is) ?_
    k_with_none
    k_with "eval ListComp" => refine halt ?_
    w_strict k_steps
    refine unhalt ?_
    refine PyProof.Rows.LCt.ListComp_T F5 (by with_unfolding_all rfl) (by decide) rfl (by decide) rfl ?_ (fun _ => rfl)
    k_with_none
    k_with "CompSrcT" => refine halt ?_
    w_strict k_steps
    rename News g' L' _ _ => N6
    rename Fr g' L' _ _ => F6
    rename IsRange _ _ _ _ _ _ _ _ => hr6
    refine unhalt ?_
    refine PyProof.Rows.LCt.CompSrcT.range (n := 9) rfl F6 N6 hr6 (by decide) (by decide) (by rw [sizeLine_eq]; decide) ?_
    intro g6
    refine compT_ind (n := 9) (fun j ys nw => nw = canon w ((_, methodObj (.ref 101) (.ref sx)) :: (I, oI) :: (L' + 1 + 1, o1') :: (ad, listOf (vals dv).toArray ep) :: (L' + 1, o2') :: F) ⟨sx, dx, nx, on, t1, t2, t3, t4, none, 0, tp, 0, tf⟩ G ∧
      ∃ xs, ys = vals xs ∧ xs.map (·.1) = ((List.range j).filter fun i => decide (md * 2 ^ i / 256 % 2 = 1) && decide (i < ds.length)).map fun i : Nat => (i : Int)) ?step ?fin _ 0 [] _ rfl ⟨rfl, [], rfl, rfl⟩
    case fin =>
      rintro ys nw ⟨rfl, xs, rfl, hxs⟩
      intro ra h9 tk9 F9 N9 off
      clear F6 N6 hr6
      have hne9 := off1_mem off
      k_with_none
      k_with "StarOf ref" => refine halt ?_
      w_strict k_steps
      refine unhalt ?_
      have hxl : xs.length ≤ 9 := by
        have := congrArg List.length hxs
        rw [List.length_map, List.length_map] at this
        rw [this]
        exact Nat.le_trans (List.length_filter_le _ _) (by simp)
      refine star_seq F9 N9 (.head _) rfl rfl (.inl rfl) (ws := vals xs) rfl (by rw [sizeLine_eq]; simp [vals]; omega) ?_
      intro h10 F10 N10
      clear F9 N9
      have N11 : News g' L' h10 (canon w ((_, methodObj (.ref 101) (.ref sx)) :: (I, oI) :: (L' + 1 + 1, o1') :: (ad, listOf (vals dv).toArray ep) :: (L' + 1, o2') :: F) ⟨sx, dx, nx, on, t1, t2, t3, t4, none, 0, tp, 0, tf⟩ G) := fun q hq => N10 q (.tail _ hq)
      clear N10
      k_with_none
      k_with "call ref" => refine halt ?_
      k_with "And" => refine halt ?_
      w_strict k_steps
      refine unhalt ?_
      refine ⟨methP N11 (mem_fr (.head _)) (X'.keeps F10.keep), ?_⟩
      refine call_meth N11 (mem_fr (.head _)) ?_
      simp only [List.nil_append, List.append_nil, List.cons_append]
      have hbl := built_len (psOf ds) (psOf_len ds) i
      rw [← hb, abs_len] at hbl
      have hbs := built_sv (psOf ds) (psOf_len ds) i
      rw [← hb] at hbs
      refine add_ok (S := ⟨sx, dx, nx, on, t1, t2, t3, t4, none, 0, tp, 0, tf⟩) B' F10 X' N11 T' rfl rfl rfl rfl (by dsimp only [Around.deeper]; omega) g5 rfl (by omega) hxl (fun x hx => Nat.le_trans (hbs x hx) (by omega)) ?_
      intro h12 tk12 G' on' F12 N12 g12 ha12
      clear F10 N11
      dsimp only at N12 g12 ⊢
      k_with_none
      w_strict k_steps
      refine TurnEnd.next (by assumption) (news_out2 (news_out (by assumption))) (good_ne (good_out g12)) ⟨o1', on', G', rfl, good_out (good_out g12), ⟨_, d1'⟩, ?_, ?_⟩
      · rw [ha12, hb, built_succ, hxs]
        congr 1
        unfold psOf
        rw [hgd]
      · rw [if_pos rfl]
    case step =>
      rintro j ys nw hj ⟨rfl, xs, rfl, hxs⟩ v Ic oIc C oC D9 m₂ h9 tk9 E' ⟨tj, rfl⟩ hNs hx F9 N9 off ne
      clear F6 N6 hr6
      rw [Int.zero_add] at hx
      have hsj := hsn j hj
      k_with_none
      w_strict k_steps
      refine unhalt ?_
      refine item_str (fitsSsize_of (N := 9223372036854775808) (by omega) (by omega) (Int.le_refl _)) (by omega) (by omega) ?_
      intro _
      generalize Txt.item sg (j : Int) = yy at hsj ⊢
      have hfr : ∀ b : Bool, ((List.range (j + 1)).filter fun i => decide (md * 2 ^ i / 256 % 2 = 1) && decide (i < ds.length)).map (fun i : Nat => (i : Int)) = ((List.range j).filter fun i => decide (md * 2 ^ i / 256 % 2 = 1) && decide (i < ds.length)).map (fun i : Nat => (i : Int)) ++ (if (decide (md * 2 ^ j / 256 % 2 = 1) && decide (j < ds.length)) = true then [(j : Int)] else []) := by
        intro _
        rw [List.range_succ, List.filter_append, List.map_append]
        congr 1
        by_cases q : (decide (md * 2 ^ j / 256 % 2 = 1) && decide (j < ds.length)) = true
        · simp [q]
        · simp [q]
      by_cases hn : md * 2 ^ j / 256 % 2 = 1
      · have hb1 := hsj.mpr hn
        k_with_none
        k_with "compareOp In str str" => (refine PyProof.Rows.in_str ?_; rw [hb1])
        w_strict k_steps
        refine unhalt ?_
        refine kun_lenL (News.isList (items := (vals dv).toArray) N9 (.tail _ (.tail _ (.tail _ (mem_fr (.tail _ (.tail _ (.tail _ (.head _))))))))) (k := (dv.length : Int)) (vals_size _) (by omega) ?_
        rw [hdl]
        k_with_none
        w_strict k_steps
        · have h0 : (j : Int) < ds.length := by assumption
          refine ⟨h9, _, _, rfl, F9, N9, off, trivial, rfl, xs ++ [((j : Int), tj)], by simp [vals], ?_⟩
          rw [hfr true, List.map_append, hxs, if_pos (by simp [hn]; omega)]
          rfl
        · have h0 : ¬ (j : Int) < ds.length := by assumption
          refine ⟨h9, _, _, rfl, F9, N9, off, trivial, rfl, xs, rfl, ?_⟩
          rw [hfr true, hxs, if_neg (by simp; intro _; omega), List.append_nil]
      · have hb1 : (!(Builtin.Str.occurrences (Str.ofString "rwxst") yy 0 (Str.ofString "rwxst").length 1).isEmpty) = false := Bool.eq_false_iff.mpr fun q => hn (hsj.mp q)
        k_with_none
        k_with "compareOp In str str" => (refine PyProof.Rows.in_str ?_; rw [hb1])
        w_strict k_steps
        refine ⟨h9, _, _, rfl, F9, N9, off, trivial, rfl, xs, rfl, ?_⟩
        rw [hfr true, hxs, if_neg (by simp [hn]), List.append_nil]
end

end
theorem reset59compx : True := by
  k_with_none
  w_top off
  try (walk1; fail)
  exact True.intro
section
open PyProof.Rows.LCg PyProof.Rows.LCt
/-! a list comprehension whose name is a cell (an inner comprehension reads it) -/
section
variable {prog : Program} {w : World} {A : Around} {E : Value → Shared → Prop} {s : Shared} {h₀ : Heap} {L : Addr} {m : Str → Option Value} {env : Env}
theorem wpAny_newFunctionEnv_comp {M : Model} {scope : Scope} {cl : List (Str × Addr)} {Q : Env → Shared → Prop}
    (h : Q { scope := scope, locals := s.heap.objs.size, globals := env.globals, cells := cellsFrom (s.heap.objs.size + 1) scope.names cl, qual := env.qual, func := none, code := env.code, frame := env.frame, builtins := env.builtins }
      { s with heap := pushCells (s.heap.push { cls := .type "dict", data := .dict #[] }) scope.names }) :
    wpAny M A (newFunctionEnv scope env.globals cl [] env.qual none .none (some env)) Q E s := by
  simp only [newFunctionEnv, Option.isSome_some, if_true]
  refine wpAny_bind (wpAny_alloc ?_)
  refine wpAny_bind (wpAny_layCells _ (fun name kind cells => by cases hkc : kind == NameKind.cell <;> simp [hkc]) _ _ _ _ ?_)
  rw [show ({ s with heap := s.heap.push { cls := .type "dict", data := .dict #[] } } : Shared).heap.objs.size = s.heap.objs.size + 1 from Heap.size_push ..]
  rw [List.forIn_nil]
  exact wpAny_bind (wpAny_pure (wpAny_pure h))
/-- a turn's end in such a comprehension -/
abbrev XEnd (h₀ : Heap) (L : Addr) (m : Str → Option Value) (s₁ : Shared) (I : Addr) (oI : Obj) (C : Addr) (oC : Obj) (D : Addr) (ys : List Value) (X : Addr) (oX : Obj) (r : Value → List (Addr × Obj) → Prop) : Value → Shared → Prop :=
  CompEnd h₀ L m s₁ I oI C oC D (lst ys) (fun _ => True) (fun y nw => ∃ nw', nw = (X, oX) :: nw' ∧ (∀ p ∈ nw', p.1 ≠ X) ∧ r y nw')
inductive CXJ (h₀ : Heap) (L : Addr) (m : Str → Option Value) (s₁ : Shared) (I ax C D X : Addr) (its : Array Value) (Inv : Nat → List Value → List (Addr × Obj) → Prop) (k : Nat) (s' : Shared) : Prop
  | mk (h' : Heap) (tk : Tok) (i : Nat) (ys : List Value) (news' : List (Addr × Obj)) (oX : Obj) (v₀ : Option Value) (h1 : s' = { s₁ with heap := h', toks := tk }) (h2 : i ≤ its.size) (h3 : k = its.size + 1 - i) (h4 : ys.length ≤ i) (h5 : h'.IsListIter I ax i ∧ h'.IsList ax its) (h6 : Fr h₀ L h' m) (h7 : ∃ m', h'.Ns C m') (h8 : News h₀ L h' ((D, lst ys) :: (X, oX) :: news'))
      (h9 : oX.data = .cell v₀) (h10 : Off3 I C D news') (h11 : ∀ p ∈ news', p.1 ≠ X) (h12 : Inv i ys news') : CXJ h₀ L m s₁ I ax C D X its Inv k s'
theorem ListComp_X {ct elt iter : PySem.Expr} {x : Str} {px : Pos} {scope : Scope} {cl : List (Str × Addr)} {pos : Pos} {Q : Value → Shared → Prop} {ax : Addr} {its : Array Value} {kk : Nat} (hh : A.handled = none)
    (Inv : Nat → List Value → List (Addr × Obj) → Prop)
    (hclos : closureFor scope env = pure cl) (hcells : ∀ k, cellsFrom k scope.names cl = (x, k) :: cl) (hpush : ∀ h, pushCells h scope.names = h.push { cls := .type "cell", data := .cell none }) (hkind : scope.kind = .function)
    (hnames : ∀ y ∈ scope.names, y.2 = .local → scope.names.lookup y.1 = some .local) (hx : ∀ C cl, (compEnvC scope cl C env).kindOf x = some .cell) (hsz : its.size ≤ sizeLine)
    (hkeep : ∀ i ys news, Inv i ys news → (ax, ({ cls := .type "list", data := .seq its kk } : Obj)) ∈ news)
    (h : wpAny (model prog w) A (eval iter env) (fun xv s₁ => xv = .ref ax ∧ ∃ news, Fr h₀ L s₁.heap m ∧ News h₀ L s₁.heap news ∧ Inv 0 [] news ∧
      (∀ i ys news, i < its.size → Inv i ys news → ∀ v I oI C oC X oX D h tk (E' : Value → Shared → Prop), its[i]? = some v → oX.data = .cell (some v) → Fr h₀ L h m → News h₀ L h ((I, oI) :: (C, oC) :: (D, lst ys) :: (X, oX) :: news) → Off3 I C D ((X, oX) :: news) → (∀ p ∈ news, p.1 ≠ X) → ((@Ne Nat I C) ∧ (@Ne Nat I D) ∧ (@Ne Nat C D)) →
        wpAny (model prog w) A (isTrue ct (compEnvC scope ((x, X) :: cl) C env) (eval ct (compEnvC scope ((x, X) :: cl) C env))) (fun ok s' => if ok = true then
          wpAny (model prog w) A (eval elt (compEnvC scope ((x, X) :: cl) C env)) (XEnd h₀ L m { s₁ with heap := h, toks := tk } I oI C oC D ys X oX (fun y news' => Inv (i + 1) (ys ++ [y]) news')) E' s'
          else XEnd h₀ L m { s₁ with heap := h, toks := tk } I oI C oC D ys X oX (fun _ news' => Inv (i + 1) ys news') Value.none s') E' { s₁ with heap := h, toks := tk }) ∧
      (∀ ys news D h tk, Inv its.size ys news → Fr h₀ L h m → News h₀ L h ((D, lst ys) :: news) → Off1 D news → Q (.ref D) { s₁ with heap := h, toks := tk })) E s)
    (hs : ∀ x, foldedSetIterable iter env x = pure x := by intro _; rfl) :
    wpAny (model prog w) A (eval (.ListComp elt [⟨.Name x px, iter, [ct], 0⟩] scope pos) env) Q E s := by
  rw [eval_ListComp]
  refine wpAny_comprehension_free (use := none) rfl hs hclos hkind hnames (wpAny_mono h (fun xv s₁ h₁ => ?_) fun _ _ e => e)
  obtain ⟨rfl, news, F, N, hinv, step, fin⟩ := h₁
  have hm := hkeep _ _ _ hinv
  have hl : s₁.heap.IsList ax its := ⟨_, (N _ hm).1, rfl, _, rfl⟩
  have hlt : ax < s₁.heap.objs.size := Heap.lt_size (N _ hm).1
  refine wpAny_pyIter_list hl ?_
  have up : ∀ b o, s₁.heap.get? b = some o → (s₁.heap.push { cls := .type "list_iterator", data := .fields #[.ref ax, .int 0 0] }).get? b = some o := fun b o e => Heap.get?_push_of_some _ e
  have W := Walks.list (prog := prog) (w := w) hh s₁.heap.objs.size ax (Nat.ne_of_lt hlt) its
  have F₂ := F.keeps up
  have N₂ : News h₀ L _ news := N.grown up
  have hI₀ : h₀.get? s₁.heap.objs.size = none := next_is_new F
  have hIL : L ≠ s₁.heap.objs.size := Nat.ne_of_lt F.ns.lt
  have hst : Heap.IsListIter (s₁.heap.push { cls := .type "list_iterator", data := .fields #[.ref ax, .int 0 0] }) s₁.heap.objs.size ax 0 ∧ Heap.IsList (s₁.heap.push { cls := .type "list_iterator", data := .fields #[.ref ax, .int 0 0] }) ax its := ⟨⟨_, Heap.get?_push_size _ rfl, rfl, rfl⟩, hl.push _⟩
  have offI : ∀ p ∈ news, p.1 ≠ s₁.heap.objs.size := fun p hp => Nat.ne_of_lt (Heap.lt_size (N p hp).1)
  have hIlt : s₁.heap.objs.size < (s₁.heap.push { cls := .type "list_iterator", data := .fields #[.ref ax, .int 0 0] }).objs.size := by rw [Heap.size_push]; exact Nat.lt_succ_self _
  generalize hHI : s₁.heap.push { cls := .type "list_iterator", data := .fields #[.ref ax, .int 0 0] } = HI at F₂ N₂ hst hIlt ⊢
  generalize s₁.heap.objs.size = I at W F₂ N₂ hI₀ hIL hst offI hIlt ⊢
  refine wpAny_newObj_type (wpAny_newFunctionEnv_comp ?_)
  dsimp only
  rw [hcells, hpush]
  generalize hH2 : HI.push { cls := .type "list", dict := none, data := .seq ([] : List Value).toArray } = H2
  have hD : H2.get? HI.objs.size = some (lst []) := hH2 ▸ Heap.get?_push_size _ rfl
  have e2 : H2.objs.size = HI.objs.size + 1 := by rw [← hH2, Heap.size_push]
  have old2 : ∀ b o, HI.get? b = some o → H2.get? b = some o := fun b o e => hH2 ▸ Heap.get?_push_of_some _ e
  have nsC : (H2.push { cls := .type "dict", data := .dict #[] }).Ns H2.objs.size fun _ => none := Heap.Ns.new H2 _
  generalize hH3 : H2.push { cls := .type "dict", data := .dict #[] } = H3 at nsC
  have e3 : H3.objs.size = H2.objs.size + 1 := by rw [← hH3, Heap.size_push]
  have old3 : ∀ b o, H2.get? b = some o → H3.get? b = some o := fun b o e => hH3 ▸ Heap.get?_push_of_some _ e
  have hX : (H3.push { cls := .type "cell", data := .cell none }).get? H3.objs.size = some { cls := .type "cell", data := .cell none } := Heap.get?_push_size _ rfl
  have old4 : ∀ b o, H3.get? b = some o → (H3.push { cls := .type "cell", data := .cell none }).get? b = some o := fun b o e => Heap.get?_push_of_some _ e
  have nsC4 := nsC.keeps old4
  rw [← e3]
  generalize hH4 : H3.push { cls := .type "cell", data := .cell none } = H4 at hX old4 nsC4 ⊢
  have old : ∀ b o, HI.get? b = some o → H4.get? b = some o := fun b o e => old4 _ _ (old3 _ _ (old2 _ _ e))
  have hD4 := old4 _ _ (old3 _ _ hD)
  have fresh : ∀ a, HI.objs.size ≤ a → HI.get? a = none := fun a ha => by
    cases e : HI.get? a with
    | none => rfl
    | some o' => exact absurd (Heap.lt_size e) (Nat.not_lt.mpr ha)
  have fresh₀ : ∀ a, HI.objs.size ≤ a → h₀.get? a = none := fun a ha => by
    cases e : h₀.get? a with
    | none => rfl
    | some o' => have := F₂.keep a o' e; rw [fresh a ha] at this; cases this
  have hLlt : L < HI.objs.size := F₂.ns.lt
  have hn : ∀ p ∈ news, p.1 < HI.objs.size := fun p hp => Heap.lt_size (N₂ p hp).1
  have F4 : Fr h₀ L H4 m := F₂.keeps old
  have N4 : News h₀ L H4 news := N₂.grown old
  have hst4 := W.frame _ _ _ hst fun b _ o e => old b o e
  have axlt : ax < HI.objs.size := Heap.lt_size (N₂ _ hm).1
  have hC₀ : h₀.get? H2.objs.size = none := fresh₀ _ (by rw [e2]; exact Nat.le_succ _)
  have hX₀ : h₀.get? H3.objs.size = none := fresh₀ _ (by rw [e3, e2]; exact Nat.le_trans (Nat.le_succ _) (Nat.le_succ _))
  have hD₀ : h₀.get? HI.objs.size = none := fresh₀ _ (Nat.le_refl _)
  generalize hDD : HI.objs.size = D at *
  have l2 : D < H2.objs.size := by rw [e2]; exact Nat.lt_succ_self _
  have l3 : H2.objs.size < H3.objs.size := by rw [e3]; exact Nat.lt_succ_self _
  generalize hCC : H2.objs.size = C at *
  generalize hXX : H3.objs.size = X at *
  clear hHI hH2 hH3 hH4 e2 e3 old2 old3 old4 nsC hD hDD hCC hXX fresh fresh₀ old F F₂ N₂ N up hst hl hlt
  as_aux_lemma =>
  have n1 : ∀ a b : Nat, a < b → a ≠ b := fun a b => Nat.ne_of_lt
  have hDL : D ≠ L := Ne.symm (n1 _ _ hLlt)
  have hCL : C ≠ L := Ne.symm (n1 _ _ (Nat.lt_trans hLlt l2))
  have hXL : X ≠ L := Ne.symm (n1 _ _ (Nat.lt_trans (Nat.lt_trans hLlt l2) l3))
  have hID : I ≠ D := n1 _ _ hIlt
  have hIC : I ≠ C := n1 _ _ (Nat.lt_trans hIlt l2)
  have hIX : I ≠ X := n1 _ _ (Nat.lt_trans (Nat.lt_trans hIlt l2) l3)
  have hCD : C ≠ D := Ne.symm (n1 _ _ l2)
  have hXD : X ≠ D := Ne.symm (n1 _ _ (Nat.lt_trans l2 l3))
  have hXC : X ≠ C := Ne.symm (n1 _ _ l3)
  have hfp : ∀ b ∈ [I, ax], b < D := fun b hb => by
    rcases List.mem_cons.mp hb with rfl | hb
    · exact hIlt
    · rw [List.mem_singleton.mp hb]; exact axlt
  have hDf : ∀ b ∈ [I, ax], b ≠ D := fun b hb => n1 _ _ (hfp b hb)
  have hXf : ∀ b ∈ [I, ax], b ≠ X := fun b hb => n1 _ _ (Nat.lt_trans (Nat.lt_trans (hfp b hb) l2) l3)
  have off₀ : Off3 I C D news := Off3.of fun p hp => ⟨offI p hp, n1 _ _ (Nat.lt_trans (hn p hp) l2), n1 _ _ (hn p hp)⟩
  have offX : ∀ p ∈ news, p.1 ≠ X := fun p hp => n1 _ _ (Nat.lt_trans (Nat.lt_trans (hn p hp) l2) l3)
  have loop : ∀ s₃ : Shared, s₃ = { s₁ with heap := H4 } →
      codeAny (model prog w) A (.compLoop (.ListComp elt [⟨.Name x px, iter, [ct], 0⟩] scope pos) 0 (.ref I) (.ref D) (compEnvC scope ((x, X) :: cl) C env)) (compPost (model prog w) A E none Q (.ref D) C) s₃ := by
    rintro s₃ rfl
    refine codeAny_compLoop_tests
      (CXJ h₀ L m s₁ I ax C D X its Inv) ?_ (its.size + 1)
      ⟨H4, _, 0, [], news, { cls := .type "cell", data := .cell none }, none, rfl, Nat.zero_le _, rfl, Nat.le_refl _, hst4, F4, ⟨_, nsC4⟩, fun p hp => ?_, rfl, off₀, offX, hinv⟩
    · rintro k s' ⟨h', tk, i, ys, news', oX, v₀, rfl, hi, rfl, hyl, hst', F', ⟨m', hn'⟩, N', hoX, off', offX', hinv'⟩
      have off3 := off'.mem
      have NX := N' (X, oX) (.tail _ (.head _))
      have NN : News h₀ L h' news' := fun p hp => N' p (.tail _ (.tail _ hp))
      have offI' : ∀ p ∈ (D, lst ys) :: (X, oX) :: news', p.1 ≠ I := fun p hp => by
        rcases List.mem_cons.mp hp with rfl | hp
        · exact Ne.symm hID
        · rcases List.mem_cons.mp hp with rfl | hp
          · exact Ne.symm hIX
          · exact (off3 p hp).1
      by_cases hlt : i < its.size
      · refine W.item i _ _ _ hlt hst' fun v h₂ tk₂ hPv hst₂ hk₂ => ?_
        have F₂ : Fr h₀ L h₂ m := PyProof.Rows.LCg.fr_but F' hk₂ hIL hI₀
        have N₂ := PyProof.Rows.LCg.news_but N' hk₂ offI'
        have nC₂ : h₂.Ns C m' := hn'.at' fun o e => hk₂ _ o (by simpa using Ne.symm hIC) e
        refine wpAny_assign_Name (wpAny_storeName_cell (by simp [compEnvC, relabel, hkind]) (hx _ _) (by simp [compEnvC]) ⟨oX, (N₂ _ (.tail _ (.head _))).1, hoX⟩ fun h₃ hc₃ hs₃ => ?_)
        refine wpAny_tests_one ?_
        obtain ⟨oX', heX, hoX'⟩ := hc₃
        have hst₃ := W.frame _ _ _ hst₂ fun b hb o e => hs₃.extBut b o (hXf b hb) e
        obtain ⟨oI, heI, hoI⟩ := hst₃.1
        obtain ⟨oC, heC, hoC⟩ := ns_obj (nC₂.sameBut hs₃ (Ne.symm hXC))
        have F₃ : Fr h₀ L h₃ m := F₂.change hs₃ hXL hX₀
        have N₃ : News h₀ L h₃ ((I, oI) :: (C, oC) :: (D, lst ys) :: (X, oX') :: news') := fun p hp => by
          rcases List.mem_cons.mp hp with rfl | hp
          · exact ⟨heI, Ne.symm hIL, hI₀⟩
          rcases List.mem_cons.mp hp with rfl | hp
          · exact ⟨heC, hCL, hC₀⟩
          rcases List.mem_cons.mp hp with rfl | hp
          · have z := N₂ (D, lst ys) (.head _)
            exact ⟨hs₃.extBut _ _ (Ne.symm hXD) z.1, z.2⟩
          rcases List.mem_cons.mp hp with rfl | hp
          · exact ⟨heX, hXL, hX₀⟩
          · have z := N₂ p (.tail _ (.tail _ hp))
            exact ⟨hs₃.extBut _ _ (offX' p hp) z.1, z.2⟩
        have offN : Off3 I C D ((X, oX') :: news') := ⟨⟨Ne.symm hIX, hXC, hXD⟩, off'⟩
        refine wpAny_mono (step i ys news' hlt hinv' v I oI C oC X oX' D h₃ tk₂ _ hPv hoX' F₃ N₃ offN offX' ⟨hIC, hID, hCD⟩) (fun ok s₄ h₄ => ?_) fun _ _ e => e
        cases ok with
        | true =>
          simp only [if_true] at h₄ ⊢
          refine wpAny_mono h₄ (fun y s₅ h₅ => ?_) fun _ _ e => e
          obtain ⟨h₄, tk₄, news₄, rfl, F₄, N₄, off₄, _, nw, rfl, offX₄, hinv₄⟩ := h₅
          have zI := (N₄ (I, oI) List.mem_cons_self).1
          have zC := (N₄ (C, oC) (List.mem_cons_of_mem _ List.mem_cons_self)).1
          have zD := (N₄ (D, lst ys) (List.mem_cons_of_mem _ (List.mem_cons_of_mem _ List.mem_cons_self))).1
          have N₄' : News h₀ L h₄ ((X, oX') :: nw) := fun p hp => N₄ p (List.mem_cons_of_mem _ (List.mem_cons_of_mem _ (List.mem_cons_of_mem _ hp)))
          have hst₄ : h₄.IsListIter I ax (i + 1) ∧ h₄.IsList ax its := ⟨⟨oI, zI, hoI⟩, ⟨_, (N₄' _ (.tail _ (hkeep _ _ _ hinv₄))).1, rfl, _, rfl⟩⟩
          refine append_at (hsz := by show ys.toArray.size ≤ sizeLine; rw [List.size_toArray]; exact Nat.le_trans (Nat.le_trans hyl hi) hsz) zD fun h₅ hs₅ hD₅ => ?_
          have off4 := off₄.mem
          refine ⟨its.size + 1 - (i + 1), by omega, h₅, tk₄, i + 1, ys ++ [y], nw, oX', some v, rfl, hlt, rfl, by rw [List.length_append, List.length_singleton]; exact Nat.succ_le_succ hyl, W.frame _ _ _ hst₄ fun b hb o e => hs₅.extBut b o (hDf b hb) e, F₄.change hs₅ hDL hD₀,
            ⟨_, (hoC.ns zC).sameBut hs₅ hCD⟩, fun p hp => ?_, hoX', off₄.2, offX₄, hinv₄⟩
          rcases List.mem_cons.mp hp with rfl | hp
          · exact ⟨hD₅.trans (congrArg some (lst_snoc ys y)), hDL, hD₀⟩
          · exact ⟨hs₅.extBut _ _ (off4 p hp).2.2 (N₄' p hp).1, (N₄' p hp).2⟩
        | false =>
          simp only [Bool.false_eq_true, if_false] at h₄ ⊢
          obtain ⟨h₅, tk₄, news₄, rfl, F₄, N₄, off₄, _, nw, rfl, offX₄, hinv₄⟩ := h₄
          have zI := (N₄ (I, oI) List.mem_cons_self).1
          have zC := (N₄ (C, oC) (List.mem_cons_of_mem _ List.mem_cons_self)).1
          have N₄' : News h₀ L h₅ ((D, lst ys) :: (X, oX') :: nw) := fun p hp => N₄ p (List.mem_cons_of_mem _ (List.mem_cons_of_mem _ hp))
          have hst₄ : h₅.IsListIter I ax (i + 1) ∧ h₅.IsList ax its := ⟨⟨oI, zI, hoI⟩, ⟨_, (N₄' _ (.tail _ (.tail _ (hkeep _ _ _ hinv₄)))).1, rfl, _, rfl⟩⟩
          exact ⟨its.size + 1 - (i + 1), by omega, h₅, tk₄, i + 1, ys, nw, oX', some v, rfl, hlt, rfl, Nat.le_succ_of_le hyl, hst₄, F₄, ⟨_, hoC.ns zC⟩, N₄', hoX', off₄.2, offX₄, hinv₄⟩
      · obtain rfl : i = its.size := Nat.le_antisymm hi (Nat.not_lt.mp hlt)
        refine W.done _ _ _ hst' fun h₂ tk₂ hk₂ => ?_
        refine ⟨m', hn'.at' fun o e => hk₂ _ o (by simpa using Ne.symm hIC) e, fun h'' hs'' => ?_⟩
        have N₂ := PyProof.Rows.LCg.news_but N' hk₂ offI'
        refine fin ys news' D h'' tk₂ hinv' ((PyProof.Rows.LCg.fr_but F' hk₂ hIL hI₀).change hs'' hCL hC₀) (fun p hp => ?_) off'.one
        rcases List.mem_cons.mp hp with rfl | hp
        · have z := N₂ (D, lst ys) (.head _)
          exact ⟨hs''.extBut _ _ (Ne.symm hCD) z.1, z.2⟩
        · have z := N₂ p (.tail _ (.tail _ hp))
          exact ⟨hs''.extBut _ _ (off3 p hp).2.1 z.1, z.2⟩
    · rcases List.mem_cons.mp hp with rfl | hp
      · exact ⟨hD4, hDL, hD₀⟩
      rcases List.mem_cons.mp hp with rfl | hp
      · exact ⟨hX, hXL, hX₀⟩
      · exact N4 p hp
  exact codeAny_compStart_list (loop _ rfl) (W.self 0 _ _ _ hst4 (loop _ rfl))
end

end
theorem reset62later : True := by
  k_with_none
  w_top off
  try (walk1; fail)
  exact True.intro
section
open PyProof
open PyProof.Rows.LCg PyProof.Rows.LCt
abbrev nmS (x : String) : Str := Str.ofString x
abbrev scI : Scope := { kind := .function, names := [(nmS ".0", .local), (nmS "i", .local), (nmS "k", .free), (nmS "modes", .free)], isGenerator := false, isCoroutine := false, more := [] }
abbrev scK : Scope := { kind := .function, names := [(nmS ".0", .local), (nmS "k", .cell), (nmS "left", .free), (nmS "modes", .free)], isGenerator := false, isCoroutine := false, more := [] }
abbrev scK' : Scope := { kind := .function, names := [(nmS ".0", .local), (nmS "k", .cell), (nmS "left", .cell), (nmS "modes", .cell)], isGenerator := false, isCoroutine := false, more := [] }
abbrev scI' : Scope := { kind := .function, names := [(nmS ".0", .local), (nmS "i", .local), (nmS "k", .cell), (nmS "modes", .cell)], isGenerator := false, isCoroutine := false, more := [] }
theorem rel_K {env : Env} (hk : env.scope.kind = .function) (hl : env.kindOf (nmS "left") = some .cell) (hm : env.kindOf (nmS "modes") = some .cell) : relabel scK env = scK' := by
  have e1 : (NameKind.local == NameKind.free && env.scope.kind == ScopeKind.function && env.kindOf (nmS ".0") == some .cell) = false := rfl
  have e2 : (NameKind.cell == NameKind.free && env.scope.kind == ScopeKind.function && env.kindOf (nmS "k") == some .cell) = false := rfl
  have e3 : (NameKind.free == NameKind.free && env.scope.kind == ScopeKind.function && env.kindOf (nmS "left") == some .cell) = true := by rw [hk, hl]; rfl
  have e4 : (NameKind.free == NameKind.free && env.scope.kind == ScopeKind.function && env.kindOf (nmS "modes") == some .cell) = true := by rw [hk, hm]; rfl
  simp only [relabel, List.map_cons, List.map_nil, e1, e2, e3, e4, if_true, Bool.false_eq_true, if_false]
/-- the outer comprehension's frame -/
abbrev envK (env : Env) (cl : List (Str × Addr)) (C : Addr) : Env := compEnvC scK cl C env
theorem envK_kind {env : Env} {cl : List (Str × Addr)} {C : Addr} (hk : env.scope.kind = .function) (hl : env.kindOf (nmS "left") = some .cell) (hm : env.kindOf (nmS "modes") = some .cell) (x : Str) : (envK env cl C).kindOf x = scK'.names.lookup x := by
  show (relabel scK env).names.lookup x = _
  rw [rel_K hk hl hm]
theorem rel_I {env : Env} {cl : List (Str × Addr)} {C : Addr} (hk : env.scope.kind = .function) (hl : env.kindOf (nmS "left") = some .cell) (hm : env.kindOf (nmS "modes") = some .cell) : relabel scI (envK env cl C) = scI' := by
  have h1 : (envK env cl C).scope.kind = .function := by show (relabel scK env).kind = _; rw [rel_K hk hl hm]
  have hK := fun x => envK_kind (cl := cl) (C := C) hk hl hm x
  have e1 : (NameKind.local == NameKind.free && (envK env cl C).scope.kind == ScopeKind.function && (envK env cl C).kindOf (nmS ".0") == some .cell) = false := rfl
  have e2 : (NameKind.local == NameKind.free && (envK env cl C).scope.kind == ScopeKind.function && (envK env cl C).kindOf (nmS "i") == some .cell) = false := rfl
  have e3 : (NameKind.free == NameKind.free && (envK env cl C).scope.kind == ScopeKind.function && (envK env cl C).kindOf (nmS "k") == some .cell) = true := by rw [h1, hK]; decide +kernel
  have e4 : (NameKind.free == NameKind.free && (envK env cl C).scope.kind == ScopeKind.function && (envK env cl C).kindOf (nmS "modes") == some .cell) = true := by rw [h1, hK]; decide +kernel
  simp only [relabel, List.map_cons, List.map_nil] at *
  simp only [e1, e2, e3, e4, if_true, Bool.false_eq_true, if_false]
abbrev envI (env : Env) (cl cl' : List (Str × Addr)) (C C' : Addr) : Env := compEnvC scI cl' C' (envK env cl C)
theorem envI_kind {env : Env} {cl cl' : List (Str × Addr)} {C C' : Addr} (hk : env.scope.kind = .function) (hl : env.kindOf (nmS "left") = some .cell) (hm : env.kindOf (nmS "modes") = some .cell) (x : Str) : (envI env cl cl' C C').kindOf x = scI'.names.lookup x := by
  show (relabel scI (envK env cl C)).names.lookup x = _
  rw [rel_I hk hl hm]
theorem clos_K {env : Env} {cL cM : Addr} (h1 : env.cells.lookup (nmS "left") = some cL) (h2 : env.cells.lookup (nmS "modes") = some cM) : closureFor scK env = pure [(nmS "modes", cM), (nmS "left", cL)] := by
  unfold closureFor
  simp only [List.forIn_cons, List.forIn_nil]
  simp [cellOf, h1, h2]
theorem clos_I {env : Env} {cL cM X C : Addr} : closureFor scI (envK env [(nmS "k", X), (nmS "modes", cM), (nmS "left", cL)] C) = pure [(nmS "modes", cM), (nmS "k", X)] := by
  have h1 : (envK env [(nmS "k", X), (nmS "modes", cM), (nmS "left", cL)] C).cells.lookup (nmS "k") = some X := rfl
  have h2 : (envK env [(nmS "k", X), (nmS "modes", cM), (nmS "left", cL)] C).cells.lookup (nmS "modes") = some cM := rfl
  unfold closureFor
  simp only [List.forIn_cons, List.forIn_nil]
  simp [cellOf, h1, h2]
section
variable {w : World} {A : Around} {E : Value → Shared → Prop} {s : Shared} {h₀ : Heap} {L : Addr} {m : Str → Option Value} {env : Env} {Q : Value → Shared → Prop}
/-- the inner comprehension: those of left that file k waits for -/
abbrev innerE (p : Nat → Pos) : PySem.Expr :=
  .ListComp (.Name (nmS "i") (p 0)) [⟨.Name (nmS "i") (p 1), .Name (nmS "left") (p 2), [.BoolOp .And [.Compare (.BinOp (.BinOp (.BinOp (.Subscript (.Name (nmS "modes") (p 3)) (.Name (nmS "k") (p 4)) (p 5)) .Mult
    (.BinOp (.Constant (.int 2) 0 (p 6)) .Pow (.Name (nmS "i") (p 7)) (p 8)) (p 9)) .FloorDiv (.Constant (.int 256) 0 (p 10)) (p 11)) .Mod (.Constant (.int 2) 0 (p 12)) (p 13)) [.Eq] [.Constant (.int 1) 0 (p 14)] (p 15),
    .Compare (.Name (nmS "i") (p 16)) [.Lt] [.Constant (.int 9) 0 (p 17)] (p 18)] (p 19)], 0⟩] scI (p 20)
theorem inner_ok (p : Nat → Pos) {news : List (Addr × Obj)} {X C cM cL lf ml : Addr} {oX oL oM : Obj} {lv mv : List (Int × Tok)} {e em : Nat} {k : Nat} {kt : Tok} (hh : A.handled = none)
    (hk : env.scope.kind = .function) (hkl : env.kindOf (nmS "left") = some .cell) (hkm : env.kindOf (nmS "modes") = some .cell)
    (F : Fr h₀ L s.heap m) (N : News h₀ L s.heap news) (mX : (X, oX) ∈ news) (dX : oX.data = .cell (some (.int (k : Int) kt))) (mL : (cL, oL) ∈ news) (dL : oL.data = .cell (some (.ref lf))) (mM : (cM, oM) ∈ news) (dM : oM.data = .cell (some (.ref ml)))
    (mlf : (lf, PySem.W.listOf (vals lv).toArray e) ∈ news) (mml : (ml, PySem.W.listOf (vals mv).toArray em) ∈ news) (hkv : k < mv.length) (hmv : ∀ x ∈ mv, 0 ≤ x.1 ∧ x.1 < 65536) (hlv : ∀ x ∈ lv, 0 ≤ x.1 ∧ x.1 < 9) (hml : mv.length ≤ 9) (hll : lv.length ≤ 9)
    (h : ∀ D h' tk xs, Fr h₀ L h' m → News h₀ L h' ((D, lst (vals xs)) :: news) → Off1 D news → xs.map (·.1) = (lv.map (·.1)).filter (fun i => decide (mv[k].1 * 2 ^ i.toNat / 256 % 2 = 1) && decide (i < 9)) → Q (.ref D) { s with heap := h', toks := tk }) :
    wpAny (model PR w) A (eval (innerE p) (envK env [(nmS "k", X), (nmS "modes", cM), (nmS "left", cL)] C)) Q E s := by
  have hkK : (envK env [(nmS "k", X), (nmS "modes", cM), (nmS "left", cL)] C).scope.kind = .function := by show (relabel scK env).kind = _; rw [rel_K hk hkl hkm]
  refine PyProof.Rows.LCt.ListComp_T F clos_I (by decide) rfl (by decide) rfl ?_ (fun _ => rfl)
  refine lcf_cell N rfl mL dL ?_ hkK (by rw [envK_kind hk hkl hkm]; decide +kernel)
  refine CompSrcT.ledger hh F N mlf (by rw [sizeLine_eq]; simp [vals]; omega) ?_
  intro g6
  have hn : (vals lv).toArray.size = lv.length := by simp
  rw [hn]
  refine compT_ind (n := lv.length) (fun j ys nw => nw = news ∧ ∃ xs, ys = vals xs ∧ xs.map (·.1) = ((lv.take j).map (·.1)).filter (fun i => decide (mv[k].1 * 2 ^ i.toNat / 256 % 2 = 1) && decide (i < 9))) ?step ?fin _ 0 [] _ rfl ⟨rfl, [], rfl, rfl⟩
  case fin =>
    rintro ys nw ⟨rfl, xs, rfl, hxs⟩
    intro D h' tk F' N' off
    rw [List.take_of_length_le (Nat.le_refl _)] at hxs
    exact h D h' tk xs F' N' off hxs
  case step =>
    rintro j ys nw hj ⟨rfl, xs, rfl, hxs⟩ v I oI C2 oC2 D m₂ h9 tk E' hP hNs hx F9 N9 off ne
    obtain ⟨q, hq, rfl⟩ := vals_get hP
    have hqm := List.mem_of_getElem? hq
    have hq9 := hlv q hqm
    dsimp only
    have hkI : ∀ C2, (envI env [(nmS "k", X), (nmS "modes", cM), (nmS "left", cL)] [(nmS "modes", cM), (nmS "k", X)] C C2).scope.kind = .function := fun C2 => by show (relabel scI (envK env _ C)).kind = _; rw [rel_I hk hkl hkm]
    have hiI : ∀ C2, (envI env [(nmS "k", X), (nmS "modes", cM), (nmS "left", cL)] [(nmS "modes", cM), (nmS "k", X)] C C2).kindOf (nmS "i") = some .local := fun C2 => by rw [envI_kind hk hkl hkm]; decide +kernel
    have hmI : ∀ C2, (envI env [(nmS "k", X), (nmS "modes", cM), (nmS "left", cL)] [(nmS "modes", cM), (nmS "k", X)] C C2).kindOf (nmS "modes") = some .cell := fun C2 => by rw [envI_kind hk hkl hkm]; decide +kernel
    have hkkI : ∀ C2, (envI env [(nmS "k", X), (nmS "modes", cM), (nmS "left", cL)] [(nmS "modes", cM), (nmS "k", X)] C C2).kindOf (nmS "k") = some .cell := fun C2 => by rw [envI_kind hk hkl hkm]; decide +kernel
    have inN : ∀ x ∈ nw, x ∈ (I, oI) :: (C2, oC2) :: (D, lst (vals xs)) :: nw := fun x h => .tail _ (.tail _ (.tail _ h))
    have hmd := hmv _ (List.getElem_mem hkv)
    k_with_none
    k_with "eval Name" => (k_dflt (first
      | refine lcf_cell N9 rfl (inN _ mM) dM ?_ (hkI _) (hmI _)
      | refine lcf_cell N9 rfl (inN _ mX) dX ?_ (hkI _) (hkkI _)
      | refine PySem.W.LCgL.ld_own N9 (.tail _ (.head _)) hNs hx ?_ (hkI _) (hiI _)))
    k_with "subscriptTail Name Name ref int" => (k_dflt (refine kim_list N9 (inN _ mml) rfl (l := vals mv) rfl (x := .int mv[k].1 mv[k].2) (by omega) (by omega) (by simp [hkv]) ?_))
    k_with "compareOp Eq int int" => refine halt ?_
    w_strict k_steps

    refine unhalt ?_
    rw [Int.fdiv_eq_ediv_of_nonneg _ (by decide), Int.fmod_eq_emod_of_nonneg _ (by decide)]
    have e : (lv.take (j + 1)).map (·.1) = (lv.take j).map (·.1) ++ [q.1] := by rw [List.take_add_one, hq]; simp
    have hsp : ∀ b : Bool, (decide (mv[k].1 * 2 ^ q.1.toNat / 256 % 2 = 1) && decide (q.1 < 9)) = b → ((lv.take (j + 1)).map (·.1)).filter (fun i => decide (mv[k].1 * 2 ^ i.toNat / 256 % 2 = 1) && decide (i < 9)) = xs.map (·.1) ++ (if b = true then [q.1] else []) := by
      intro b hb
      rw [e, List.filter_append, hxs]
      congr 1
      rw [List.filter_cons, hb]
      rfl
    generalize hw : mv[k].1 * 2 ^ q.1.toNat / 256 % 2 = wv at hsp ⊢
    k_with_none
    k_with "eval Name" => (k_dflt (refine PySem.W.LCgL.ld_own N9 (.tail _ (.head _)) hNs hx ?_ (hkI _) (hiI _)))
    w_strict k_steps
    · have h1 : wv = 1 := by assumption
      refine ⟨h9, _, nw, rfl, F9, N9, off, Or.inr ⟨_, mlf, rfl, _, rfl⟩, rfl, xs ++ [(q.1, q.2)], by simp [vals], ?_⟩
      rw [hsp true (by rw [decide_eq_true h1, decide_eq_true hq9.2]; rfl), List.map_append]
      rfl
    · exact absurd hq9.2 (by assumption)
    · have h1 : wv ≠ 1 := by assumption
      refine ⟨h9, _, nw, rfl, F9, N9, off, Or.inr ⟨_, mlf, rfl, _, rfl⟩, rfl, xs, rfl, ?_⟩
      rw [hsp false (by rw [decide_eq_false h1]; rfl)]
      simp
end
section
variable {w : World} {A : Around} {E : Value → Shared → Prop} {s : Shared} {h₀ : Heap} {L : Addr} {m : Str → Option Value} {env : Env} {Q : Value → Shared → Prop}
abbrev laterE (p : Nat → Pos) : PySem.Expr :=
  .ListComp (.Name (nmS "k") (p 21)) [⟨.Name (nmS "k") (p 22), .Name (nmS "left") (p 23), [.Compare (innerE p) [.NotEq] [.List [] (p 24)] (p 25)], 0⟩] scK (p 26)
/-- what file k waits for among left -/
def innI (ms left : List Int) (k : Int) : List Int := left.filter fun i => decide ((ms[k.toNat]?.getD 0) * 2 ^ i.toNat / 256 % 2 = 1) && decide (i < 9)
theorem later_ok (p : Nat → Pos) {news : List (Addr × Obj)} {cM cL lf ml : Addr} {oL oM : Obj} {lv mv : List (Int × Tok)} {e em : Nat} (hh : A.handled = none) (hu : A.units + 64 < cLine)
    (hk : env.scope.kind = .function) (hkl : env.kindOf (nmS "left") = some .cell) (hkm : env.kindOf (nmS "modes") = some .cell) (hcl : env.cells.lookup (nmS "left") = some cL) (hcm : env.cells.lookup (nmS "modes") = some cM)
    (F : Fr h₀ L s.heap m) (N : News h₀ L s.heap news) (mL : (cL, oL) ∈ news) (dL : oL.data = .cell (some (.ref lf))) (mM : (cM, oM) ∈ news) (dM : oM.data = .cell (some (.ref ml)))
    (mlf : (lf, PySem.W.listOf (vals lv).toArray e) ∈ news) (mml : (ml, PySem.W.listOf (vals mv).toArray em) ∈ news) (hmv : ∀ x ∈ mv, 0 ≤ x.1 ∧ x.1 < 65536) (hlv : ∀ x ∈ lv, 0 ≤ x.1 ∧ x.1 < mv.length) (hml : mv.length ≤ 9) (hll : lv.length ≤ 9)
    (h : ∀ D h' tk xs, Fr h₀ L h' m → News h₀ L h' ((D, lst (vals xs)) :: news) → Off1 D news → xs.map (·.1) = (lv.map (·.1)).filter (fun k => !(innI (mv.map (·.1)) (lv.map (·.1)) k).isEmpty) → Q (.ref D) { s with heap := h', toks := tk }) :
    wpAny (model PR w) A (eval (laterE p) env) Q E s := by
  refine ListComp_X (h₀ := h₀) (L := L) (m := m) (its := (vals lv).toArray) (ax := lf) (kk := e) hh (fun j ys nw => nw = news ∧ ∃ xs, ys = vals xs ∧ xs.map (·.1) = ((lv.take j).map (·.1)).filter (fun k => !(innI (mv.map (·.1)) (lv.map (·.1)) k).isEmpty))
    (clos_K hcl hcm) (fun _ => rfl) (fun _ => rfl) rfl (by decide) (fun C cl => by rw [envK_kind hk hkl hkm]; decide +kernel) (by rw [sizeLine_eq]; simp [vals]; omega) ?keep ?_ (fun _ => rfl)
  case keep =>
    rintro i ys nw ⟨rfl, _⟩
    exact mlf
  refine wpAny_Name (wpAny_loadName_cell hk hkl hcl ⟨oL, N.get mL, dL⟩ ?_) (by decide)
  have hn : (vals lv).toArray.size = lv.length := by simp
  rw [hn]
  refine ⟨rfl, news, F, N, ⟨rfl, [], rfl, rfl⟩, ?step, ?fin⟩
  case fin =>
    rintro ys nw D h' tk ⟨rfl, xs, rfl, hxs⟩ F' N' off
    rw [List.take_of_length_le (Nat.le_refl _)] at hxs
    exact h D h' tk xs F' N' off hxs
  case step =>
    rintro j ys nw hj ⟨rfl, xs, rfl, hxs⟩ v I oI C oC X oX D h9 tk E' hP dX F9 N9 off offX ne
    obtain ⟨q, hq, rfl⟩ := vals_get hP
    have hqm := List.mem_of_getElem? hq
    have hqk := hlv q hqm
    have hkK : (envK env [(nmS "k", X), (nmS "modes", cM), (nmS "left", cL)] C).scope.kind = .function := by show (relabel scK env).kind = _; rw [rel_K hk hkl hkm]
    have inN : ∀ x ∈ nw, x ∈ (I, oI) :: (C, oC) :: (D, lst (vals xs)) :: (X, oX) :: nw := fun x h => .tail _ (.tail _ (.tail _ (.tail _ h)))
    obtain ⟨kk, hkk⟩ : ∃ kk : Nat, q.1 = (kk : Int) := ⟨q.1.toNat, by omega⟩
    rw [hkk] at dX
    obtain ⟨kt9, hkt⟩ : ∃ t, q.2 = t := ⟨_, rfl⟩
    rw [hkt] at dX
    have hkl2 : kk < mv.length := by omega
    k_with_none
    k_with "eval ListComp" => refine halt ?_
    w_strict k_steps
    refine unhalt ?_
    refine inner_ok p hh hk hkl hkm F9 N9 (.tail _ (.tail _ (.tail _ (.head _)))) dX (inN _ mL) dL (inN _ mM) dM (inN _ mlf) (inN _ mml) hkl2 hmv (fun x hx => ⟨(hlv x hx).1, by have := (hlv x hx).2; omega⟩) hml hll ?_
    intro D1 h10 tk10 ws F10 N10 off10 hws
    k_with_none
    k_with "newList" => (k_dflt (refine newList_K F10 N10 ?_; intro l2 h11 F11 N11 l11))
    k_with "compareOp NotEq ref ref" => refine halt ?_
    w_strict k_steps
    refine unhalt ?_
    have hws2 : ws.map (·.1) = innI (mv.map (·.1)) (lv.map (·.1)) q.1 := by
      rw [hws]
      unfold innI
      rw [hkk, Int.toNat_natCast, List.getElem?_map, List.getElem?_eq_getElem hkl2]
      rfl
    refine kqd_ne N11 (.tail _ (.head _)) rfl rfl (ints_dat (L := []) (ints_vals ws)) (fun _ h => nomatch h) (.head _) rfl rfl (DatAll.nil (news := [])) (fun _ h => nomatch h) ?oka (fun _ h => nomatch h) hu ?_
    case oka =>
      intro dd hd
      obtain ⟨z, _, rfl⟩ := List.mem_map.mp hd
      rfl
    rw [hws2]
    have e : (lv.take (j + 1)).map (·.1) = (lv.take j).map (·.1) ++ [q.1] := by rw [List.take_add_one, hq]; simp
    have hdec : (!decide ((innI (mv.map (·.1)) (lv.map (·.1)) q.1).map Dat.int = [])) = !(innI (mv.map (·.1)) (lv.map (·.1)) q.1).isEmpty := by
      cases innI (mv.map (·.1)) (lv.map (·.1)) q.1 <;> simp
    rw [hdec]
    have hsp : ((lv.take (j + 1)).map (·.1)).filter (fun k => !(innI (mv.map (·.1)) (lv.map (·.1)) k).isEmpty) = xs.map (·.1) ++ (if (!(innI (mv.map (·.1)) (lv.map (·.1)) q.1).isEmpty) = true then [q.1] else []) := by
      rw [e, List.filter_append, hxs]
      congr 1
      rw [List.filter_cons]
      rfl
    generalize (!(innI (mv.map (·.1)) (lv.map (·.1)) q.1).isEmpty) = b at hsp ⊢
    have N12 : News h₀ L _ ((I, oI) :: (C, oC) :: (D, lst (vals xs)) :: (X, oX) :: nw) := fun q hq => N11 q (.tail _ (.tail _ hq))
    cases b with
    | true =>
      k_with_none
      k_with "eval Name" => (k_dflt (refine lcf_cell N12 rfl (.tail _ (.tail _ (.tail _ (.head _)))) dX ?_ hkK (by rw [envK_kind hk hkl hkm]; decide +kernel)))
      w_strict k_steps
      refine ⟨_, _, _, rfl, F11, N12, off, trivial, nw, rfl, offX, rfl, xs ++ [((kk : Int), kt9)], by simp [vals], ?_⟩
      rw [hsp, List.map_append, hkk]
      rfl
    | false =>
      k_with_none
      w_strict k_steps
      refine ⟨_, _, _, rfl, F11, N12, off, trivial, nw, rfl, offX, rfl, xs, rfl, ?_⟩
      rw [hsp]
      simp
end
abbrev scG : Scope := { kind := .function, names := [(nmS ".0", .local), (nmS "k", .local), (nmS "later", .free)], isGenerator := false, isCoroutine := false, more := [] }
abbrev scG' : Scope := { kind := .function, names := [(nmS ".0", .local), (nmS "k", .local), (nmS "later", .cell)], isGenerator := false, isCoroutine := false, more := [] }
theorem rel_G {env : Env} (hk : env.scope.kind = .function) (hl : env.kindOf (nmS "later") = some .cell) : relabel scG env = scG' := by
  have e1 : (NameKind.local == NameKind.free && env.scope.kind == ScopeKind.function && env.kindOf (nmS ".0") == some .cell) = false := rfl
  have e2 : (NameKind.local == NameKind.free && env.scope.kind == ScopeKind.function && env.kindOf (nmS "k") == some .cell) = false := rfl
  have e3 : (NameKind.free == NameKind.free && env.scope.kind == ScopeKind.function && env.kindOf (nmS "later") == some .cell) = true := by rw [hk, hl]; rfl
  simp only [relabel, List.map_cons, List.map_nil, e1, e2, e3, if_true, Bool.false_eq_true, if_false]
theorem clos_G {env : Env} {cT : Addr} (h1 : env.cells.lookup (nmS "later") = some cT) : closureFor scG env = pure [(nmS "later", cT)] := by
  unfold closureFor
  simp only [List.forIn_cons, List.forIn_nil]
  simp [cellOf, h1]
theorem not_in_dat (l : List Int) (x : Int) (i : Decidable (Dat.int x ∈ l.map Dat.int)) : (!@decide _ i) = decide (x ∉ l) := by
  have this : (Dat.int x ∈ l.map Dat.int) ↔ x ∈ l := by
    constructor
    · intro hm
      obtain ⟨z, hz, ez⟩ := List.mem_map.mp hm
      cases ez
      exact hz
    · exact fun hm => List.mem_map_of_mem hm
  by_cases hq2 : x ∈ l
  · rw [@decide_eq_true _ i (this.mpr hq2), decide_eq_false (fun z => z hq2)]; rfl
  · rw [@decide_eq_false _ i (fun z => hq2 (this.mp z)), decide_eq_true hq2]; rfl
section
variable {w : World} {A : Around} {E : Value → Shared → Prop} {s : Shared} {h₀ : Heap} {L : Addr} {m : Str → Option Value} {env : Env} {Q : Value → Shared → Prop}
abbrev goneE (p : Nat → Pos) : PySem.Expr :=
  .ListComp (.Name (nmS "k") (p 0)) [⟨.Name (nmS "k") (p 1), .Name (nmS "left") (p 2), [.Compare (.Name (nmS "k") (p 3)) [.NotIn] [.Name (nmS "later") (p 4)] (p 5)], 0⟩] scG (p 6)
theorem gone_ok (p : Nat → Pos) {news : List (Addr × Obj)} {cL cT lf lt : Addr} {oL oT : Obj} {lv tv : List (Int × Tok)} {e et : Nat} (hh : A.handled = none) (hu : A.units + 64 < cLine)
    (hk : env.scope.kind = .function) (hkl : env.kindOf (nmS "left") = some .cell) (hkt : env.kindOf (nmS "later") = some .cell) (hcl : env.cells.lookup (nmS "left") = some cL) (hct : env.cells.lookup (nmS "later") = some cT)
    (F : Fr h₀ L s.heap m) (N : News h₀ L s.heap news) (mL : (cL, oL) ∈ news) (dL : oL.data = .cell (some (.ref lf))) (mT : (cT, oT) ∈ news) (dT : oT.data = .cell (some (.ref lt)))
    (mlf : (lf, PySem.W.listOf (vals lv).toArray e) ∈ news) (mlt : (lt, PySem.W.listOf (vals tv).toArray et) ∈ news) (hll : lv.length ≤ 9)
    (h : ∀ D h' tk xs, Fr h₀ L h' m → News h₀ L h' ((D, lst (vals xs)) :: news) → Off1 D news → xs.map (·.1) = (lv.map (·.1)).filter (fun k => decide (k ∉ tv.map (·.1))) → Q (.ref D) { s with heap := h', toks := tk }) :
    wpAny (model PR w) A (eval (goneE p) env) Q E s := by
  refine PyProof.Rows.LCt.ListComp_T F (clos_G hct) (by decide) rfl (by decide) rfl ?_ (fun _ => rfl)
  refine wpAny_Name (wpAny_loadName_cell hk hkl hcl ⟨oL, N.get mL, dL⟩ ?_) (by decide)
  refine CompSrcT.ledger hh F N mlf (by rw [sizeLine_eq]; simp [vals]; omega) ?_
  intro g6
  have hn : (vals lv).toArray.size = lv.length := by simp
  rw [hn]
  refine compT_ind (n := lv.length) (fun j ys nw => nw = news ∧ ∃ xs, ys = vals xs ∧ xs.map (·.1) = ((lv.take j).map (·.1)).filter (fun k => decide (k ∉ tv.map (·.1)))) ?step ?fin _ 0 [] _ rfl ⟨rfl, [], rfl, rfl⟩
  case fin =>
    rintro ys nw ⟨rfl, xs, rfl, hxs⟩
    intro D h' tk F' N' off
    rw [List.take_of_length_le (Nat.le_refl _)] at hxs
    exact h D h' tk xs F' N' off hxs
  case step =>
    rintro j ys nw hj ⟨rfl, xs, rfl, hxs⟩ v I oI C2 oC2 D m₂ h9 tk E' hP hNs hx F9 N9 off ne
    obtain ⟨q, hq, rfl⟩ := vals_get hP
    have hkG : ∀ C2, (compEnvC scG [(nmS "later", cT)] C2 env).scope.kind = .function := fun C2 => by show (relabel scG env).kind = _; rw [rel_G hk hkt]
    have hkk : ∀ C2, (compEnvC scG [(nmS "later", cT)] C2 env).kindOf (nmS "k") = some .local := fun C2 => by show (relabel scG env).names.lookup _ = _; rw [rel_G hk hkt]; decide +kernel
    have hkT : ∀ C2, (compEnvC scG [(nmS "later", cT)] C2 env).kindOf (nmS "later") = some .cell := fun C2 => by show (relabel scG env).names.lookup _ = _; rw [rel_G hk hkt]; decide +kernel
    have inN : ∀ x ∈ nw, x ∈ (I, oI) :: (C2, oC2) :: (D, lst (vals xs)) :: nw := fun x h => .tail _ (.tail _ (.tail _ h))
    k_with_none
    k_with "eval Name" => (k_dflt (first
      | refine lcf_cell N9 rfl (inN _ mT) dT ?_ (hkG _) (hkT _)
      | refine PySem.W.LCgL.ld_own N9 (.tail _ (.head _)) hNs hx ?_ (hkG _) (hkk _)))
    k_with "compareOp NotIn int ref" => refine halt ?_
    w_strict k_steps
    refine unhalt ?_
    refine kqd_notIn N9 (inN _ mlt) rfl rfl (ints_dat (L := []) (ints_vals tv)) (fun _ h => nomatch h) (DatIn.int (news := []) q.1 q.2) (fun _ h => nomatch h) ?oka rfl hu ?_
    case oka =>
      intro dd hd
      obtain ⟨z, _, rfl⟩ := List.mem_map.mp hd
      rfl
    have e : (lv.take (j + 1)).map (·.1) = (lv.take j).map (·.1) ++ [q.1] := by rw [List.take_add_one, hq]; simp
    have hsp : ((lv.take (j + 1)).map (·.1)).filter (fun k => decide (k ∉ tv.map (·.1))) = xs.map (·.1) ++ (if decide (q.1 ∉ tv.map (·.1)) = true then [q.1] else []) := by
      rw [e, List.filter_append, hxs]
      congr 1
      rw [List.filter_cons]
      rfl
    rw [not_in_dat]
    generalize decide (q.1 ∉ tv.map (·.1)) = b at hsp ⊢
    cases b with
    | true =>
      k_with_none
      k_with "eval Name" => (k_dflt (refine PySem.W.LCgL.ld_own N9 (.tail _ (.head _)) hNs hx ?_ (hkG _) (hkk _)))
      w_strict k_steps
      refine ⟨_, _, nw, rfl, F9, N9, off, Or.inr ⟨_, mlf, rfl, _, rfl⟩, rfl, xs ++ [(q.1, q.2)], by simp [vals], ?_⟩
      rw [hsp, List.map_append]
      rfl
    | false =>
      k_with_none
      w_strict k_steps
      refine ⟨_, _, nw, rfl, F9, N9, off, Or.inr ⟨_, mlf, rfl, _, rfl⟩, rfl, xs, rfl, ?_⟩
      rw [hsp]
      simp
end

end
theorem reset63pos : True := by
  k_with_none
  w_top off
  try (walk1; fail)
  exact True.intro
section
open PyProof
open PyProof.Rows.LCg PyProof.Rows.LCt
/-- positions from a list -/
def pf : List Pos → Nat → Pos
  | p :: _, 0 => p
  | _ :: r, n + 1 => pf r n
  | [], _ => ⟨0, 0, 0, 0⟩
abbrev laterX (p0 p1 p2 p3 p4 p5 p6 p7 p8 p9 p10 p11 p12 p13 p14 p15 p16 p17 p18 p19 p20 p21 p22 p23 p24 p25 p26 : Pos) : PySem.Expr :=
  .ListComp (.Name (nmS "k") p21) [⟨.Name (nmS "k") p22, .Name (nmS "left") p23, [.Compare (.ListComp (.Name (nmS "i") p0) [⟨.Name (nmS "i") p1, .Name (nmS "left") p2, [.BoolOp .And [.Compare (.BinOp (.BinOp (.BinOp (.Subscript (.Name (nmS "modes") p3) (.Name (nmS "k") p4) p5) .Mult     (.BinOp (.Constant (.int 2) 0 p6) .Pow (.Name (nmS "i") p7) p8) p9) .FloorDiv (.Constant (.int 256) 0 p10) p11) .Mod (.Constant (.int 2) 0 p12) p13) [.Eq] [.Constant (.int 1) 0 p14] p15,     .Compare (.Name (nmS "i") p16) [.Lt] [.Constant (.int 9) 0 p17] p18] p19], 0⟩] scI p20) [.NotEq] [.List [] p24] p25], 0⟩] scK p26
theorem later_X {w : World} {A : Around} {env : Env} {Q : Value → Shared → Prop} {E : Value → Shared → Prop} {s : Shared} {p0 p1 p2 p3 p4 p5 p6 p7 p8 p9 p10 p11 p12 p13 p14 p15 p16 p17 p18 p19 p20 p21 p22 p23 p24 p25 p26 : Pos} (h : wpAny (model PR w) A (eval (laterE (pf [p0, p1, p2, p3, p4, p5, p6, p7, p8, p9, p10, p11, p12, p13, p14, p15, p16, p17, p18, p19, p20, p21, p22, p23, p24, p25, p26])) env) Q E s) : wpAny (model PR w) A (eval (laterX p0 p1 p2 p3 p4 p5 p6 p7 p8 p9 p10 p11 p12 p13 p14 p15 p16 p17 p18 p19 p20 p21 p22 p23 p24 p25 p26) env) Q E s := h
abbrev goneX (p0 p1 p2 p3 p4 p5 p6 : Pos) : PySem.Expr :=
  .ListComp (.Name (nmS "k") p0) [⟨.Name (nmS "k") p1, .Name (nmS "left") p2, [.Compare (.Name (nmS "k") p3) [.NotIn] [.Name (nmS "later") p4] p5], 0⟩] scG p6
theorem gone_X {w : World} {A : Around} {env : Env} {Q : Value → Shared → Prop} {E : Value → Shared → Prop} {s : Shared} {p0 p1 p2 p3 p4 p5 p6 : Pos} (h : wpAny (model PR w) A (eval (goneE (pf [p0, p1, p2, p3, p4, p5, p6])) env) Q E s) : wpAny (model PR w) A (eval (goneX p0 p1 p2 p3 p4 p5 p6) env) Q E s := h
theorem ints_split {vs : List Value} {ns : List Int} (h : IntsAre vs ns) : ∃ xs : List (Int × Tok), vs = vals xs ∧ xs.map (·.1) = ns := by
  induction h with
  | nil => exact ⟨[], rfl, rfl⟩
  | cons n t _ ih =>
    obtain ⟨xs, e1, e2⟩ := ih
    exact ⟨(n, t) :: xs, by rw [e1]; rfl, by rw [← e2]; rfl⟩
theorem innI_law (ds : List Int) (l : List Nat) (k : Nat) : innI ds (toI l) (k : Int) = toI (inn ds l k) := by
  unfold innI inn toI
  rw [List.filter_map]
  congr 1
  refine List.filter_congr fun i _ => ?_
  show (decide (ds[(k : Int).toNat]?.getD 0 * 2 ^ (i : Int).toNat / 256 % 2 = 1) && decide ((i : Int) < 9)) = (bitN ds k i && decide (i < 9))
  rw [Int.toNat_natCast, Int.toNat_natCast]
  unfold bitN
  congr 1
  exact decide_eq_decide.mpr (by omega)
theorem later_law (ds : List Int) (l : List Nat) : (toI l).filter (fun k => !(innI ds (toI l) k).isEmpty) = toI (stepL ds l) := by
  show (l.map fun k : Nat => (k : Int)).filter _ = (stepL ds l).map fun k : Nat => (k : Int)
  unfold stepL
  rw [List.filter_map]
  congr 1
  refine List.filter_congr fun k _ => ?_
  show (!(innI ds (toI l) (k : Int)).isEmpty) = _
  rw [innI_law]
  unfold toI
  rw [List.isEmpty_map]
theorem mem_toI {l : List Nat} {k : Nat} : (k : Int) ∈ toI l ↔ k ∈ l := by
  unfold toI
  rw [List.mem_map]
  constructor
  · rintro ⟨i, hi, e⟩
    obtain rfl : i = k := by omega
    exact hi
  · exact fun h => ⟨k, h, rfl⟩
theorem gone_law (l l2 : List Nat) : (toI l).filter (fun k => decide (k ∉ toI l2)) = toI (l.filter fun k => decide (k ∉ l2)) := by
  show (l.map fun k : Nat => (k : Int)).filter _ = (l.filter fun k => decide (k ∉ l2)).map fun k : Nat => (k : Int)
  rw [List.filter_map]
  congr 1
  refine List.filter_congr fun k _ => ?_
  exact decide_eq_decide.mpr (by rw [mem_toI])
theorem toI_inj {l l2 : List Nat} (h : toI l = toI l2) : l = l2 := by
  have e : ∀ l : List Nat, (toI l).map Int.toNat = l := fun l => by unfold toI; rw [List.map_map]; exact List.map_id'' (fun _ => rfl) l
  rw [← e l, ← e l2, h]
theorem dats_inj {a b : List Int} (h : a.map Dat.int = b.map Dat.int) : a = b := by
  induction a generalizing b with
  | nil => cases b with
    | nil => rfl
    | cons => cases h
  | cons x a ih =>
    cases b with
    | nil => cases h
    | cons y b =>
      rw [List.map_cons, List.map_cons] at h
      injection h with h1 h2
      injection h1 with h1
      rw [h1, ih h2]
theorem sep7 {α : Type} {a b c x y z q : α} {l : List α} (hn : (x :: a :: y :: z :: b :: c :: q :: l).Nodup) : (a ≠ b ∧ a ≠ c ∧ b ≠ c) ∧ ∀ p ∈ [x, y, z, q] ++ l, p ≠ a ∧ p ≠ b ∧ p ≠ c := by
  simp only [List.nodup_cons, List.mem_cons, not_or] at hn
  obtain ⟨⟨n1, n2, n3, n4, n5, n6, n7⟩, ⟨n8, n9, n10, n11, n12, n13⟩, ⟨n14, n15, n16, n17, n18⟩, ⟨n19, n20, n21, n22⟩, ⟨n23, n24, n25⟩, ⟨n26, n27⟩, n28, n29⟩ := hn
  refine ⟨⟨n10, n11, n23⟩, fun p hp => ?_⟩
  simp only [List.cons_append, List.nil_append, List.mem_cons] at hp
  rcases hp with e | e | e | e | e
  · subst e; exact ⟨n1, n4, n5⟩
  · subst e; exact ⟨fun q => n8 q.symm, n15, n16⟩
  · subst e; exact ⟨fun q => n9 q.symm, n19, n20⟩
  · subst e; exact ⟨fun q => n12 q.symm, fun q => n24 q.symm, fun q => n26 q.symm⟩
  · exact ⟨fun q => n13 (q ▸ e), fun q => n25 (q ▸ e), fun q => n27 (q ▸ e)⟩
/-- between the turns of due's second loop -/
structure DInv (g : Heap) (L : Addr) (ds : List Int) (F : List (Addr × Obj)) (rl ml c1 c2 c3 : Addr) (o3 : Obj) (mv : List (Int × Tok)) (em t : Nat) (h : Heap) (m : Str → Option Value) (lf lt : Addr) (vs : List Value) (e : Nat) (lv tv : List (Int × Tok)) (elv etv : Nat) (o1 o2 : Obj) (rest Ls : List (Addr × Obj)) : Prop where
  fr : Fr g L h m
  hr : m (Str.ofString "rounds") = some (.ref rl)
  nw : News g L h ((rl, PySem.W.listOf vs.toArray e) :: (c1, o1) :: (c2, o2) :: rest)
  nn : (@Ne Nat rl c1) ∧ (@Ne Nat rl c2) ∧ (@Ne Nat c1 c2)
  sep : ∀ p ∈ rest, p.1 ≠ rl ∧ p.1 ≠ c1 ∧ p.1 ≠ c2
  d1 : o1.data = .cell (some (.ref lt))
  d2 : o2.data = .cell (some (.ref lf))
  m3 : (c3, o3) ∈ rest
  mm : (ml, PySem.W.listOf (vals mv).toArray em) ∈ rest
  ml_ : (lf, PySem.W.listOf (vals lv).toArray elv) ∈ rest
  mt : (lt, PySem.W.listOf (vals tv).toArray etv) ∈ rest
  lvm : lv.map (·.1) = toI (lay ds t)
  tvm : tv.map (·.1) = toI (lay ds (t + 1))
  dat : DatAll Ls vs ((List.range t).map fun t => Dat.list ((rnd ds t).map Dat.int))
  ls : ∀ q ∈ Ls, q ∈ rest
  fs : ∀ q ∈ F, q ∈ rest
  lt_ : ∀ t' < t, lay ds (t' + 1) ≠ lay ds t'
  tn : t + (lay ds t).length ≤ ds.length
theorem cnt_of {h₀ h : Heap} {L : Addr} {a : Addr} {xs : Array Value} {n : Nat} {l : List (Addr × Obj)} (_N : News h₀ L h ((a, PySem.W.listOf xs n) :: l)) : ∃ r : Nat, r = n := ⟨n, rfl⟩
theorem ne_nil_dat (l : List Nat) (i : Decidable ((toI l).map Dat.int = [])) : (!@decide _ i) = decide (l ≠ []) := by
  cases l with
  | nil =>
    rw [@decide_eq_true _ i (by rfl)]
    rfl
  | cons x l =>
    rw [@decide_eq_false _ i (by intro h; unfold toI at h; simp at h)]
    rfl
theorem ne_toI (a b : List Nat) (i : Decidable ((toI a).map Dat.int = (toI b).map Dat.int)) : (!@decide _ i) = decide (a ≠ b) := by
  by_cases h : a = b
  · rw [@decide_eq_true _ i (by rw [h]), decide_eq_false (fun q => q h)]
    rfl
  · rw [@decide_eq_false _ i (fun q => h (toI_inj (dats_inj q))), decide_eq_true h]
    rfl

end
theorem reset64due : True := by
  k_with_none
  w_top off
  try (walk1; fail)
  exact True.intro
section
open PyProof
open PyProof.Rows.LCg PyProof.Rows.LCt
local macro_rules | `(tactic| walk_at "call builtin:len") => `(tactic| refine halt ?_)
theorem seg_step {ds : List Int} {t : Nat} (h : t < ds.length) : segval ds t ds.length = ds[t] + 65536 * segval ds (t + 1) ds.length := by
  rw [seg_split ds (l := t) (k := t + 1) (r := ds.length) (Nat.le_succ _) h (Nat.le_refl _), seg_one ds h]
  have : t + 1 - t = 1 := by omega
  rw [this]; rfl
theorem seg_pos {ds : List Int} (hne : ds ≠ []) (hlast : ds.getLast hne ≠ 0) (hds : ∀ x ∈ ds, 0 ≤ x ∧ x < 65536) {t : Nat} (h : t < ds.length) : 0 < segval ds t ds.length := by
  have hl : ds.length - 1 < ds.length := by omega
  rw [seg_split ds (l := t) (k := ds.length - 1) (r := ds.length) (by omega) (by omega) (Nat.le_refl _)]
  have h1 := (seg_bound ds hds t (ds.length - 1) (by omega)).1
  have h2 : segval ds (ds.length - 1) ds.length = ds[ds.length - 1] := by
    have := seg_one ds hl
    rwa [show ds.length - 1 + 1 = ds.length by omega] at this
  have h3 : ds[ds.length - 1] = ds.getLast hne := (List.getLast_eq_getElem hne).symm
  have h4 := hds _ (List.getElem_mem hl)
  have h5 : 0 < ds[ds.length - 1] := by
    rw [h3] at h4 ⊢
    omega
  rw [h2]
  have h6 : (0 : Int) < 65536 ^ (ds.length - 1 - t) := Int.pow_pos (by decide)
  have := Int.mul_pos h6 h5
  omega
theorem seg_end (ds : List Int) : segval ds ds.length ds.length = 0 := by unfold segval; simp
theorem fr_same {h₀ h : Heap} {L : Addr} {a : Str} {x z : Option Value} {n : Str → Option Value} (F : Fr h₀ L h (fun y => if y = a then x else if y = a then z else n y)) : Fr h₀ L h (fun y => if y = a then x else n y) := by
  have : (fun y => if y = a then x else if y = a then z else n y) = (fun y => if y = a then x else n y) := by
    funext y
    by_cases e : y = a
    · rw [if_pos e, if_pos e]
    · rw [if_neg e, if_neg e, if_neg e]
  rw [← this]; exact F
theorem vals_push (mv : List (Int × Tok)) (x : Int) (t : Tok) : (vals mv).toArray.push (.int x t) = (vals (mv ++ [(x, t)])).toArray := by simp [vals]
theorem nd_new {l : List (Addr × Obj)} {a : Addr} {o : Obj} (h : (l.map (·.1)).Nodup) (hl : AllLt a l) : (((a, o) :: l).map (·.1)).Nodup := by
  rw [List.map_cons, List.nodup_cons]
  refine ⟨fun hm => ?_, h⟩
  obtain ⟨q, hq, e⟩ := List.mem_map.mp hm
  have := allLt_get hl hq
  rw [e] at this
  exact absurd this (Nat.lt_irrefl _)
theorem allLtM {l : List (Addr × Obj)} {a : Addr} (h : ∀ p ∈ l, @LT.lt Nat _ p.1 a) : AllLt a l := by
  induction l with
  | nil => trivial
  | cons x l ih => exact ⟨h x (.head _), ih fun p hp => h p (.tail _ hp)⟩
theorem nd_set {pre post : List (Addr × Obj)} {a : Addr} {o o' : Obj} (h : ((pre ++ (a, o) :: post).map (·.1)).Nodup) : ((pre ++ (a, o') :: post).map (·.1)).Nodup := by
  simpa using h
section
variable {w : World} {A₀ : Around} {base h₀ : Heap} {env : Env} {outer : List Env} {L : Addr} {m mg mb : Str → Option Value} {p : Program} {loose : List Str} {mean : ExcName → Option Value} {s : Shared} {R : Result → Shared → Prop} {F : List (Addr × Obj)}
set_option maxHeartbeats 4000000 in
/-- THE CONTRACT of _law_due -/
inductive UJ1 (s : Shared) (g' : Heap) (L' ml : Addr) (B : List (Addr × Obj)) (ds : List Int) (s' : Shared) : Prop
  | mk (h : Heap) (tk : Tok) (m : Str → Option Value) (mv : List (Int × Tok)) (e : Nat) (h1 : s' = { s with heap := h, toks := tk }) (h2 : Fr g' L' h m) (h3 : News g' L' h ((ml, PySem.W.listOf (vals mv).toArray e) :: B)) (h4 : mv.map (·.1) = ds) : UJ1 s g' L' ml B ds s'
inductive UJ2 (s : Shared) (g' : Heap) (L' : Addr) (ds : List Int) (F : List (Addr × Obj)) (rl ml c1 c2 c3 : Addr) (o3 : Obj) (mv : List (Int × Tok)) (em : Nat) (s' : Shared) : Prop
  | mk (t : Nat) (h : Heap) (tk : Tok) (m : Str → Option Value) (lf lt : Addr) (vs : List Value) (e : Nat) (lv tv : List (Int × Tok)) (elv etv : Nat) (o1 o2 : Obj) (rest Ls : List (Addr × Obj)) (h1 : s' = { s with heap := h, toks := tk }) (d : DInv g' L' ds F rl ml c1 c2 c3 o3 mv em t h m lf lt vs e lv tv elv etv o1 o2 rest Ls) (h2 : lay ds (t + 1) = lay ds t) : UJ2 s g' L' ds F rl ml c1 c2 c3 o3 mv em s'
inductive UJ3 (s : Shared) (g' : Heap) (L' : Addr) (ds : List Int) (F : List (Addr × Obj)) (rl ml c1 c2 c3 : Addr) (o3 : Obj) (mv : List (Int × Tok)) (em : Nat) (n : Nat) (s' : Shared) : Prop
  | mk (t : Nat) (h : Heap) (tk : Tok) (m : Str → Option Value) (lf lt : Addr) (vs : List Value) (e : Nat) (lv tv : List (Int × Tok)) (elv etv : Nat) (o1 o2 : Obj) (rest Ls : List (Addr × Obj)) (h1 : s' = { s with heap := h, toks := tk }) (d : DInv g' L' ds F rl ml c1 c2 c3 o3 mv em t h m lf lt vs e lv tv elv etv o1 o2 rest Ls) (h2 : n = (lay ds t).length) : UJ3 s g' L' ds F rl ml c1 c2 c3 o3 mv em n s'
inductive UJ4 (s : Shared) (g' : Heap) (L' ml : Addr) (B : List (Addr × Obj)) (ds : List Int) (n : Nat) (s' : Shared) : Prop
  | mk (t : Nat) (h : Heap) (tk nt : Tok) (mv : List (Int × Tok)) (e : Nat) (h0 : n = ds.length - t) (ht : t ≤ ds.length) (h1 : s' = { s with heap := h, toks := tk }) (h2 : Fr g' L' h (fun y => if y = Str.ofString "number" then some (.int (segval ds t ds.length) nt) else none))
      (h3 : News g' L' h ((ml, PySem.W.listOf (vals mv).toArray e) :: B)) (h4 : mv.map (·.1) = ds.take t) : UJ4 s g' L' ml B ds n s'
theorem due_ok {A : Around} (B : Below A₀ base outer h₀) (F₀ : Fr h₀ L s.heap m) (X₀ : (Mine.hd.heap_39 w.params).In h₀) (N : News h₀ L s.heap F) (T : Top p loose mean mg mb h₀) (hA : A.frames = some (env :: outer)) (hh : A.handled = none) (hf : env.frame = some L) (hke : env.scope.kind = .function) (hroom : A.depth < 500) (hu : A.units < 5000)
    {ds : List Int} (hne : ds ≠ []) (hlast : ds.getLast hne ≠ 0) (hFn : (F.map (·.1)).Nodup) (hlen : ds.length ≤ 9) (hds : ∀ x ∈ ds, 0 ≤ x ∧ x < 65536) {nt : Tok}
    (hR : ∀ h' tk' F₁ v, Fr h₀ L h' m → News h₀ L h' (F₁ ++ F) → Res ds F₁ v → R (.ok (.ret v)) { s with heap := h', toks := tk' }) :
    codeAny (model PR w) A (.call (.ref 212) ⟨[.int (segval ds 0 ds.length) nt], []⟩) R s := by
  obtain ⟨hd, d, fr, gs, u⟩ := A
  dsimp only at hA hh hroom hu
  subst hA hh
  refine' code_defC B F₀ X₀ N T rfl hf hke ?k6 ?k7 ?k8 ?k9 ?kB ?kD ?_ ?c2 ?c3 ?c4
  case k6 => k_is
  case k7 => k_is
  case k8 => k_room
  case k9 => exact BindsTo.of_eq rfl
  case kB => exact rfl
  case kD => decide +kernel
  case c2 => exact rfl
  case c3 => exact rfl
  case c4 => exact rfl
  intro g' L' h' tk' cells' FG' F' N' Y' B' X' T' l1
  have hY := CellsAre.three Y'
  obtain ⟨o1, o2, o3, hE', d1, d2, d3⟩ := hY
  subst hE'
  clear Y'
  simp only [List.cons_append, List.nil_append] at N'
  (try k_fold)
  clear F₀ N
  k_with_none
  k_with "storeName" => refine halt ?_
  w_strict k_steps
  rename News g' L' _ _ => N1
  rename Fr g' L' _ _ => F1
  rename _ ∧ _ ∧ _ ∧ AllLt _ F => la
  refine unhalt ?_
  replace d1 : o1.data = .cell none := d1
  replace d2 : o2.data = .cell none := d2
  replace d3 : o3.data = .cell none := d3
  have nF : AllLt L' F := allLtM l1
  have nd0 : (((L' + 1, o3) :: F).map (·.1)).Nodup := nd_new hFn (allLtM fun q hq => Nat.lt_succ_of_lt (l1 q hq))
  have nd1 : (((L' + 1 + 1, o2) :: (L' + 1, o3) :: F).map (·.1)).Nodup := nd_new nd0 ⟨Nat.lt_succ_self _, allLtM fun q hq => Nat.lt_succ_of_lt (Nat.lt_succ_of_lt (l1 q hq))⟩
  have nd2 : (((L' + 1 + 1 + 1, o1) :: (L' + 1 + 1, o2) :: (L' + 1, o3) :: F).map (·.1)).Nodup := nd_new nd1 ⟨Nat.lt_succ_self _, Nat.lt_succ_of_lt (Nat.lt_succ_self _), allLtM fun q hq => Nat.lt_succ_of_lt (Nat.lt_succ_of_lt (Nat.lt_succ_of_lt (l1 q hq)))⟩
  obtain ⟨ml, hml⟩ := addr_of N1
  subst hml
  have nd3 := nd_new (o := PySem.W.listOf #[] 0) nd2 la
  clear nd0 nd1 nd2 la
  refine storeX_C F1 N1 (by exact rfl) (UpdF.nd (pre := [(ml, _), (L' + 1 + 1 + 1, o1), (L' + 1 + 1, o2)]) nd3) d3 ?_
  intro h2 o3' F2 N2 d3'
  clear F1 N1 d3
  replace nd3 := nd_set (pre := [(ml, _), (L' + 1 + 1 + 1, o1), (L' + 1 + 1, o2)]) (o' := o3') nd3
  simp only [List.cons_append, List.nil_append] at N2 nd3
  replace F2 : Fr g' L' h2 (fun y => if y = Str.ofString "number" then some (.int (segval ds 0 ds.length) nt) else none) := F2
  k_with_none
  k_with "exec While" => refine halt ?_
  w_strict k_steps
  refine unhalt ?_
  refine cut_next (UJ1 s g' L' ml ((L' + 1 + 1 + 1, o1) :: (L' + 1 + 1, o2) :: (L' + 1, o3') :: F) ds) ?tail ?whl
  case tail =>
    rintro s' ⟨h3, tk3, m3, mv, e3, rfl, F3, N3, hmv⟩
    clear F2 N2
    have hml : mv.length = ds.length := by rw [← hmv, List.length_map]
    k_with_none
    k_with "storeName" => refine halt ?_
    dsimp only
    w_strict k_steps
    refine unhalt ?_
    refine kun_lenL (News.isList (items := (vals mv).toArray) N3 (.head _)) (k := (mv.length : Int)) (vals_size _) (by omega) ?_
    rw [hml]
    k_with_none
    k_with "storeName" => refine halt ?_
    w_strict k_steps
    rename News g' L' _ _ => N4
    rename Fr g' L' _ _ => F4
    rename IntsAre _ _ => hI4
    rename _ ∧ _ ∧ _ ∧ _ ∧ AllLt _ F => la4
    refine unhalt ?_
    obtain ⟨lv, hvs, hlv⟩ := ints_split hI4
    subst hvs
    obtain ⟨lf, hlf⟩ := addr_of N4
    subst hlf
    obtain ⟨cv, hcv⟩ := cnt_of N4
    subst hcv
    have nd4 := nd_new (o := PySem.W.listOf (vals lv).toArray cv) nd3 la4
    refine storeX_C F4 N4 (by exact rfl) (UpdF.nd (pre := [(lf, _), (ml, _), (L' + 1 + 1 + 1, o1)]) nd4) d2 ?_
    intro h5 o2' F5 N5 d2'
    clear F4 N4 hI4 la4 d2
    (try clear F3); (try clear N3)
    simp only [List.cons_append, List.nil_append] at N5
    k_with_none
    k_with "eval ListComp" => refine halt ?_
    k_with "exec Assign cons ListComp" => refine halt ?_
    w_strict k_steps
    rename News g' L' _ _ => N6
    rename Fr g' L' _ _ => F6
    rename _ ∧ _ ∧ _ ∧ _ ∧ _ ∧ AllLt _ F => la6
    refine unhalt ?_
    obtain ⟨rl, hrl⟩ := addr_of N6
    subst hrl
    have nd5 := nd_set (pre := [(lf, _), (ml, _), (L' + 1 + 1 + 1, o1)]) (o' := o2') nd4
    have nd6 := nd_new (o := PySem.W.listOf #[] 0) nd5 la6
    have hu2 : u + 3 + 64 < cLine := by show u + 3 + 64 < 9900; omega
    have hds' : ∀ x ∈ mv, 0 ≤ x.1 ∧ x.1 < 65536 := fun x hx => hds x.1 (hmv ▸ List.mem_map_of_mem hx)
    have hlv' : lv.map (·.1) = toI (lay ds 0) := by
      rw [hlv]
      unfold toI rangeKs lay
      simp
    have hll : lv.length = ds.length := by rw [← List.length_map (f := (·.1)), hlv']; simp [toI, lay]
    have hlr : ∀ x ∈ lv, 0 ≤ x.1 ∧ x.1 < mv.length := by
      intro x hx
      have := List.mem_map_of_mem (f := (·.1)) hx
      rw [hlv'] at this
      obtain ⟨k, hk, e⟩ := List.mem_map.mp this
      have := lay_lt hk

      omega
    refine wpAny_Assign_Name ?_ (by with_unfolding_all rfl)
    refine later_X ?_
    refine later_ok _ rfl hu2 rfl (by exact rfl) (by exact rfl) (by exact rfl) (by exact rfl) F6 N6 (.tail _ (.tail _ (.tail _ (.tail _ (.head _))))) d2' (.tail _ (.tail _ (.tail _ (.tail _ (.tail _ (.head _)))))) d3' (.tail _ (.head _)) (.tail _ (.tail _ (.head _))) hds' hlr (by omega) (by omega) ?_
    intro lt h7 tk7 tv F7 N7 off7 htv
    have nd7 := nd_off (o := PyProof.Rows.LCg.lst (vals tv)) nd6 (off1_mem off7)
    rw [hlv', hmv, later_law] at htv
    k_with_none
    refine storeX_C F7 N7 (by exact rfl) (UpdF.nd (pre := [(lt, _), (rl, _), (lf, _), (ml, _)]) nd7) d1 ?_
    intro h8 o1' F8 N8 d1'
    clear F7 N7 F6 N6 d1 off7 la6
    (try clear F5); (try clear N5)
    simp only [List.cons_append, List.nil_append] at N8
    have hsep : ∀ p ∈ [(lt, PyProof.Rows.LCg.lst (vals tv)), (lf, PySem.W.listOf (vals lv).toArray cv), (ml, PySem.W.listOf (vals mv).toArray e3), (L' + 1, o3')] ++ F, p.1 ≠ rl ∧ p.1 ≠ L' + 1 + 1 + 1 ∧ p.1 ≠ L' + 1 + 1 := by
      intro p hp
      refine (sep7 nd7).2 p.1 ?_
      have := List.mem_map_of_mem (f := (·.1)) hp
      rw [List.map_append] at this
      exact this
    generalize hrs : [(lt, PyProof.Rows.LCg.lst (vals tv)), (lf, PySem.W.listOf (vals lv).toArray cv), (ml, PySem.W.listOf (vals mv).toArray e3), (L' + 1, o3')] ++ F = rest at hsep
    have inR : ∀ q, q ∈ rest ↔ q ∈ [(lt, PyProof.Rows.LCg.lst (vals tv)), (lf, PySem.W.listOf (vals lv).toArray cv), (ml, PySem.W.listOf (vals mv).toArray e3), (L' + 1, o3')] ++ F := fun q => by rw [hrs]
    have N9 : News g' L' h8 ((rl, PySem.W.listOf #[] 0) :: (L' + 1 + 1 + 1, o1') :: (L' + 1 + 1, o2') :: rest) := by
      intro q hq
      refine N8 q ?_
      rcases List.mem_cons.mp hq with h | hq
      · exact h ▸ .tail _ (.head _)
      rcases List.mem_cons.mp hq with h | hq
      · exact h ▸ .tail _ (.tail _ (.tail _ (.tail _ (.head _))))
      rcases List.mem_cons.mp hq with h | hq
      · exact h ▸ .tail _ (.tail _ (.tail _ (.tail _ (.tail _ (.head _)))))
      have := (inR q).mp hq
      simp only [List.cons_append, List.nil_append, List.mem_cons] at this ⊢
      rcases this with h | h | h | h | h
      · exact .inl h
      · exact .inr (.inr (.inl h))
      · exact .inr (.inr (.inr (.inl h)))
      · exact .inr (.inr (.inr (.inr (.inr (.inr (.inl h))))))
      · exact .inr (.inr (.inr (.inr (.inr (.inr (.inr h))))))
    have D0 : DInv g' L' ds F rl ml (L' + 1 + 1 + 1) (L' + 1 + 1) (L' + 1) o3' mv e3 0 h8 _ lf lt [] 0 lv tv cv (vals tv).length o1' o2' rest [] :=
      ⟨F8, rfl, N9, (sep7 nd7).1, hsep, d1', d2', (inR _).mpr (.tail _ (.tail _ (.tail _ (.head _)))), (inR _).mpr (.tail _ (.tail _ (.head _))), (inR _).mpr (.tail _ (.head _)), (inR _).mpr (.head _), hlv', htv, .nil, fun _ h => (nomatch h), fun q hq => (inR q).mpr (.tail _ (.tail _ (.tail _ (.tail _ hq)))), fun t' h => absurd h (Nat.not_lt_zero _), by simp [lay]⟩
    clear N8 N9 F8 inR hrs hsep nd7 nd6 nd5 nd4 nd3
    clear d1' d2' hlv' htv hll hlr
    dsimp only
    k_with_none
    k_with "exec While" => refine halt ?_
    w_strict k_steps
    refine unhalt ?_
    refine cut_next (UJ2 s g' L' ds F rl ml (L' + 1 + 1 + 1) (L' + 1 + 1) (L' + 1) o3' mv e3) ?ztail ?zwhl
    case ztail =>
      rintro s' ⟨t, h9, tk9, m9, lf9, lt9, vs, e9, lv9, tv9, elv, etv, o19, o29, rest9, Ls, rfl, D9, hfix⟩
      obtain ⟨fr, hr, nw, nn, sep, d1, d2, m3, mm, ml_, mt, lvm, tvm, dat, ls, fs, lt_, tn⟩ := D9
      have fr2 := frm1 fr hr
      clear fr
      have inN : ∀ q ∈ rest9, q ∈ (rl, PySem.W.listOf vs.toArray e9) :: (L' + 1 + 1 + 1, o19) :: (L' + 1 + 1, o29) :: rest9 := fun q h => .tail _ (.tail _ (.tail _ h))
      k_with_none
      k_with "eval Name" => (k_dflt (first
        | refine nameX_C nw (by exact rfl) (inN _ m3) d3' ?_
        | refine nameX_C nw (by exact rfl) (.tail _ (.tail _ (.head _))) d2 ?_
        | refine nameX_L fr2 (by exact rfl) ?_))
      k_with "newList" => (k_dflt (refine newList_K fr2 nw ?_; intro l2 h11 F11 N11 l11))
      k_with "compareOp NotEq ref ref" => refine halt ?_
      w_strict k_steps
      refine unhalt ?_
      have hu2 : u + 3 + 64 < cLine := by show u + 3 + 64 < 9900; omega
      refine kqd_ne N11 (.tail _ (inN _ ml_)) rfl rfl (ints_dat (L := []) (ints_vals lv9)) (fun _ h => nomatch h) (.head _) rfl rfl (DatAll.nil (news := [])) (fun _ h => nomatch h) ?oka (fun _ h => nomatch h) hu2 ?_
      case oka =>
        intro dd hd
        obtain ⟨z, _, rfl⟩ := List.mem_map.mp hd
        rfl
      rw [lvm, ne_nil_dat]
      k_with_none
      k_with "eval Name" => (k_dflt (refine nameX_L F11 (by exact rfl) ?_))
      k_with "newList" => (k_dflt (refine newList_K F11 N11 ?_; intro l3 h12 F12 N12 l12))
      w_strict k_steps
      rename News h₀ L _ _ => NE
      rename Fr h₀ L _ _ => FE
      obtain ⟨F₁, n1, n2⟩ := told_end NE rfl hfix lt_ (.tail _ (.head _)) (.tail _ (inN _ mm)) (fun q h => .tail _ (inN _ (ls q h))) (fun q h => .tail _ (inN _ (fs q h))) hmv dat
      exact hR _ _ F₁ _ FE n1 n2
    case zwhl =>
      refine while_ind (n := (lay ds 0).length) (UJ3 s g' L' ds F rl ml (L' + 1 + 1 + 1) (L' + 1 + 1) (L' + 1) o3' mv e3) ?wstart ?wturn ?wpass
      case wpass => passes_own
      case wstart => exact ⟨0, _, _, _, _, _, _, _, _, _, _, _, _, _, _, _, rfl, D0, rfl⟩
      case wturn =>
        clear D0
        rintro n s' ⟨t, h9, tk9, m9, lf9, lt9, vs, e9, lv9, tv9, elv, etv, o19, o29, rest9, Ls, rfl, D9, rfl⟩
        have D9' := D9
        obtain ⟨fr, hr, nw, nn, sep, d1, d2, m3, mm, ml_, mt, lvm, tvm, dat, ls, fs, lt_, tn⟩ := D9
        have fr2 := frm1 fr hr
        clear fr
        have inN : ∀ q ∈ rest9, q ∈ (rl, PySem.W.listOf vs.toArray e9) :: (L' + 1 + 1 + 1, o19) :: (L' + 1 + 1, o29) :: rest9 := fun q h => .tail _ (.tail _ (.tail _ h))
        have hu2 : u + 3 + 64 < cLine := by show u + 3 + 64 < 9900; omega
        have okd : ∀ xs : List (Int × Tok), ∀ d ∈ (xs.map (·.1)).map Dat.int, kqdOk 8 d = true := by
          intro xs dd hd
          obtain ⟨z, _, rfl⟩ := List.mem_map.mp hd
          rfl
        k_with_none
        k_with "eval Name" => (k_dflt (first
          | refine nameX_C nw (by exact rfl) (.tail _ (.head _)) d1 ?_
          | refine nameX_C nw (by exact rfl) (.tail _ (.tail _ (.head _))) d2 ?_))
        k_with "compareOp NotEq ref ref" => refine halt ?_
        w_strict k_steps
        refine unhalt ?_
        refine kqd_ne nw (inN _ mt) rfl rfl (ints_dat (L := []) (ints_vals tv9)) (fun _ h => nomatch h) (inN _ ml_) rfl rfl (ints_dat (L := []) (ints_vals lv9)) (fun _ h => nomatch h) (okd _) (okd _) hu2 ?_
        rw [lvm, tvm, ne_toI]
        by_cases hfix : lay ds (t + 1) = lay ds t
        · rw [decide_eq_false (fun q => q hfix)]
          k_with_none
          w_strict k_steps
          exact ⟨rfl, _, _, _, _, _, _, _, _, _, _, _, _, _, _, _, _, rfl, D9', hfix⟩
        · rw [decide_eq_true hfix]
          k_with_none
          k_with "eval ListComp" => refine halt ?_
          k_with "exec Assign cons ListComp" => refine halt ?_
          w_strict k_steps
          refine unhalt ?_
          refine gone_X ?_
          have hl9 : lv9.length ≤ 9 := by
            have h1 := congrArg List.length lvm
            have h2 := (lay_sl ds t).length_le
            rw [List.length_map] at h1
            unfold toI at h1
            rw [List.length_map] at h1
            rw [List.length_range] at h2
            omega
          refine gone_ok _ rfl hu2 rfl (by exact rfl) (by exact rfl) (by exact rfl) (by exact rfl) fr2 nw (.tail _ (.tail _ (.head _))) d2 (.tail _ (.head _)) d1 (inN _ ml_) (inN _ mt) hl9 ?_
          intro Dg h10 tk10 xg F10 N10 off10 hxg
          rw [lvm, tvm, gone_law] at hxg
          have hvl : vs.length = t := by rw [dat.length, List.length_map, List.length_range]
          have o10 := off1_mem off10
          k_with_none
          k_with "call builtin:list.append" => refine halt ?_
          w_strict k_steps
          refine unhalt ?_
          refine append_K F10 N10 (Upd.mid (pre := [(Dg, _)]) (fun p hp => by rw [List.mem_singleton.mp hp]; exact fun q => o10 _ (.head _) q.symm) (fun p hp => ?_)) ?_ (by rw [sizeLine_eq, List.size_toArray, hvl]; omega)
          · rcases List.mem_cons.mp hp with rfl | hp
            · exact nn.1.symm
            rcases List.mem_cons.mp hp with rfl | hp
            · exact nn.2.1.symm
            · exact (sep p hp).1
          intro h11 F11 N11
          have hpu : vs.toArray.push (.ref Dg) = (vs ++ [Value.ref Dg]).toArray := by simp
          rw [hpu] at N11
          clear F10 N10
          simp only [List.cons_append, List.nil_append] at N11
          k_with_none
          k_with "eval Name" => (k_dflt (refine nameX_C N11 (by exact rfl) (.tail _ (.tail _ (.head _))) d1 ?_))
          k_with "storeName" => refine halt ?_
          w_strict k_steps
          refine unhalt ?_
          have nDr : Dg ≠ rl := fun q => o10 _ (.head _) q.symm
          have nDc1 : Dg ≠ L' + 1 + 1 + 1 := fun q => o10 _ (.tail _ (.head _)) q.symm
          have nDc2 : Dg ≠ L' + 1 + 1 := fun q => o10 _ (.tail _ (.tail _ (.head _))) q.symm
          have oDr : ∀ p ∈ rest9, p.1 ≠ Dg := fun p hp => o10 p (inN p hp)
          refine storeX_C F11 N11 (by exact rfl) (UpdF.tail nDc2 (UpdF.tail nn.2.1 (UpdF.tail nn.2.2 (UpdF.head (fun p hp => (sep p hp).2.2))))) d2 ?_
          intro h12 o2n F12 N12 d2n
          clear F11 N11
          have hmm : mv.length = ds.length := hml
          have htl : ∀ x ∈ tv9, 0 ≤ x.1 ∧ x.1 < mv.length := by
            intro x hx
            have := List.mem_map_of_mem (f := (·.1)) hx
            rw [tvm] at this
            obtain ⟨k, hk, e⟩ := List.mem_map.mp this
            have := lay_lt hk
            omega
          have ht9 : tv9.length ≤ 9 := by
            have h1 := congrArg List.length tvm
            have h2 := (lay_sl ds (t + 1)).length_le
            rw [List.length_map] at h1
            unfold toI at h1
            rw [List.length_map] at h1
            rw [List.length_range] at h2
            omega
          have inN2 : ∀ q ∈ rest9, q ∈ (Dg, PyProof.Rows.LCg.lst (vals xg)) :: (rl, PySem.W.listOf (vs ++ [Value.ref Dg]).toArray (e9 + 1)) :: (L' + 1 + 1 + 1, o19) :: (L' + 1 + 1, o2n) :: rest9 := fun q h => .tail _ (.tail _ (.tail _ (.tail _ h)))
          k_with_none
          k_with "exec Assign cons ListComp" => refine halt ?_
          dsimp only
          w_strict k_steps
          refine unhalt ?_
          refine wpAny_Assign_Name ?_ (by with_unfolding_all rfl)
          refine later_X ?_
          refine later_ok _ rfl hu2 rfl (by exact rfl) (by exact rfl) (by exact rfl) (by exact rfl) F12 N12 (.tail _ (.tail _ (.tail _ (.head _)))) d2n (inN2 _ m3) d3' (inN2 _ mt) (inN2 _ mm) hds' htl (by omega) ht9 ?_
          intro D2 h13 tk13 x2 F13 N13 off13 hx2
          clear F12 N12
          rw [tvm, hmv, later_law] at hx2
          have o13 := off1_mem off13
          have nE : D2 ≠ Dg := fun q => o13 _ (.head _) q.symm
          have nEr : D2 ≠ rl := fun q => o13 _ (.tail _ (.head _)) q.symm
          have nE1 : D2 ≠ L' + 1 + 1 + 1 := fun q => o13 _ (.tail _ (.tail _ (.head _))) q.symm
          have nE2 : D2 ≠ L' + 1 + 1 := fun q => o13 _ (.tail _ (.tail _ (.tail _ (.head _)))) q.symm
          refine storeX_C F13 N13 (by exact rfl) (UpdF.tail nE1 (UpdF.tail nDc1 (UpdF.tail nn.1 (UpdF.head (fun p hp => ?_))))) d1 ?_
          · rcases List.mem_cons.mp hp with rfl | hp
            · exact nn.2.2.symm
            · exact (sep p hp).2.1
          intro h14 o1n F14 N14 d1n
          clear F13 N13
          k_with_none
          dsimp only
          w_strict k_steps
          have hless := lay_less hfix
          refine ⟨(lay ds (t + 1)).length, hless, t + 1, _, _, _, lt9, D2, vs ++ [Value.ref Dg], e9 + 1, tv9, x2, etv, _, o1n, o2n, (D2, PyProof.Rows.LCg.lst (vals x2)) :: (Dg, PyProof.Rows.LCg.lst (vals xg)) :: rest9, (Dg, PyProof.Rows.LCg.lst (vals xg)) :: Ls, rfl,
            ⟨F14, by exact rfl, ?nwz, nn, ?sepz, d1n, d2n, .tail _ (.tail _ m3), .tail _ (.tail _ mm), .tail _ (.tail _ mt), .head _, tvm, hx2, ?datz, ?lsz, fun q hq => .tail _ (.tail _ (fs q hq)), ?ltz, by omega⟩, rfl⟩
          case nwz =>
            intro q hq
            refine N14 q ?_
            simp only [List.mem_cons] at hq ⊢
            rcases hq with h | h | h | h | h | h
            · exact .inr (.inr (.inl h))
            · exact .inr (.inr (.inr (.inl h)))
            · exact .inr (.inr (.inr (.inr (.inl h))))
            · exact .inl h
            · exact .inr (.inl h)
            · exact .inr (.inr (.inr (.inr (.inr h))))
          case sepz =>
            intro p hp
            rcases List.mem_cons.mp hp with rfl | hp
            · exact ⟨nEr, nE1, nE2⟩
            rcases List.mem_cons.mp hp with rfl | hp
            · exact ⟨nDr, nDc1, nDc2⟩
            · exact sep p hp
          case datz =>
            rw [List.range_succ, List.map_append]
            refine DatAll.append (dat.mono fun q hq => .tail _ hq) (DatAll.one (DatIn.list (.head _) ?_))
            rw [show rnd ds t = xg.map (·.1) from hxg.symm]
            exact ints_dat (ints_vals xg)
          case lsz =>
            intro q hq
            rcases List.mem_cons.mp hq with rfl | hq
            · exact .tail _ (.head _)
            · exact .tail _ (.tail _ (ls q hq))
          case ltz =>
            intro t' ht'
            by_cases q : t' = t
            · subst q; exact hfix
            · exact lt_ t' (by omega)
  case whl =>
    refine while_ind (n := ds.length) (UJ4 s g' L' ml ((L' + 1 + 1 + 1, o1) :: (L' + 1 + 1, o2) :: (L' + 1, o3') :: F) ds) ?wstart ?wturn ?wpass
    case wpass => passes_own
    case wstart => exact ⟨0, _, _, _, [], _, rfl, Nat.zero_le _, rfl, F2, N2, rfl⟩
    case wturn =>
      clear F2 N2
      rintro n s' ⟨t, h3, tk3, nt3, mv, e3, rfl, ht, rfl, F3, N3, hmv⟩
      have hml : mv.length = t := by
        have := congrArg List.length hmv
        rw [List.length_map, List.length_take] at this
        omega
      by_cases hlt : t < ds.length
      · have hpos := seg_pos hne hlast hds hlt
        have hstep := seg_step hlt
        generalize hv : segval ds t ds.length = v at *
        k_with_none
        k_with "WhlIf" => refine halt ?_
        w_strict k_steps
        refine unhalt ?_
        rw [decide_eq_true hpos]
        k_with_none
        k_with "call builtin:list.append" => (k_dflt (refine' append_K ?k1 ?k2 ?k3 ?_ ?z; (case k1 => k_asm); (case k2 => k_asm); (case k3 => exact Upd.nd (pre := []) nd3); (case z => rw [sizeLine_eq]; simp only [vals, List.size_toArray, List.length_map]; omega)); intro h8 F8 N8)
        w_strict k_steps
        rename News g' L' _ _ => N9
        rename Fr g' L' _ _ => F9
        rw [vals_push] at N9
        have hb := hds ds[t] (List.getElem_mem hlt)
        have hfd : Int.fdiv v 65536 = segval ds (t + 1) ds.length := by rw [Int.fdiv_eq_ediv_of_nonneg _ (by decide)]; omega
        have hfm : Int.fmod v 65536 = ds[t] := by rw [Int.fmod_eq_emod_of_nonneg _ (by decide)]; omega
        rw [hfm] at N9
        rw [hfd] at F9
        refine ⟨ds.length - (t + 1), by omega, t + 1, _, _, _, mv ++ [(ds[t], _)], _, rfl, by omega, rfl, fr_same F9, N9, ?_⟩
        rw [List.map_append, hmv, List.take_add_one, List.getElem?_eq_getElem hlt]
        rfl
      · have hv : segval ds t ds.length = 0 := by rw [show t = ds.length by omega]; exact seg_end ds
        rw [hv] at F3
        k_with_none
        w_strict k_steps
        exact ⟨rfl, _, _, _, mv, e3, rfl, F3, N3, by rw [hmv, List.take_of_length_le (by omega)]⟩
end

end
theorem reset70law : True := by
  k_with_none
  w_top off
  try (walk1; fail)
  exact True.intro
section
open PyProof
local macro_rules | `(tactic| walk_at "call builtin:len") => `(tactic| refine halt ?_)
local macro_rules | `(tactic| walk_at "callWith ref") => `(tactic| first | k_extra "callWith ref" | (k_here; k_dflt (first
  | (refine' callWith_K ?k1 ?k2 ?_; (case k1 => k_asm); (case k2 => k_is); k_whole)
  | (refine' callWith_K0 ?k1 ?k2 ?_; (case k1 => exact Frag.In.keeps (by k_asm) (Fr.keep (by k_asm))); (case k2 => k_is); k_whole))))
theorem slice4 {vs : List Value} {ns : List Int} (h : IntsAre vs ns) : IntsAre (slicePick vs.toArray none (some 4) none).toList (ns.take 4) := by
  have e : slicePick vs.toArray none (some 4) none = (vs.take 4).toArray := by
    rw [kmk_pick_nat vs.toArray (a := 0) (b := min 4 vs.length) (by unfold sliceBounds; simp; omega)]
    simp
  rw [e]
  show IntsAre (vs.take 4) (ns.take 4)
  clear e
  generalize 4 = k
  induction h generalizing k with
  | nil => simp; exact .nil
  | cons n t _ ih =>
    cases k with
    | zero => exact .nil
    | succ k => exact .cons n t (ih k)
theorem drawn_ok (ns : List Int) : ([32896, 2080, 288, 4096, 32768] ++ ((ns.take 4).filter fun _ => true).map fun a => Int.fmod a 65536).length ≤ 9 ∧ ([32896, 2080, 288, 4096, 32768] ++ ((ns.take 4).filter fun _ => true).map fun a => Int.fmod a 65536) ≠ [] ∧
    (∀ x ∈ ([32896, 2080, 288, 4096, 32768] ++ ((ns.take 4).filter fun _ => true).map fun a => Int.fmod a 65536 : List Int), 0 ≤ x ∧ x < 65536) ∧ ∃ x ∈ ([32896, 2080, 288, 4096, 32768] ++ ((ns.take 4).filter fun _ => true).map fun a => Int.fmod a 65536 : List Int), x ≠ 0 := by
  refine ⟨?_, by simp, ?_, 32896, by simp, by decide⟩
  · have : ((ns.take 4).filter fun _ => true).length ≤ 4 := Nat.le_trans (List.length_filter_le _ _) (by rw [List.length_take]; omega)
    rw [List.length_append, List.length_map]
    simp only [List.length_cons, List.length_nil]
    omega
  · intro x hx
    rcases List.mem_append.mp hx with h | h
    · simp only [List.mem_cons, List.not_mem_nil, or_false] at h
      omega
    · obtain ⟨y, _, rfl⟩ := List.mem_map.mp h
      rw [Int.fmod_eq_emod_of_nonneg _ (by decide)]
      omega
theorem law_news {h₀ h : Heap} {L : Addr} {a b c x y z : Addr × Obj} (N : News h₀ L h [a, x, y, b, c, z]) : News h₀ L h [a, z, c, b] := by
  intro q hq
  refine N q ?_
  simp only [List.mem_cons, List.not_mem_nil, or_false] at hq ⊢
  rcases hq with h | h | h | h
  · exact .inl h
  · exact .inr (.inr (.inr (.inr (.inr h))))
  · exact .inr (.inr (.inr (.inr (.inl h))))
  · exact .inr (.inr (.inr (.inl h)))
section
open PyProof.Rows.LCg
variable {prog : Program} {w : World} {A : Around} {s : Shared} {h₀ : Heap} {L : Addr} {m : Str → Option Value} {env : Env} {elt : PySem.Expr} {x : Str} {scope : Scope} {cl : List (Str × Addr)} {S : List (Addr × Obj) → Prop} {P : Nat → Value → Prop} {Fin : List Value → List (Addr × Obj) → Prop} {n : Nat}
theorem compU_ind (Inv : Nat → List Value → List (Addr × Obj) → Prop)
    (step : ∀ i ys news, i < n → Inv i ys news → ∀ v I oI C oC D m₂ h tk (E' : Value → Shared → Prop), P i v → NsObj oC m₂ → m₂ x = some v → Fr h₀ L h m → News h₀ L h ((I, oI) :: (C, oC) :: (D, lst ys) :: news) → Off3 I C D news → ((@Ne Nat I C) ∧ (@Ne Nat I D) ∧ (@Ne Nat C D)) →
      wpAny (model prog w) A (eval elt (compEnvC scope cl C env)) (CompEnd h₀ L m { s with heap := h, toks := tk } I oI C oC D (lst ys) S (fun y news' => Inv (i + 1) (ys ++ [y]) news')) E' { s with heap := h, toks := tk })
    (fin : ∀ ys news, Inv n ys news → Fin ys news) : ∀ k i ys news, k + i = n → Inv i ys news → CompRest prog w A h₀ L m env elt x scope cl s S P Fin k i ys news := by
  intro k
  induction k with
  | zero =>
    intro i ys news hk hi
    have : i = n := by omega
    subst this
    exact CompRest.zero (fin ys news hi)
  | succ k ih =>
    intro i ys news hk hi
    refine CompRest.succ fun v I oI C oC D m₂ h tk E' hP hN hx F N off ne => ?_
    exact wpAny_mono (step i ys news (by omega) hi v I oI C oC D m₂ h tk E' hP hN hx F N off ne) (fun y s₂ h₂ => compEnd_mono (fun y nw q => ih _ _ _ (by omega) q) h₂) fun _ _ e => e
end
theorem segval_all (dr : List Int) : segval dr 0 dr.length = dr.foldr (fun x a => x + 65536 * a) 0 := by
  unfold segval
  rw [Nat.sub_zero, List.drop_zero, List.take_length]
theorem sum_take (dr : List Int) : ∀ n, n ≤ dr.length → ((List.range n).map fun i => dr[i]?.getD 0 * 65536 ^ i).sum = (dr.take n).foldr (fun x a => x + 65536 * a) 0 := by
  intro n
  induction n with
  | zero => intro _; rfl
  | succ n ih =>
    intro h
    have hn : n < dr.length := h
    rw [List.range_succ, List.map_append, List.sum_append, ih (by omega), List.take_add_one, List.getElem?_eq_getElem hn, Option.toList_some, foldr_app, List.length_take, Nat.min_eq_left (by omega)]
    simp [hn, Int.mul_comm]
theorem sum_law (dr : List Int) : ((List.range dr.length).map fun i => dr[i]?.getD 0 * 65536 ^ i).sum = segval dr 0 dr.length := by
  rw [sum_take dr dr.length (Nat.le_refl _), segval_all, List.take_length]
/-- without the noughts at the high end -/
theorem strip_law : ∀ (n : Nat) (dr : List Int), dr.length = n → n ≤ 9 → (∀ x ∈ dr, 0 ≤ x ∧ x < 65536) → (∃ x ∈ dr, x ≠ 0) → ∃ (ds : List Int) (hne : ds ≠ []), ds.getLast hne ≠ 0 ∧ ds.length ≤ 9 ∧ (∀ x ∈ ds, 0 ≤ x ∧ x < 65536) ∧ segval dr 0 dr.length = segval ds 0 ds.length := by
  intro n
  induction n with
  | zero =>
    rintro dr h _ _ ⟨x, hx, _⟩
    rw [List.length_eq_zero_iff.mp h] at hx
    cases hx
  | succ n ih =>
    intro dr h h9 hb hx
    have hne : dr ≠ [] := by intro e; rw [e] at h; cases h
    by_cases hl : dr.getLast hne = 0
    · have e : dr = dr.dropLast ++ [0] := by rw [← hl, List.dropLast_concat_getLast hne]
      have h1 : dr.dropLast.length = n := by rw [List.length_dropLast, h]; rfl
      obtain ⟨ds, g1, g2, g3, g4, g5⟩ := ih dr.dropLast h1 (by omega) (fun x hx => hb x (List.dropLast_subset _ hx)) (by
        obtain ⟨x, hx, hx0⟩ := hx
        rw [e] at hx
        rcases List.mem_append.mp hx with hx | hx
        · exact ⟨x, hx, hx0⟩
        · exact absurd (List.mem_singleton.mp hx) hx0)
      refine ⟨ds, g1, g2, g3, g4, ?_⟩
      rw [← g5, segval_all, segval_all]
      conv => lhs; rw [e]
      rw [foldr_app]
      simp
    · exact ⟨dr, hne, hl, by omega, hb, rfl⟩
set_option maxHeartbeats 8000000 in
theorem law_done : PySem.Challenge.rw_nq0238_01.Holds := by
  refine holds_law hd.said fun _ => holds_open (r := hd.ro) (q := hd.view_39) (loose := hd.lo) (Xt := hd.xt) (XP := XL hd.view_39 hd.lv) (Yf := hd.hk.obs) (Ya := hd.hk.val) (YP := hd.hk.says) (N := 3342) hd.left hd.hk.of hd.hk.keeps
    (fun s e => xl_of s (Bool.and_eq_true_iff.mp e).1) XL.keeps (by rfl) (by rfl) (by rfl) (fun s e => recFacts_of (Bool.and_eq_true_iff.mp e).2) (by rfl) (row_said hd.said) (by decide +kernel) ⟨rfl, rfl, rfl, rfl, rfl, by decide +kernel⟩ ⟨[.list []], by decide +kernel, by decide +kernel⟩ ?_
  w_strict k_go0
  (all_goals try k_fold)
  rename World => w
  rename (Str → Option Value) => mb
  k_with_none
  k_with "subscriptTail Name Slice ref ref" => refine halt ?_
  w_strict k_steps
  w_top off
  refine unhalt ?_
  rename IntsAre _ _ => hI
  rename Below _ _ _ _ => B'
  rename Fr _ _ _ _ => F1
  rename News _ _ _ _ => N1
  rename _ ∧ _ ∧ _ => la1
  rename (¬ _ < _) => h63
  have hz : _ ≤ sizeLine := kmk_sz hI (by rw [sizeLine_eq]; omega)
  refine kmk_slice_ints (lo := none) (hi := some 4) F1 N1 (Fr.lst F1 lifted) IsPart.none (IsPart.int _ _) hI (slice4 hI) rfl ?_ (by with_unfolding_all rfl) (by intro _; with_unfolding_all rfl) hz
  intro D2 ws2 h2 F2 N2 l2 hI2 hC2 hL2
  k_with_none
  k_with "CompSrc" => refine halt ?_
  k_with "binaryOp Add ref ref" => refine halt ?_
  w_strict k_steps
  rename CarriedAll _ _ => hC
  rename Heap.IsList _ _ _ => hLD
  rename News _ _ _ _ => N3
  rename Fr _ _ _ _ => F3
  refine unhalt ?_
  have hIy := CarriedAll.intsOf (f := fun a => Int.fmod a 65536) hC
  refine kmk_add_ints (ns := [32896, 2080, 288, 4096, 32768]) F3 N3 (News.isList N3 (.tail _ (.head _))) hLD (.cons _ _ (.cons _ _ (.cons _ _ (.cons _ _ (.cons _ _ .nil))))) hIy ?_ ?hz9
  case hz9 =>
    rw [sizeLine_eq, List.length_map]
    have := List.length_filter_le (fun _ => true) (List.take 4 ‹List Int›)
    have h4 : ∀ l : List Int, ((l.take 4).filter fun _ => true).length ≤ 4 := fun l => Nat.le_trans (List.length_filter_le _ _) (by rw [List.length_take]; omega)
    have := h4 ‹List Int›
    simp only [List.length_cons, List.length_nil]
    omega
  intro Dr us h5 F5 N5 l5 hI5
  obtain ⟨hd1, hd2, hd3, hd4⟩ := drawn_ok ‹List Int›
  obtain ⟨dv, hus, hdv⟩ := ints_split hI5
  subst hus
  rw [← hdv] at hd1 hd2 hd3 hd4
  clear hI5 hIy hC hLD hdv hI2 hC2 hL2
  rename _ = Data.cell _ => dcell
  rename 23 < _ ∧ 30 < _ => l0
  rename Frag.In _ _ => X'
  rename Top _ _ _ _ _ _ => T'
  generalize hgg : ghostOf _ _ = g₀ at *
  generalize hLL : Array.size _ = L at *
  obtain ⟨m1, hm1⟩ : ∃ m, Fr g₀ L h5 m := ⟨_, F5⟩
  replace F5 := hm1
  rename 23 < L ∧ 30 < L => l0
  replace dcell : _ = Data.cell none := dcell
  have n1 : Dr ≠ L + 1 := Nat.ne_of_gt (l5 _ (.tail _ (.tail _ (.head _))))
  have n2 : Dr ≠ 30 := Nat.ne_of_gt (l5 _ (.tail _ (.tail _ (.tail _ (.tail _ (.head _))))))
  have n3 : Dr ≠ 23 := Nat.ne_of_gt (l5 _ (.tail _ (.tail _ (.tail _ (.head _)))))
  have n4 : (30 : Nat) ≠ L + 1 := by omega
  have n5 : (23 : Nat) ≠ L + 1 := by omega
  have N6 := law_news N5
  refine storeX_C F5 N6 (by exact rfl) (UpdF.tail n1 (UpdF.tail n4 (UpdF.tail n5 (UpdF.head (fun q hq => nomatch hq))))) dcell ?_
  intro h6 oc F6 N6 dc
  clear N5 F5
  k_with_none
  k_with "eval ListComp" => refine halt ?_
  dsimp only
  w_strict k_steps
  replace N6 := id N6
  replace F6 := id F6
  refine unhalt ?_
  refine PyProof.Rows.LCg.ListComp_U F6 (by with_unfolding_all rfl) (by decide) rfl (by decide) rfl ?_ (fun _ => rfl)
  have hdl : dv.length ≤ 9 := by rw [List.length_map] at hd1; exact hd1
  k_with_none
  w_strict k_steps
  refine unhalt ?_
  refine kun_lenL (News.isList (items := (vals dv).toArray) N6 (.head _)) (k := (dv.length : Int)) (vals_size _) (by omega) ?_
  k_with_none
  k_with "CompSrc" => refine halt ?_
  w_strict k_steps
  rename IsRange _ _ _ _ _ _ _ _ => hr6
  rename News _ _ _ _ => N7
  rename Fr _ _ _ _ => F7
  refine unhalt ?_
  refine PyProof.Rows.LCg.CompSrc.range (n := dv.length) rfl F7 N7 hr6 (small_one (by decide) (by decide) (by omega) (by omega)) (rangeSize_nat _ _) (by rw [sizeLine_eq]; omega) ?_
  intro g6
  refine compU_ind (n := dv.length) (fun j ys nw => nw = [(Dr, PySem.W.listOf (vals dv).toArray 0), (30, tabObj #[]), (23, tabObj #[]), (L + 1, oc)] ∧ ∃ xs, ys = vals xs ∧ xs.map (·.1) = (List.range j).map fun i => (dv.map (·.1))[i]?.getD 0 * 65536 ^ i) ?step ?fin _ 0 [] _ rfl ⟨rfl, [], rfl, rfl⟩
  case fin =>
    rintro ys nw ⟨rfl, xs, rfl, hxs⟩
    intro Ds h10 tk10 F10 N10 off10
    k_with_none
    k_with "call builtin:sum" => refine halt ?_
    w_strict k_steps
    refine unhalt ?_
    refine sumK rfl F10 N10 (News.isList (items := (vals xs).toArray) N10 (.head _)) (ints_vals xs) ?_
    intro h11 tk11 t11 F11 N11
    have hsum : (xs.map (·.1)).sum = segval (dv.map (·.1)) 0 (dv.map (·.1)).length := by
      rw [hxs, ← sum_law, List.length_map]
    rw [hsum]
    replace N11 : News g₀ L h11 [(Dr, PySem.W.listOf (vals dv).toArray 0), (30, tabObj #[]), (23, tabObj #[]), (L + 1, oc)] := fun q hq => N11 q (.tail _ hq)
    replace F11 := id F11
    clear F10 N10 hxs hsum
    k_with_none
    k_with "exec Return some" => refine halt ?_
    w_strict k_steps
    rename Fr _ _ _ _ => F12
    rename News _ _ _ _ => N12
    refine unhalt ?_
    have cH23 : CodeHd g₀ 27 23 := by assumption
    have cH30 : CodeHd g₀ 34 30 := by assumption
    have hdne : dv ≠ [] := fun e => hd2 (by rw [e]; rfl)
    have n6 : (L + 1 : Nat) ≠ 30 := Ne.symm n4
    have n7 : (L + 1 : Nat) ≠ 23 := Ne.symm n5
    replace N12 := id N12
    replace F12 := id F12
    k_with_none
    k_with "call ref" => refine halt ?_
    w_strict k_steps
    rename News _ _ _ _ => N13
    rename Fr _ _ _ _ => F13
    refine unhalt ?_
    refine wpAny_call ?_
    refine d2i_ok (F := [(23, tabObj #[]), (L + 1, oc)]) B' F13 X' N13 cH30 T' rfl rfl rfl rfl (Nat.le_of_ble_eq_true rfl) hdne n2 ?hF1 hdl hd3 ?_
    case hF1 =>
      intro q hq
      rcases List.mem_cons.mp hq with rfl | hq
      · show (23 : Nat) ≠ 30
        decide
      · rw [List.mem_singleton.mp hq]; exact n6
    intro h14 tk14 tt14 c14 oc14 vs14 t14 F14 N14 e14 e14' l14 l14'
    clear F13 N13
    dsimp only
    k_with_none
    have hlm : (dv.map (·.1)).length = dv.length := List.length_map ..
    rw [hlm] at F14
    obtain ⟨ds, hne, hlast, hl9, hdb, hsv⟩ := strip_law _ (dv.map (·.1)) rfl hd1 hd3 hd4
    rw [hlm] at hsv
    rw [hsv] at F14 ⊢
    k_with_none
    k_with "call ref" => refine halt ?_
    k_with "compareOp Eq int int" => refine halt ?_
    w_strict k_steps
    refine unhalt ?_
    k_with_none
    k_with "call ref" => refine halt ?_
    w_strict k_steps
    rename News _ _ _ _ => N15
    rename Fr _ _ _ _ => F15
    refine unhalt ?_
    refine wpAny_call ?_
    refine d2i_again (F := [(23, tabObj #[]), (L + 1, oc)]) B' F15 X' N15 e14 e14' cH30 T' rfl rfl rfl rfl (Nat.le_of_ble_eq_true rfl) hdne n2 ?hF2 hdl hd3 ?_
    case hF2 =>
      intro q hq
      rcases List.mem_cons.mp hq with rfl | hq
      · show (23 : Nat) ≠ 30
        decide
      · rw [List.mem_singleton.mp hq]; exact n6
    intro h16 tk16 tt16 F16 N16
    clear F15 N15
    rw [hsv]
    replace N16 : News g₀ L h16 [(23, tabObj #[]), (30, tabObj #[rawInt 23, rawInt 4, .ref c14])] := by
      intro q hq
      rcases List.mem_cons.mp hq with h | hq
      · exact N16 q (.tail _ (.tail _ (.tail _ (h ▸ .head _))))
      · exact N16 q (.tail _ (.tail _ ((List.mem_singleton.mp hq) ▸ .head _)))
    replace F16 := id F16
    dsimp only
    k_with_none
    k_with "call ref" => refine halt ?_
    w_strict k_steps
    rename News _ _ _ _ => N17
    rename Fr _ _ _ _ => F17
    refine unhalt ?_
    refine wpAny_call ?_
    refine told_ok (F := [(30, tabObj #[rawInt 23, rawInt 4, .ref c14])]) B' F17 X' N17 cH23 T' X' T' rfl rfl rfl rfl (Nat.le_of_ble_eq_true rfl) hne hlast (fun q hq => by rw [List.mem_singleton.mp hq]; show (30 : Nat) ≠ 23; decide) (List.nodup_cons.mpr ⟨List.not_mem_nil, List.nodup_nil⟩) hl9 hdb ?_
    intro h18 tk18 F₁ v18 ps23 F18 N18 R18 m23
    clear F17 N17
    obtain ⟨F₂, nd2, sub2⟩ := news_nodup N18
    replace N18 : News g₀ L h18 F₂ := fun q hq => N18 q ((sub2 q).mpr hq)
    replace m23 : (23, tabObj ps23) ∈ F₂ := (sub2 _).mp (List.mem_append_left _ m23)
    have m30 : (30, tabObj #[rawInt 23, rawInt 4, .ref c14]) ∈ F₂ := (sub2 _).mp (List.mem_append_right _ (.head _))
    replace R18 := res_mono R18 (fun q hq => (sub2 q).mp (List.mem_append_left _ hq))
    replace F18 := id F18
    dsimp only
    k_with_none
    k_with "call ref" => refine halt ?_
    w_strict k_steps
    rename News _ _ _ _ => N19
    rename Fr _ _ _ _ => F19
    refine unhalt ?_
    refine wpAny_call ?_
    refine due_ok (outer := []) B' F19 X' N19 T' rfl rfl rfl rfl (Nat.le_of_ble_eq_true rfl) (Nat.le_of_ble_eq_true rfl) hne hlast nd2 hl9 hdb ?_
    intro h21 tk21 F₃ v21 F21 N21 R21
    clear F19 N19
    replace R18 := res_mono R18 (fun q hq => List.mem_append_right F₃ hq)
    replace R21 := res_mono R21 (fun q hq => List.mem_append_left F₂ hq)
    replace F21 := id F21
    dsimp only
    refine res_eq N21 R18 R21 (Nat.le_of_ble_eq_true rfl) ?_
    have gr : GrownAll [(27, 23), (34, 30)] h21 := ⟨GrownAt.of N21 (List.mem_append_right _ m23), GrownAt.of N21 (List.mem_append_right _ m30), True.intro⟩
    dsimp only
    k_with_none
    k_with "And" => (k_dflt (refine And.intro ?_ gr))
    w_strict k_steps
  case step =>
    rintro j ys nw hj ⟨rfl, xs, rfl, hxs⟩ v I oI C oC D m₂ h9 tk E' ⟨tj, rfl⟩ hNs hx F9 N9 off ne
    rw [Int.zero_add] at hx
    have hj' : j < dv.length := hj
    have hdb := hd3 _ (List.mem_map_of_mem (f := (·.1)) (List.getElem_mem hj'))
    k_with_none
    k_with "eval Name" => (k_dflt (first
      | refine lcf_cell N9 (by exact rfl) (.tail _ (.tail _ (.tail _ (.tail _ (.tail _ (.tail _ (.head _))))))) dc ?_ (by exact rfl) (by exact rfl)
      | refine PySem.W.LCgL.ld_own N9 (.tail _ (.head _)) hNs hx ?_ (by exact rfl) (by exact rfl)))
    k_with "CompEnd" => refine halt ?_
    k_with "subscriptTail Name Name ref int" => (k_dflt (refine kim_list N9 (.tail _ (.tail _ (.tail _ (.head _)))) rfl (l := vals dv) rfl (x := .int dv[j].1 dv[j].2) (by omega) (by omega) (by simp [hj']) ?_))
    w_strict k_steps
    refine unhalt ?_
    refine ⟨h9, _, _, rfl, F9, N9, off, trivial, rfl, xs ++ [(dv[j].1 * 65536 ^ (Int.toNat (j : Int)), tk + 1 + 1)], by simp [vals], ?_⟩
    rw [List.map_append, hxs, List.range_succ, List.map_append]
    refine congrArg _ ?_
    simp [hj']

end
end Mine
theorem PySem.Challenge.cw_nq0238_01_holds : PySem.Challenge.rw_nq0238_01.Holds := by
  exact Mine.law_done
