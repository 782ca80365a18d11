import PyProof.Rows.All
import Wide.All
import OpenK.AllK
import Wide.FinOn
import PySem.Challenge.RW_tc0010_02
set_option Elab.async false
set_option genSizeOf false
set_option genInjectivity false
noncomputable section
local macro_rules | `(tactic| omega) => `(tactic| first | lia | omega +splitDisjunctions)
section
open PySem PySem.W PyProof.Rows
namespace Mine
set_option maxRecDepth 100000
set_option maxHeartbeats 8000000
noncomputable def cSub : Stmt → List Stmt
  | .FunctionDef _ _ b _ _ _ _ _ _ _ => b
  | .ClassDef _ _ _ b _ _ _ _ _ _ _ => b
  | _ => []
noncomputable def cAt : List Stmt → List Nat → Stmt
  | _, [] => default
  | l, [i] => l.getD i default
  | l, i :: p => cAt (cSub (l.getD i default)) p
noncomputable def cSt (p : List Nat) : Stmt := cAt PySem.Challenge.pw_tc0010_02.main.body p
noncomputable def cAr (p : List Nat) : Arguments := match cSt p with
  | .FunctionDef _ a _ _ _ _ _ _ _ _ => a
  | _ => default
noncomputable def cBo (p : List Nat) : List Stmt := match cSt p with
  | .FunctionDef _ _ b _ _ _ _ _ _ _ => b
  | _ => []
noncomputable def cSc (p : List Nat) : Scope := match cSt p with
  | .FunctionDef _ _ _ _ _ _ s _ _ _ => s
  | _ => default
noncomputable def hd.heap_39 : Params → Frag := fun P =>
   (nat_lit 2, ⟨.none, .none, (.dict #[⟨(PySem.PyData.keyHash P "type.__subclasses__.Exception.0"), (.str "type.__subclasses__.Exception.0" 354), (.int 115 0)⟩, ⟨(PySem.PyData.keyHash P "type.__subclasses__.Exception.n"), (.str "type.__subclasses__.Exception.n" 355), (.int 1 0)⟩] 2), #[]⟩) ::
   (nat_lit 3, ⟨(.type "dict"), .none, (.dict #[⟨(PySem.PyData.keyHash P "__name__"), (.str "__name__" 165), (.str "law_tc0010_02" 385)⟩, ⟨(PySem.PyData.keyHash P "__doc__"), (.str "__doc__" 166), .none⟩, ⟨(PySem.PyData.keyHash P "__package__"), (.str "__package__" 167), .none⟩, ⟨(PySem.PyData.keyHash P "__loader__"), (.str "__loader__" 168), (.builtin "__main__.__loader__#opaque")⟩, ⟨(PySem.PyData.keyHash P "__spec__"), (.str "__spec__" 169), .none⟩, ⟨(PySem.PyData.keyHash P "__annotations__"), (.str "__annotations__" 170), (.ref 6)⟩, ⟨(PySem.PyData.keyHash P "__builtins__"), (.str "__builtins__" 171), (.ref 4)⟩, ⟨(PySem.PyData.keyHash P "__file__"), (.str "__file__" 173), (.str "/claim/cut.py" 172)⟩, ⟨(PySem.PyData.keyHash P "__cached__"), (.str "__cached__" 174), .none⟩, ⟨(PySem.PyData.keyHash P "_wall"), (.str "_wall" 193), (.ref 21)⟩, ⟨(PySem.PyData.keyHash P "_netrclex"), (.str "_netrclex" 253), (.ref 59)⟩, ⟨(PySem.PyData.keyHash P "_DIV_LIMIT"), (.str "_DIV_LIMIT" 257), (.int 4000 256)⟩, ⟨(PySem.PyData.keyHash P "_div2n1n"), (.str "_div2n1n" 274), (.ref 70)⟩, ⟨(PySem.PyData.keyHash P "_div3n2n"), (.str "_div3n2n" 288), (.ref 77)⟩, ⟨(PySem.PyData.keyHash P "_int2digits"), (.str "_int2digits" 299), (.ref 84)⟩, ⟨(PySem.PyData.keyHash P "_digits2int"), (.str "_digits2int" 310), (.ref 91)⟩, ⟨(PySem.PyData.keyHash P "_divmod_pos"), (.str "_divmod_pos" 325), (.ref 98)⟩, ⟨(PySem.PyData.keyHash P "int_divmod"), (.str "int_divmod" 335), (.ref 105)⟩, ⟨(PySem.PyData.keyHash P "Error"), (.str "Error" 357), (.ref 115)⟩, ⟨(PySem.PyData.keyHash P "error_reply"), (.str "error_reply" 373), (.ref 128)⟩, ⟨(PySem.PyData.keyHash P "parse257"), (.str "parse257" 384), (.ref 137)⟩, ⟨(PySem.PyData.keyHash P "_law_lexer"), (.str "_law_lexer" 396), (.ref 144)⟩, ⟨(PySem.PyData.keyHash P "_law_text"), (.str "_law_text" 402), (.ref 149)⟩, ⟨(PySem.PyData.keyHash P "_law_written"), (.str "_law_written" 408), (.ref 154)⟩, ⟨(PySem.PyData.keyHash P "_law_reading"), (.str "_law_reading" 419), (.ref 161)⟩, ⟨(PySem.PyData.keyHash P "_law_folded"), (.str "_law_folded" 425), (.ref 166)⟩, ⟨(PySem.PyData.keyHash P "_law_partner"), (.str "_law_partner" 438), (.ref 173)⟩, ⟨(PySem.PyData.keyHash P "_law_units"), (.str "_law_units" 448), (.ref 180)⟩, ⟨(PySem.PyData.keyHash P "_law_fits"), (.str "_law_fits" 462), (.ref 187)⟩, ⟨(PySem.PyData.keyHash P "_law_told"), (.str "_law_told" 468), (.ref 192)⟩, ⟨(PySem.PyData.keyHash P "law"), (.str "law" 474), (.ref 197)⟩] 31), #[]⟩) ::
   (nat_lit 15, ⟨(.type "tuple"), .none, (.seq #[] 0), #[]⟩) ::
   (nat_lit 17, ⟨(.type "tuple"), .none, (.seq #[(.str "k" 190)] 0), #[]⟩) ::
   (nat_lit 18, ⟨(.type "tuple"), .none, (.seq #[] 0), #[]⟩) ::
   (nat_lit 20, ⟨(.type "code"), .none, (.fields #[(.str "_wall" 187), (.str "_wall" 188), (.str "/claim/cut.py" 189), (.int 1 0), (.int 1 0), (.int 0 0), (.int 0 0), (.int 3 0), (.ref 15), (.bool .true), (.int 181 0), (.ref 16), .none, (.ref 17), (.ref 18), (.ref 19), (.int 191 0), (.int 1 0), (.str "/claim/cut.py" 192)]), #[]⟩) ::
   (nat_lit 21, ⟨(.type "function"), .none, (.func ⟨"_wall", "_wall", (cAr [0]), (.stmts (cBo [0])), (cSc [0]), 3, [], .none, .none, .none, (.str "__main__" 164), .none, (.ref 20), .none, 0⟩), #[]⟩) ::
   (nat_lit 29, ⟨(.type "tuple"), .none, (.seq #[] 0), #[]⟩) ::
   (nat_lit 31, ⟨(.type "tuple"), .none, (.seq #[(.str "self" 211), (.str "fp" 212)] 0), #[]⟩) ::
   (nat_lit 32, ⟨(.type "tuple"), .none, (.seq #[] 0), #[]⟩) ::
   (nat_lit 34, ⟨(.type "code"), .none, (.fields #[(.str "__init__" 208), (.str "_netrclex.__init__" 209), (.str "/claim/cut.py" 210), (.int 7 0), (.int 2 0), (.int 0 0), (.int 0 0), (.int 3 0), (.ref 29), (.bool .true), (.int 181 0), (.ref 30), .none, (.ref 31), (.ref 32), (.ref 33), (.int 213 0), (.int 7 0), (.str "/claim/cut.py" 214)]), #[]⟩) ::
   (nat_lit 35, ⟨(.type "function"), .none, (.func ⟨"__init__", "_netrclex.__init__", (cAr [2, 0]), (.stmts (cBo [2, 0])), (cSc [2, 0]), 3, [], .none, .none, .none, (.str "cpy313.netrc" 194), .none, (.ref 34), .none, 0⟩), #[]⟩) ::
   (nat_lit 36, ⟨(.type "tuple"), .none, (.seq #[] 0), #[]⟩) ::
   (nat_lit 38, ⟨(.type "tuple"), .none, (.seq #[(.str "self" 219), (.str "ch" 220)] 0), #[]⟩) ::
   (nat_lit 39, ⟨(.type "tuple"), .none, (.seq #[] 0), #[]⟩) ::
   (nat_lit 41, ⟨(.type "code"), .none, (.fields #[(.str "_read_char" 216), (.str "_netrclex._read_char" 217), (.str "/claim/cut.py" 218), (.int 13 0), (.int 1 0), (.int 0 0), (.int 0 0), (.int 3 0), (.ref 36), (.bool .true), (.int 181 0), (.ref 37), .none, (.ref 38), (.ref 39), (.ref 40), (.int 221 0), (.int 13 0), (.str "/claim/cut.py" 222)]), #[]⟩) ::
   (nat_lit 42, ⟨(.type "function"), .none, (.func ⟨"_read_char", "_netrclex._read_char", (cAr [2, 1]), (.stmts (cBo [2, 1])), (cSc [2, 1]), 3, [], .none, .none, .none, (.str "cpy313.netrc" 194), .none, (.ref 41), .none, 0⟩), #[]⟩) ::
   (nat_lit 43, ⟨(.type "tuple"), .none, (.seq #[] 0), #[]⟩) ::
   (nat_lit 45, ⟨(.type "tuple"), .none, (.seq #[(.str "self" 227), (.str "token" 228), (.str "fiter" 229), (.str "ch" 230)] 0), #[]⟩) ::
   (nat_lit 46, ⟨(.type "tuple"), .none, (.seq #[] 0), #[]⟩) ::
   (nat_lit 48, ⟨(.type "code"), .none, (.fields #[(.str "get_token" 224), (.str "_netrclex.get_token" 225), (.str "/claim/cut.py" 226), (.int 19 0), (.int 1 0), (.int 0 0), (.int 0 0), (.int 3 0), (.ref 43), (.bool .true), (.int 181 0), (.ref 44), .none, (.ref 45), (.ref 46), (.ref 47), (.int 231 0), (.int 19 0), (.str "/claim/cut.py" 232)]), #[]⟩) ::
   (nat_lit 49, ⟨(.type "function"), .none, (.func ⟨"get_token", "_netrclex.get_token", (cAr [2, 2]), (.stmts (cBo [2, 2])), (cSc [2, 2]), 3, [], .none, .none, .none, (.str "cpy313.netrc" 194), .none, (.ref 48), .none, 0⟩), #[]⟩) ::
   (nat_lit 50, ⟨(.type "tuple"), .none, (.seq #[] 0), #[]⟩) ::
   (nat_lit 52, ⟨(.type "tuple"), .none, (.seq #[(.str "self" 237), (.str "token" 238)] 0), #[]⟩) ::
   (nat_lit 53, ⟨(.type "tuple"), .none, (.seq #[] 0), #[]⟩) ::
   (nat_lit 55, ⟨(.type "code"), .none, (.fields #[(.str "push_token" 234), (.str "_netrclex.push_token" 235), (.str "/claim/cut.py" 236), (.int 46 0), (.int 2 0), (.int 0 0), (.int 0 0), (.int 3 0), (.ref 50), (.bool .true), (.int 181 0), (.ref 51), .none, (.ref 52), (.ref 53), (.ref 54), (.int 239 0), (.int 46 0), (.str "/claim/cut.py" 240)]), #[]⟩) ::
   (nat_lit 56, ⟨(.type "function"), .none, (.func ⟨"push_token", "_netrclex.push_token", (cAr [2, 3]), (.stmts (cBo [2, 3])), (cSc [2, 3]), 3, [], .none, .none, .none, (.str "cpy313.netrc" 194), .none, (.ref 55), .none, 0⟩), #[]⟩) ::
   (nat_lit 57, ⟨(.type "tuple"), .none, (.seq #[(.str "instream" 242), (.str "lineno" 243), (.str "pushback" 244), (.str "whitespace" 245)] 0), #[]⟩) ::
   (nat_lit 58, ⟨(.type "dict"), .none, (.dict #[⟨(PySem.PyData.keyHash P "__module__"), (.str "__module__" 203), (.str "cpy313.netrc" 194)⟩, ⟨(PySem.PyData.keyHash P "__firstlineno__"), (.str "__firstlineno__" 207), (.int 5 206)⟩, ⟨(PySem.PyData.keyHash P "__init__"), (.str "__init__" 215), (.ref 35)⟩, ⟨(PySem.PyData.keyHash P "_read_char"), (.str "_read_char" 223), (.ref 42)⟩, ⟨(PySem.PyData.keyHash P "get_token"), (.str "get_token" 233), (.ref 49)⟩, ⟨(PySem.PyData.keyHash P "push_token"), (.str "push_token" 241), (.ref 56)⟩, ⟨(PySem.PyData.keyHash P "__static_attributes__"), (.str "__static_attributes__" 246), (.ref 57)⟩, ⟨(PySem.PyData.keyHash P "__dict__"), (.str "__dict__" 248), (.ref 60)⟩, ⟨(PySem.PyData.keyHash P "__weakref__"), (.str "__weakref__" 250), (.ref 61)⟩, ⟨(PySem.PyData.keyHash P "__doc__"), (.str "__doc__" 251), .none⟩] 4), #[]⟩) ::
   (nat_lit 59, ⟨(.type "type"), .none, (.cls ⟨"_netrclex", [(.type "object")], [(.ref 59), (.type "object")], 58, "_netrclex", .true, [], [], .false, .none, .false⟩), #[.none, .none, (.some (.str "_netrclex" 196)), (.some (.str "_netrclex" 204)), (.some (.builtin "object.__new__")), (.some (.bool .true))]⟩) ::
   (nat_lit 60, ⟨(.type "getset_descriptor"), .none, (.fields #[(.str "__dict__" 247), (.ref 59), (.builtin "function.__dict__"), (.builtin "function.__dict__#set")]), #[]⟩) ::
   (nat_lit 61, ⟨(.type "getset_descriptor"), .none, (.fields #[(.str "__weakref__" 249), (.ref 59), (.builtin "ExceptionGroup.__weakref__"), .none]), #[]⟩) ::
   (nat_lit 64, ⟨(.type "tuple"), .none, (.seq #[] 0), #[]⟩) ::
   (nat_lit 66, ⟨(.type "tuple"), .none, (.seq #[(.str "a" 261), (.str "b" 262), (.str "n" 263), (.str "pad" 264), (.str "half_n" 265), (.str "mask" 266), (.str "b1" 267), (.str "b2" 268), (.str "q1" 269), (.str "r" 270), (.str "q2" 271)] 0), #[]⟩) ::
   (nat_lit 67, ⟨(.type "tuple"), .none, (.seq #[] 0), #[]⟩) ::
   (nat_lit 69, ⟨(.type "code"), .none, (.fields #[(.str "_div2n1n" 258), (.str "_div2n1n" 259), (.str "/claim/cut.py" 260), (.int 50 0), (.int 3 0), (.int 0 0), (.int 0 0), (.int 3 0), (.ref 64), (.bool .true), (.int 181 0), (.ref 65), .none, (.ref 66), (.ref 67), (.ref 68), (.int 272 0), (.int 50 0), (.str "/claim/cut.py" 273)]), #[]⟩) ::
   (nat_lit 70, ⟨(.type "function"), .none, (.func ⟨"_div2n1n", "_div2n1n", (cAr [5]), (.stmts (cBo [5])), (cSc [5]), 3, [], .none, .none, .none, (.str "cpy313._pylong" 254), .none, (.ref 69), .none, 0⟩), #[]⟩) ::
   (nat_lit 71, ⟨(.type "tuple"), .none, (.seq #[] 0), #[]⟩) ::
   (nat_lit 73, ⟨(.type "tuple"), .none, (.seq #[(.str "a12" 278), (.str "a3" 279), (.str "b" 280), (.str "b1" 281), (.str "b2" 282), (.str "n" 283), (.str "q" 284), (.str "r" 285)] 0), #[]⟩) ::
   (nat_lit 74, ⟨(.type "tuple"), .none, (.seq #[] 0), #[]⟩) ::
   (nat_lit 76, ⟨(.type "code"), .none, (.fields #[(.str "_div3n2n" 275), (.str "_div3n2n" 276), (.str "/claim/cut.py" 277), (.int 66 0), (.int 6 0), (.int 0 0), (.int 0 0), (.int 3 0), (.ref 71), (.bool .true), (.int 181 0), (.ref 72), .none, (.ref 73), (.ref 74), (.ref 75), (.int 286 0), (.int 66 0), (.str "/claim/cut.py" 287)]), #[]⟩) ::
   (nat_lit 77, ⟨(.type "function"), .none, (.func ⟨"_div3n2n", "_div3n2n", (cAr [6]), (.stmts (cBo [6])), (cSc [6]), 3, [], .none, .none, .none, (.str "cpy313._pylong" 254), .none, (.ref 76), .none, 0⟩), #[]⟩) ::
   (nat_lit 78, ⟨(.type "tuple"), .none, (.seq #[] 0), #[]⟩) ::
   (nat_lit 80, ⟨(.type "tuple"), .none, (.seq #[(.str "a" 292), (.str "n" 293)] 0), #[]⟩) ::
   (nat_lit 81, ⟨(.type "tuple"), .none, (.seq #[(.str "n" 294), (.str "a_digits" 295), (.str "inner" 296)] 0), #[]⟩) ::
   (nat_lit 83, ⟨(.type "code"), .none, (.fields #[(.str "_int2digits" 289), (.str "_int2digits" 290), (.str "/claim/cut.py" 291), (.int 76 0), (.int 2 0), (.int 0 0), (.int 0 0), (.int 3 0), (.ref 78), (.bool .true), (.int 181 0), (.ref 79), .none, (.ref 80), (.ref 81), (.ref 82), (.int 297 0), (.int 76 0), (.str "/claim/cut.py" 298)]), #[]⟩) ::
   (nat_lit 84, ⟨(.type "function"), .none, (.func ⟨"_int2digits", "_int2digits", (cAr [7]), (.stmts (cBo [7])), (cSc [7]), 3, [], .none, .none, .none, (.str "cpy313._pylong" 254), .none, (.ref 83), .none, 0⟩), #[]⟩) ::
   (nat_lit 85, ⟨(.type "tuple"), .none, (.seq #[] 0), #[]⟩) ::
   (nat_lit 87, ⟨(.type "tuple"), .none, (.seq #[(.str "digits" 303), (.str "n" 304)] 0), #[]⟩) ::
   (nat_lit 88, ⟨(.type "tuple"), .none, (.seq #[(.str "digits" 305), (.str "n" 306), (.str "inner" 307)] 0), #[]⟩) ::
   (nat_lit 90, ⟨(.type "code"), .none, (.fields #[(.str "_digits2int" 300), (.str "_digits2int" 301), (.str "/claim/cut.py" 302), (.int 92 0), (.int 2 0), (.int 0 0), (.int 0 0), (.int 3 0), (.ref 85), (.bool .true), (.int 181 0), (.ref 86), .none, (.ref 87), (.ref 88), (.ref 89), (.int 308 0), (.int 92 0), (.str "/claim/cut.py" 309)]), #[]⟩) ::
   (nat_lit 91, ⟨(.type "function"), .none, (.func ⟨"_digits2int", "_digits2int", (cAr [8]), (.stmts (cBo [8])), (cSc [8]), 3, [], .none, .none, .none, (.str "cpy313._pylong" 254), .none, (.ref 90), .none, 0⟩), #[]⟩) ::
   (nat_lit 92, ⟨(.type "tuple"), .none, (.seq #[] 0), #[]⟩) ::
   (nat_lit 94, ⟨(.type "tuple"), .none, (.seq #[(.str "a" 314), (.str "b" 315), (.str "n" 316), (.str "a_digits" 317), (.str "r" 318), (.str "q_digits" 319), (.str "a_digit" 320), (.str "q_digit" 321), (.str "q" 322)] 0), #[]⟩) ::
   (nat_lit 95, ⟨(.type "tuple"), .none, (.seq #[] 0), #[]⟩) ::
   (nat_lit 97, ⟨(.type "code"), .none, (.fields #[(.str "_divmod_pos" 311), (.str "_divmod_pos" 312), (.str "/claim/cut.py" 313), (.int 101 0), (.int 2 0), (.int 0 0), (.int 0 0), (.int 3 0), (.ref 92), (.bool .true), (.int 181 0), (.ref 93), .none, (.ref 94), (.ref 95), (.ref 96), (.int 323 0), (.int 101 0), (.str "/claim/cut.py" 324)]), #[]⟩) ::
   (nat_lit 98, ⟨(.type "function"), .none, (.func ⟨"_divmod_pos", "_divmod_pos", (cAr [9]), (.stmts (cBo [9])), (cSc [9]), 3, [], .none, .none, .none, (.str "cpy313._pylong" 254), .none, (.ref 97), .none, 0⟩), #[]⟩) ::
   (nat_lit 99, ⟨(.type "tuple"), .none, (.seq #[] 0), #[]⟩) ::
   (nat_lit 101, ⟨(.type "tuple"), .none, (.seq #[(.str "a" 329), (.str "b" 330), (.str "q" 331), (.str "r" 332)] 0), #[]⟩) ::
   (nat_lit 102, ⟨(.type "tuple"), .none, (.seq #[] 0), #[]⟩) ::
   (nat_lit 104, ⟨(.type "code"), .none, (.fields #[(.str "int_divmod" 326), (.str "int_divmod" 327), (.str "/claim/cut.py" 328), (.int 112 0), (.int 2 0), (.int 0 0), (.int 0 0), (.int 3 0), (.ref 99), (.bool .true), (.int 181 0), (.ref 100), .none, (.ref 101), (.ref 102), (.ref 103), (.int 333 0), (.int 112 0), (.str "/claim/cut.py" 334)]), #[]⟩) ::
   (nat_lit 105, ⟨(.type "function"), .none, (.func ⟨"int_divmod", "int_divmod", (cAr [10]), (.stmts (cBo [10])), (cSc [10]), 3, [], .none, .none, .none, (.str "cpy313._pylong" 254), .none, (.ref 104), .none, 0⟩), #[]⟩) ::
   (nat_lit 106, ⟨(.type "tuple"), .none, (.seq #[(.type "Exception")] 0), #[]⟩) ::
   (nat_lit 113, ⟨(.type "tuple"), .none, (.seq #[] 0), #[]⟩) ::
   (nat_lit 114, ⟨(.type "dict"), .none, (.dict #[⟨(PySem.PyData.keyHash P "__module__"), (.str "__module__" 345), (.str "cpy313.ftplib" 336)⟩, ⟨(PySem.PyData.keyHash P "__firstlineno__"), (.str "__firstlineno__" 349), (.int 124 348)⟩, ⟨(PySem.PyData.keyHash P "__static_attributes__"), (.str "__static_attributes__" 350), (.ref 113)⟩, ⟨(PySem.PyData.keyHash P "__weakref__"), (.str "__weakref__" 352), (.ref 116)⟩, ⟨(PySem.PyData.keyHash P "__doc__"), (.str "__doc__" 353), .none⟩] 3), #[]⟩) ::
   (nat_lit 115, ⟨(.type "type"), .none, (.cls ⟨"Error", [(.type "Exception")], [(.ref 115), (.type "Exception"), (.type "BaseException"), (.type "object")], 114, "Error", .true, [], [(.ref 128)], .false, .none, .false⟩), #[(.some (.ref 106)), .none, (.some (.str "Error" 338)), (.some (.str "Error" 346)), (.some (.builtin "Exception.__new__")), (.some (.bool .true))]⟩) ::
   (nat_lit 116, ⟨(.type "getset_descriptor"), .none, (.fields #[(.str "__weakref__" 351), (.ref 115), (.builtin "ExceptionGroup.__weakref__"), .none]), #[]⟩) ::
   (nat_lit 119, ⟨(.type "tuple"), .none, (.seq #[(.ref 115)] 0), #[]⟩) ::
   (nat_lit 126, ⟨(.type "tuple"), .none, (.seq #[] 0), #[]⟩) ::
   (nat_lit 127, ⟨(.type "dict"), .none, (.dict #[⟨(PySem.PyData.keyHash P "__module__"), (.str "__module__" 365), (.str "cpy313.ftplib" 336)⟩, ⟨(PySem.PyData.keyHash P "__firstlineno__"), (.str "__firstlineno__" 369), (.int 126 368)⟩, ⟨(PySem.PyData.keyHash P "__static_attributes__"), (.str "__static_attributes__" 370), (.ref 126)⟩, ⟨(PySem.PyData.keyHash P "__doc__"), (.str "__doc__" 371), .none⟩] 2), #[]⟩) ::
   (nat_lit 128, ⟨(.type "type"), .none, (.cls ⟨"error_reply", [(.ref 115)], [(.ref 128), (.ref 115), (.type "Exception"), (.type "BaseException"), (.type "object")], 127, "error_reply", .true, [], [], .false, .none, .false⟩), #[(.some (.ref 119)), .none, (.some (.str "error_reply" 358)), (.some (.str "error_reply" 366)), (.some (.builtin "Exception.__new__")), (.some (.bool .true))]⟩) ::
   (nat_lit 131, ⟨(.type "tuple"), .none, (.seq #[] 0), #[]⟩) ::
   (nat_lit 133, ⟨(.type "tuple"), .none, (.seq #[(.str "resp" 377), (.str "dirname" 378), (.str "i" 379), (.str "n" 380), (.str "c" 381)] 0), #[]⟩) ::
   (nat_lit 134, ⟨(.type "tuple"), .none, (.seq #[] 0), #[]⟩) ::
   (nat_lit 136, ⟨(.type "code"), .none, (.fields #[(.str "parse257" 374), (.str "parse257" 375), (.str "/claim/cut.py" 376), (.int 128 0), (.int 1 0), (.int 0 0), (.int 0 0), (.int 3 0), (.ref 131), (.bool .true), (.int 181 0), (.ref 132), .none, (.ref 133), (.ref 134), (.ref 135), (.int 382 0), (.int 128 0), (.str "/claim/cut.py" 383)]), #[]⟩) ::
   (nat_lit 137, ⟨(.type "function"), .none, (.func ⟨"parse257", "parse257", (cAr [14]), (.stmts (cBo [14])), (cSc [14]), 3, [], .none, .none, .none, (.str "cpy313.ftplib" 336), .none, (.ref 136), .none, 0⟩), #[]⟩) ::
   (nat_lit 138, ⟨(.type "tuple"), .none, (.seq #[] 0), #[]⟩) ::
   (nat_lit 140, ⟨(.type "tuple"), .none, (.seq #[(.str "left" 390), (.str "read" 391), (.str "stream" 392)] 0), #[]⟩) ::
   (nat_lit 141, ⟨(.type "tuple"), .none, (.seq #[(.str "left" 393)] 0), #[]⟩) ::
   (nat_lit 143, ⟨(.type "code"), .none, (.fields #[(.str "_law_lexer" 387), (.str "_law_lexer" 388), (.str "/claim/cut.py" 389), (.int 146 0), (.int 1 0), (.int 0 0), (.int 0 0), (.int 3 0), (.ref 138), (.bool .true), (.int 181 0), (.ref 139), .none, (.ref 140), (.ref 141), (.ref 142), (.int 394 0), (.int 146 0), (.str "/claim/cut.py" 395)]), #[]⟩) ::
   (nat_lit 144, ⟨(.type "function"), .none, (.func ⟨"_law_lexer", "_law_lexer", (cAr [16]), (.stmts (cBo [16])), (cSc [16]), 3, [], .none, .none, .none, (.str "law_tc0010_02" 385), .none, (.ref 143), .none, 0⟩), #[]⟩) ::
   (nat_lit 145, ⟨(.type "tuple"), .none, (.seq #[] 0), #[]⟩) ::
   (nat_lit 148, ⟨(.type "code"), .none, (.fields #[(.str "_law_text" 397), (.str "_law_text" 398), (.str "/claim/cut.py" 399), (.int 155 0), (.int 2 0), (.int 0 0), (.int 0 0), (.int 3 0), (.ref 145), (.bool .true), (.int 181 0), (.ref 146), .none, .none, .none, (.ref 147), (.int 400 0), (.int 155 0), (.str "/claim/cut.py" 401)]), #[]⟩) ::
   (nat_lit 149, ⟨(.type "function"), .none, (.func ⟨"_law_text", "_law_text", (cAr [17]), (.stmts (cBo [17])), (cSc [17]), 3, [], .none, .none, .none, (.str "law_tc0010_02" 385), .none, (.ref 148), .none, 0⟩), #[]⟩) ::
   (nat_lit 150, ⟨(.type "tuple"), .none, (.seq #[] 0), #[]⟩) ::
   (nat_lit 153, ⟨(.type "code"), .none, (.fields #[(.str "_law_written" 403), (.str "_law_written" 404), (.str "/claim/cut.py" 405), (.int 159 0), (.int 2 0), (.int 0 0), (.int 0 0), (.int 3 0), (.ref 150), (.bool .true), (.int 181 0), (.ref 151), .none, .none, .none, (.ref 152), (.int 406 0), (.int 159 0), (.str "/claim/cut.py" 407)]), #[]⟩) ::
   (nat_lit 154, ⟨(.type "function"), .none, (.func ⟨"_law_written", "_law_written", (cAr [18]), (.stmts (cBo [18])), (cSc [18]), 3, [], .none, .none, .none, (.str "law_tc0010_02" 385), .none, (.ref 153), .none, 0⟩), #[]⟩) ::
   (nat_lit 155, ⟨(.type "tuple"), .none, (.seq #[] 0), #[]⟩) ::
   (nat_lit 157, ⟨(.type "tuple"), .none, (.seq #[(.str "front" 412), (.str "shut" 413), (.str "left" 414), (.str "lexer" 415), (.str "refusal" 416)] 0), #[]⟩) ::
   (nat_lit 158, ⟨(.type "tuple"), .none, (.seq #[] 0), #[]⟩) ::
   (nat_lit 160, ⟨(.type "code"), .none, (.fields #[(.str "_law_reading" 409), (.str "_law_reading" 410), (.str "/claim/cut.py" 411), (.int 163 0), (.int 2 0), (.int 0 0), (.int 0 0), (.int 3 0), (.ref 155), (.bool .true), (.int 181 0), (.ref 156), .none, (.ref 157), (.ref 158), (.ref 159), (.int 417 0), (.int 163 0), (.str "/claim/cut.py" 418)]), #[]⟩) ::
   (nat_lit 161, ⟨(.type "function"), .none, (.func ⟨"_law_reading", "_law_reading", (cAr [19]), (.stmts (cBo [19])), (cSc [19]), 3, [], .none, .none, .none, (.str "law_tc0010_02" 385), .none, (.ref 160), .none, 0⟩), #[]⟩) ::
   (nat_lit 162, ⟨(.type "tuple"), .none, (.seq #[] 0), #[]⟩) ::
   (nat_lit 165, ⟨(.type "code"), .none, (.fields #[(.str "_law_folded" 420), (.str "_law_folded" 421), (.str "/claim/cut.py" 422), (.int 172 0), (.int 2 0), (.int 0 0), (.int 0 0), (.int 3 0), (.ref 162), (.bool .true), (.int 181 0), (.ref 163), .none, .none, .none, (.ref 164), (.int 423 0), (.int 172 0), (.str "/claim/cut.py" 424)]), #[]⟩) ::
   (nat_lit 166, ⟨(.type "function"), .none, (.func ⟨"_law_folded", "_law_folded", (cAr [20]), (.stmts (cBo [20])), (cSc [20]), 3, [], .none, .none, .none, (.str "law_tc0010_02" 385), .none, (.ref 165), .none, 0⟩), #[]⟩) ::
   (nat_lit 167, ⟨(.type "tuple"), .none, (.seq #[] 0), #[]⟩) ::
   (nat_lit 169, ⟨(.type "tuple"), .none, (.seq #[(.str "hand" 429), (.str "text" 430), (.str "tail" 431), (.str "seen" 432), (.str "step" 433), (.str "turn" 434), (.str "told" 435)] 0), #[]⟩) ::
   (nat_lit 170, ⟨(.type "tuple"), .none, (.seq #[] 0), #[]⟩) ::
   (nat_lit 172, ⟨(.type "code"), .none, (.fields #[(.str "_law_partner" 426), (.str "_law_partner" 427), (.str "/claim/cut.py" 428), (.int 180 0), (.int 3 0), (.int 0 0), (.int 0 0), (.int 3 0), (.ref 167), (.bool .true), (.int 181 0), (.ref 168), .none, (.ref 169), (.ref 170), (.ref 171), (.int 436 0), (.int 180 0), (.str "/claim/cut.py" 437)]), #[]⟩) ::
   (nat_lit 173, ⟨(.type "function"), .none, (.func ⟨"_law_partner", "_law_partner", (cAr [21]), (.stmts (cBo [21])), (cSc [21]), 3, [], .none, .none, .none, (.str "law_tc0010_02" 385), .none, (.ref 172), .none, 0⟩), #[]⟩) ::
   (nat_lit 174, ⟨(.type "tuple"), .none, (.seq #[] 0), #[]⟩) ::
   (nat_lit 176, ⟨(.type "tuple"), .none, (.seq #[(.str "text" 442), (.str "units" 443), (.str "count" 444), (.str "sign" 445)] 0), #[]⟩) ::
   (nat_lit 177, ⟨(.type "tuple"), .none, (.seq #[] 0), #[]⟩) ::
   (nat_lit 179, ⟨(.type "code"), .none, (.fields #[(.str "_law_units" 439), (.str "_law_units" 440), (.str "/claim/cut.py" 441), (.int 191 0), (.int 1 0), (.int 0 0), (.int 0 0), (.int 3 0), (.ref 174), (.bool .true), (.int 181 0), (.ref 175), .none, (.ref 176), (.ref 177), (.ref 178), (.int 446 0), (.int 191 0), (.str "/claim/cut.py" 447)]), #[]⟩) ::
   (nat_lit 180, ⟨(.type "function"), .none, (.func ⟨"_law_units", "_law_units", (cAr [22]), (.stmts (cBo [22])), (cSc [22]), 3, [], .none, .none, .none, (.str "law_tc0010_02" 385), .none, (.ref 179), .none, 0⟩), #[]⟩) ::
   (nat_lit 181, ⟨(.type "tuple"), .none, (.seq #[] 0), #[]⟩) ::
   (nat_lit 183, ⟨(.type "tuple"), .none, (.seq #[(.str "units" 452), (.str "depth" 453), (.str "size" 454), (.str "place" 455), (.str "count" 456), (.str "sign" 457), (.str "step" 458), (.str "lack" 459)] 0), #[]⟩) ::
   (nat_lit 184, ⟨(.type "tuple"), .none, (.seq #[] 0), #[]⟩) ::
   (nat_lit 186, ⟨(.type "code"), .none, (.fields #[(.str "_law_fits" 449), (.str "_law_fits" 450), (.str "/claim/cut.py" 451), (.int 200 0), (.int 3 0), (.int 0 0), (.int 0 0), (.int 3 0), (.ref 181), (.bool .true), (.int 181 0), (.ref 182), .none, (.ref 183), (.ref 184), (.ref 185), (.int 460 0), (.int 200 0), (.str "/claim/cut.py" 461)]), #[]⟩) ::
   (nat_lit 187, ⟨(.type "function"), .none, (.func ⟨"_law_fits", "_law_fits", (cAr [23]), (.stmts (cBo [23])), (cSc [23]), 3, [], .none, .none, .none, (.str "law_tc0010_02" 385), .none, (.ref 186), .none, 0⟩), #[]⟩) ::
   (nat_lit 188, ⟨(.type "tuple"), .none, (.seq #[] 0), #[]⟩) ::
   (nat_lit 191, ⟨(.type "code"), .none, (.fields #[(.str "_law_told" 463), (.str "_law_told" 464), (.str "/claim/cut.py" 465), (.int 212 0), (.int 1 0), (.int 0 0), (.int 0 0), (.int 3 0), (.ref 188), (.bool .true), (.int 181 0), (.ref 189), .none, .none, .none, (.ref 190), (.int 466 0), (.int 212 0), (.str "/claim/cut.py" 467)]), #[]⟩) ::
   (nat_lit 192, ⟨(.type "function"), .none, (.func ⟨"_law_told", "_law_told", (cAr [24]), (.stmts (cBo [24])), (cSc [24]), 3, [], .none, .none, .none, (.str "law_tc0010_02" 385), .none, (.ref 191), .none, 0⟩), #[]⟩) ::
   (nat_lit 193, ⟨(.type "tuple"), .none, (.seq #[] 0), #[]⟩) ::
   (nat_lit 196, ⟨(.type "code"), .none, (.fields #[(.str "law" 469), (.str "law" 470), (.str "/claim/cut.py" 471), (.int 222 0), (.int 1 0), (.int 0 0), (.int 0 0), (.int 3 0), (.ref 193), (.bool .true), (.int 181 0), (.ref 194), .none, .none, .none, (.ref 195), (.int 472 0), (.int 222 0), (.str "/claim/cut.py" 473)]), #[]⟩) ::
   (nat_lit 197, ⟨(.type "function"), .none, (.func ⟨"law", "law", (cAr [25]), (.stmts (cBo [25])), (cSc [25]), 3, [], .none, .none, .none, (.str "law_tc0010_02" 385), .none, (.ref 196), .none, 0⟩), #[]⟩) :: []
noncomputable def hd.as : List Addr := [2, 3, 15, 17, 18, 20, 21, 29, 31, 32, 34, 35, 36, 38, 39, 41, 42, 43, 45, 46, 48, 49, 50, 52, 53, 55, 56, 57, 58, 59, 60, 61, 64, 66, 67, 69, 70, 71, 73, 74, 76, 77, 78, 80, 81, 83, 84, 85, 87, 88, 90, 91, 92, 94, 95, 97, 98, 99, 101, 102, 104, 105, 106, 113, 114, 115, 116, 119, 126, 127, 128, 131, 133, 134, 136, 137, 138, 140, 141, 143, 144, 145, 148, 149, 150, 153, 154, 155, 157, 158, 160, 161, 162, 165, 166, 167, 169, 170, 172, 173, 174, 176, 177, 179, 180, 181, 183, 184, 186, 187, 188, 191, 192, 193, 196, 197]
noncomputable def hd.view_39 : Program := { PySem.Challenge.pw_tc0010_02 with main := { PySem.Challenge.pw_tc0010_02.main with body := ([0, 2, 4, 5, 6, 7, 8, 9, 10, 12, 13, 14, 16, 17, 18, 19, 20, 21, 22, 23, 24, 25] : List Nat).map fun i => cSt [i] } }
noncomputable abbrev hd.hook : Hook := kmHook hd.heap_39 hd.as (fun _ => by kernel_rfl) [139, 79, 86]
noncomputable abbrev hd.row := PySem.Challenge.rw_tc0010_02.row.toRowW
noncomputable abbrev hd.law : DefRec := ⟨"law", (cAr [25]), (cBo [25]), (cSc [25]), ⟨222, 0, 248, 15⟩⟩
set_option tactic.hygienic false in
theorem hd.left : LeftO hd.row.prog hd.view_39 [] (fun s => xlAt hd.view_39 [] s && recOk (RowW.records hd.row) s) (Hook.obs hd.hook) (Hook.val hd.hook) 2820 := by
  intro w
  unfold openEnds fencedOpening topFrom
  rw [Fast.te4187177175401517315, Fast.te14364793385576792824, Fast.te10274390034422433532, Fast.te14289696077712309145, Fast.te14082659384304107361]
  kernel_rfl
set_option tactic.hygienic false in
theorem hd.said : PySem.Challenge.rw_tc0010_02.wellSaid = true := by decide +kernel
theorem hd.prom : hd.row.promised := by
  unfold hd.row
  w_witness2
set_option tactic.hygienic false in
theorem hd (walk : WalkO hd.view_39 [] (XL hd.view_39 []) hd.hook.says hd.row hd.law [] fun f vs => PySem.call f vs) : PySem.Challenge.rw_tc0010_02.Holds := by
  refine holds_law hd.said fun said => ?_
  exact holds_open (d := hd.law) (kwd := []) hd.left (Hook.of hd.hook) (Hook.keeps hd.hook) (fun s e => xl_of s (Bool.and_eq_true_iff.mp e).1) XL.keeps (by kernel_rfl) (by kernel_rfl) (by kernel_rfl) (fun s e => recFacts_of (Bool.and_eq_true_iff.mp e).2) (by kernel_rfl) said (by decide +kernel) ⟨rfl, rfl, rfl, rfl, rfl, by decide +kernel⟩ hd.prom walk
end Mine
end
section
open PySem PySem.W PyProof.Rows PySem.Calls
namespace Mine
noncomputable abbrev lob (vs : List Value) (n : Nat) : Obj := { cls := .type "list", data := .seq vs.toArray n }
noncomputable abbrev tob (vs : List Value) (n : Nat) : Obj := { cls := .type "tuple", data := .seq vs.toArray n }
noncomputable def topA : CbLed → Nat
  | [] => 0
  | p :: r => max (p.1 + 1) (topA r)
noncomputable def AllT (d : Addr) (r : CbLed) : Prop := ∀ p ∈ r, @LT.lt Nat _ p.1 d
set_option tactic.hygienic false in
theorem AllT_nil {d : Addr} : AllT d [] = True := eq_true fun _ h => nomatch h
set_option tactic.hygienic false in
theorem AllT_cons {d : Addr} {p : Addr × Obj} {r : CbLed} : AllT d (p :: r) = (@LT.lt Nat _ p.1 d ∧ AllT d r) :=
  propext ⟨fun h => ⟨h p (.head _), fun q hq => h q (.tail _ hq)⟩, fun h q hq => by
    rcases List.mem_cons.mp hq with rfl | hq
    · exact h.1
    · exact h.2 q hq⟩
set_option tactic.hygienic false in
theorem allT_iff {d : Addr} : ∀ {r : CbLed}, AllT d r ↔ @LE.le Nat _ (topA r) d
  | [] => ⟨fun _ => Nat.zero_le _, fun _ _ h => nomatch h⟩
  | p :: r => by
    rw [AllT_cons, allT_iff (r := r)]
    exact ⟨fun h => Nat.max_le.mpr ⟨h.1, h.2⟩, fun h => ⟨(Nat.max_le.mp h).1, (Nat.max_le.mp h).2⟩⟩
set_option tactic.hygienic false in
theorem ne_of_top {d : Addr} {r : CbLed} (h : @LE.le Nat _ (topA r) d) : ∀ p ∈ r, p.1 ≠ d := fun p hp => Nat.ne_of_lt (allT_iff.mpr h p hp)
noncomputable abbrev AllNe (d : Addr) (r : List (Addr × Obj)) : Prop := ∀ p ∈ r, p.1 ≠ d
noncomputable def Ask (A : Prop) (_ : Params → Frag) (_ : OpenLaw) : Prop := A
set_option tactic.hygienic false in
theorem Ask.out {A : Prop} (h : Ask A hd.heap_39 PySem.Challenge.rw_tc0010_02) : A := h
noncomputable def CodeOk (oc : Obj) (qual : Str) : Prop := ∃ (vs : Array Value) (t : Tok), oc.data = .fields vs ∧ vs[1]? = some (.str qual t)
noncomputable def Ap (A W : CbLed) : Prop := ∀ p ∈ A, AllNe p.1 W
set_option tactic.hygienic false in
theorem AllNe.app {Q : Addr} {a b : CbLed} (ha : AllNe Q a) (hb : AllNe Q b) : AllNe Q (a ++ b) := fun p hp => (List.mem_append.mp hp).elim (ha p) (hb p)
set_option tactic.hygienic false in
theorem size100 {n : Nat} (h : n ≤ 100000) : n ≤ sizeLine := by rw [sizeLine_eq]; omega
set_option tactic.hygienic false in
theorem reverse_lob {prog : Program} {w : World} {A : Around} {E : Value → Shared → Prop} {s : Shared} {h₀ : Heap} {L D : Addr} {m : Str → Option Value} {news news' : CbLed} {vs : List Value} {n : Nat} {Q : Value → Shared → Prop} (F : Fr h₀ L s.heap m) (N : News h₀ L s.heap news) (U : Upd D (lob vs n) (lob vs.reverse n) news news') (hz : vs.length ≤ 100000)
    (h : ∀ h', Fr h₀ L h' m → News h₀ L h' news' → Q .none { s with heap := h' }) : wpAny (model prog w) A (call (.builtin "list.reverse") [.ref D]) Q E s :=
  kl_reverse (its := vs.toArray) F N (by simp) U (by simpa using size100 hz) h
end Mine
end
section
open PySem PySem.W PyProof.Rows PySem.Calls PyProof.V
namespace Mine
structure TabD where
  f : Addr
  C : Addr
  P : Addr
  qn : Str
  specs : List (Int × Int × Str)
noncomputable def tables : List TabD :=
  [⟨84, 83, 79, "_int2digits", [(79, 4, "_int2digits.<locals>.inner")]⟩,
   ⟨91, 90, 86, "_digits2int", [(94, 4, "_digits2int.<locals>.inner")]⟩,
   ⟨144, 143, 139, "_law_lexer", [(148, 4, "_law_lexer.<locals>.read"), (152, 13, "_law_lexer.<locals>.<lambda>")]⟩]
structure Mk where
  ln : Int
  col : Int
  qual : Str
  c : Addr
noncomputable def flatM : List Mk → List Value
  | [] => []
  | m :: r => rawInt m.ln :: rawInt m.col :: .ref m.c :: flatM r
noncomputable def CodeAt (W : CbLed) (c : Addr) (q : Str) : Prop := ∃ oc, (c, oc) ∈ W ∧ CodeOk oc q ∧ ∀ t ∈ tables, @Ne Nat c t.P
structure TabsM (W : CbLed) : Prop where
  nd : (W.map Prod.fst).Nodup
  tab : ∀ t ∈ tables, ∃ made : List Mk, (t.P, tabObj (flatM made).toArray) ∈ W ∧ ∀ m ∈ made, CodeAt W m.c m.qual ∧ (m.ln, m.col, m.qual) ∈ t.specs
set_option tactic.hygienic false in
theorem flatM_app (x : Mk) : ∀ l : List Mk, flatM (l ++ [x]) = flatM l ++ [rawInt x.ln, rawInt x.col, .ref x.c]
  | [] => rfl
  | m :: l => by
    show rawInt m.ln :: rawInt m.col :: .ref m.c :: flatM (l ++ [x]) = _
    rw [flatM_app x l]; rfl
set_option tactic.hygienic false in
theorem flatM_ok : ∀ l : List Mk, TriplesOk (flatM l)
  | [] => True.intro
  | _ :: l => flatM_ok l
set_option tactic.hygienic false in
theorem flatM_hit {pos : Pos} : ∀ {l : List Mk} {v : Value}, codeAmong pos (flatM l) = some v → ∃ m ∈ l, v = .ref m.c ∧ m.ln = pos.line ∧ m.col = pos.col
  | [], _, h => by cases h
  | m :: l, v, h => by
    have h : (if m.ln == (pos.line : Int) && m.col == (pos.col : Int) then some (Value.ref m.c) else codeAmong pos (flatM l)) = some v := h
    by_cases hc : (m.ln == (pos.line : Int) && m.col == (pos.col : Int)) = true
    · rw [if_pos hc] at h
      injection h with h
      rw [Bool.and_eq_true, beq_iff_eq, beq_iff_eq] at hc
      exact ⟨m, .head _, h.symm, hc.1, hc.2⟩
    · rw [if_neg hc] at h
      obtain ⟨k, hk, e⟩ := flatM_hit h
      exact ⟨k, .tail _ hk, e⟩
noncomputable def putE (a : Addr) (ob : Obj) (es : CbLed) : CbLed := es.map fun p => if @Eq Nat p.1 a then (p.1, ob) else p
set_option tactic.hygienic false in
theorem putE_not {a : Addr} {ob : Obj} : ∀ {es : CbLed}, (∀ p ∈ es, p.1 ≠ a) → putE a ob es = es
  | [], _ => rfl
  | p :: es, h => by
    unfold putE
    rw [List.map_cons, if_neg (show ¬ @Eq Nat p.1 a from h p (.head _))]
    exact congrArg _ (putE_not fun q hq => h q (.tail _ hq))
set_option tactic.hygienic false in
theorem putE_fst {a : Addr} {ob : Obj} : ∀ {es : CbLed}, (putE a ob es).map Prod.fst = es.map Prod.fst
  | [] => rfl
  | p :: es => by
    show (if @Eq Nat p.1 a then (p.1, ob) else p).1 :: (putE a ob es).map Prod.fst = _
    rw [putE_fst (es := es)]
    split <;> rfl
set_option tactic.hygienic false in
theorem putE_mem {a : Addr} {ob : Obj} {es : CbLed} {p : Addr × Obj} (hp : p ∈ es) (h : p.1 ≠ a) : p ∈ putE a ob es :=
  List.mem_map.mpr ⟨p, hp, if_neg h⟩
set_option tactic.hygienic false in
theorem putE_at {a : Addr} {o ob : Obj} {es : CbLed} (hp : (a, o) ∈ es) : (a, ob) ∈ putE a ob es :=
  List.mem_map.mpr ⟨_, hp, if_pos rfl⟩
set_option tactic.hygienic false in
theorem tables_P : ∀ t ∈ tables, ∀ u ∈ tables, @Eq Nat t.P u.P → t = u := by
  intro t ht u hu
  simp only [tables, List.mem_cons, List.not_mem_nil, or_false] at ht hu
  rcases ht with rfl | rfl | rfl <;> rcases hu with rfl | rfl | rfl <;> intro e <;> first | rfl | exact absurd e (by decide)
set_option tactic.hygienic false in
theorem TabsM.more {W : CbLed} (h : TabsM W) {t : TabD} (ht : t ∈ tables) {made : List Mk} (hm : (t.P, tabObj (flatM made).toArray) ∈ W) (hmade : ∀ m ∈ made, CodeAt W m.c m.qual ∧ (m.ln, m.col, m.qual) ∈ t.specs)
    {x : Mk} {oc : Obj} (hx : CodeOk oc x.qual) (hs : (x.ln, x.col, x.qual) ∈ t.specs) (hc : ∀ p ∈ W, @LT.lt Nat _ p.1 x.c) :
    TabsM ((x.c, oc) :: putE t.P (tabObj (flatM (made ++ [x])).toArray) W) ∧ ∀ c q, CodeAt W c q → CodeAt ((x.c, oc) :: putE t.P (tabObj (flatM (made ++ [x])).toArray) W) c q := by
  have keep : ∀ c q, CodeAt W c q → CodeAt ((x.c, oc) :: putE t.P (tabObj (flatM (made ++ [x])).toArray) W) c q := by
    rintro c q ⟨o, h1, h2, h3⟩
    exact ⟨o, .tail _ (putE_mem h1 (h3 t ht)), h2, h3⟩
  refine ⟨⟨?_, ?_⟩, keep⟩
  · show (x.c :: (putE _ _ W).map Prod.fst).Nodup
    rw [putE_fst]
    refine List.nodup_cons.mpr ⟨fun hh => ?_, h.nd⟩
    obtain ⟨p, hp, e⟩ := List.mem_map.mp hh
    exact Nat.ne_of_lt (hc p hp) e
  · intro u hu
    by_cases e : @Eq Nat u.P t.P
    · have e := tables_P u hu t ht e
      subst e
      refine ⟨made ++ [x], .tail _ (putE_at hm), fun m hmm => ?_⟩
      rcases List.mem_append.mp hmm with hmm | hmm
      · exact ⟨keep _ _ (hmade m hmm).1, (hmade m hmm).2⟩
      · rw [List.mem_singleton.mp hmm]
        refine ⟨⟨oc, .head _, hx, fun v hv => ?_⟩, hs⟩
        obtain ⟨_, hvm, _⟩ := h.tab v hv
        exact Nat.ne_of_gt (hc _ hvm)
    · obtain ⟨md, h1, h2⟩ := h.tab u hu
      exact ⟨md, .tail _ (putE_mem h1 e), fun m hmm => ⟨keep _ _ (h2 m hmm).1, (h2 m hmm).2⟩⟩
end Mine
end
section
open PySem PySem.W PyProof.Rows PySem.Calls PyProof.V
namespace Mine
set_option tactic.hygienic false in
theorem clampN (a n : Nat) : max (0 : Int) (min (a : Int) (n : Int)) = ((min a n : Nat) : Int) := by omega
set_option tactic.hygienic false in
theorem clampM (a n : Nat) : max (0 : Int) (min ((min a n : Nat) : Int) (n : Int)) = ((min a n : Nat) : Int) := (clampN (min a n) n).trans (by rw [Nat.min_eq_left (Nat.min_le_right a n)])
set_option tactic.hygienic false in
theorem natNl (a : Nat) : ¬ ((a : Int) < 0) := Int.not_lt.mpr (Int.natCast_nonneg a)
set_option tactic.hygienic false in
theorem slice_clip (x : Str) (a b : Nat) : Txt.slice x (some (a : Int)) (some (b : Int)) = Txt.slice x (some ((min a x.length : Nat) : Int)) (some ((min b x.length : Nat) : Int)) := by
  unfold Txt.slice Builtin.Str.strSliceIndices
  have e1 := clampN a x.length
  have e2 := clampN b x.length
  have e3 := clampM a x.length
  have e4 := clampM b x.length
  have n1 := natNl a
  have n2 := natNl b
  have n3 := natNl (min a x.length)
  have n4 := natNl (min b x.length)
  simp only [n1, n2, n3, n4, if_false, show (1 : Int) > 0 by decide, if_true, e1, e2, e3, e4]
set_option tactic.hygienic false in
theorem slice_nat (x : Str) (a b : Nat) (h : a ≤ b) : Txt.slice x (some (a : Int)) (some (b : Int)) = ⟨((x.cps.toList.drop a).take (b - a)).toArray⟩ := by
  have e : x.cps.toList.length = x.length := by simp [Str.length]
  refine (slice_clip x a b).trans ?_
  refine (StrLaws.sliceText_nat x (a := min a x.length) (b := min b x.length) (by omega) (by omega)).trans ?_
  congr 2
  by_cases ha : a ≤ x.length
  · rw [Nat.min_eq_left ha]
    by_cases hb : b ≤ x.length
    · rw [Nat.min_eq_left hb]
    · rw [Nat.min_eq_right (by omega), List.take_of_length_le (by simp [e]), List.take_of_length_le (by simp [e]; omega)]
  · rw [Nat.min_eq_right (by omega), Nat.min_eq_right (by omega), List.drop_of_length_le (by simp [e]), List.drop_of_length_le (by simp [e]; omega)]
    simp
set_option tactic.hygienic false in
theorem slice_to (x : Str) (b : Nat) : Txt.slice x none (some (b : Int)) = ⟨(x.cps.toList.take b).toArray⟩ := by
  have e : Txt.slice x none (some (b : Int)) = Txt.slice x (some ((0 : Nat) : Int)) (some (b : Int)) := by unfold Txt.slice; rw [StrLaws.sliceIdx_none_lo]; rfl
  rw [e, slice_nat x 0 b (Nat.zero_le _)]
  simp
set_option tactic.hygienic false in
theorem slice_from (x : Str) (a : Nat) : Txt.slice x (some (a : Int)) none = ⟨(x.cps.toList.drop a).toArray⟩ := by
  have e : Txt.slice x (some (a : Int)) none = Txt.slice x (some (a : Int)) (some ((x.length + a : Nat) : Int)) := by
    unfold Txt.slice Builtin.Str.strSliceIndices
    have e1 : max (0 : Int) (min ((x.length + a : Nat) : Int) (x.length : Int)) = (x.length : Int) := by omega
    have n1 := natNl (x.length + a)
    simp only [n1, if_false, show (1 : Int) > 0 by decide, if_true, e1]
  rw [e, slice_nat x a _ (by omega), List.take_of_length_le (by simp [Str.length])]
set_option tactic.hygienic false in
theorem item_nat (x : Str) (i : Nat) (h : i < x.length) : ∃ c, x.cps.toList[i]? = some c ∧ Txt.item x (i : Int) = ⟨#[c]⟩ := by
  have hs : i < x.cps.size := h
  refine ⟨x.cps[i], by simp [hs], ?_⟩
  unfold Txt.item Txt.charAt
  have e : seqIndex? (i : Int) x.length = some i := by
    have n1 := natNl i
    have n2 : (0 : Int) ≤ (i : Int) := Int.natCast_nonneg i
    have n3 : (i : Int) < (x.length : Int) := Int.ofNat_lt.mpr h
    simp only [seqIndex?, if_neg n1, n2, n3, and_self, if_true, Int.toNat_natCast]
    try rfl
  rw [e]
  simp [hs]
noncomputable def pf : List Nat → List Nat
  | [] => []
  | c :: r => if c = 34 then (match r with | d :: r' => if d = 34 then 34 :: pf r' else [] | [] => []) else c :: pf r
set_option tactic.hygienic false in
theorem pf_nil : pf [] = [] := by unfold pf; rfl
set_option tactic.hygienic false in
theorem pf_cons {c : Nat} {r : List Nat} : pf (c :: r) = if c = 34 then (match r with | d :: r' => if d = 34 then 34 :: pf r' else [] | [] => []) else c :: pf r := by rw [pf.eq_def]
set_option tactic.hygienic false in
theorem pf_other {c : Nat} {r : List Nat} (h : c ≠ 34) : pf (c :: r) = c :: pf r := by rw [pf_cons, if_neg h]
set_option tactic.hygienic false in
theorem pf_two {r : List Nat} : pf (34 :: 34 :: r) = 34 :: pf r := by rw [pf_cons]; simp
theorem pf_end {r : List Nat} (h : r.head? ≠ some 34) : pf (34 :: r) = [] := by
  rw [pf_cons]
  cases r with
  | nil => simp
  | cons d r => have : d ≠ 34 := fun e => h (by simp [e]); simp [this]
set_option tactic.hygienic false in
theorem drop_cons {l : List Nat} {i : Nat} {c : Nat} (h : l[i]? = some c) : l.drop i = c :: l.drop (i + 1) := by
  obtain ⟨hl, e⟩ := List.getElem?_eq_some_iff.mp h
  rw [List.drop_eq_getElem_cons hl, e]
end Mine
end
section
open PySem PySem.W PyProof.Rows PySem.Calls PyProof.V
namespace Mine
inductive SV where
  | none
  | bool (b : Bool)
  | int (z : Int)
  | str (s : List Nat)
  | loc (k : Nat)
  | fn (v : Value)
structure CloD where
  name : Str
  qual : Str
  params : Arguments
  body : FuncBody
  scope : Scope
inductive SO where
  | list (vs : List SV)
  | tup (vs : List SV)
  | cell (v : Option SV)
  | frz (ob : Obj)
  | clo (d : CloD) (cells : List (Str × Nat)) (c : Addr) (dc : Option Nat)
  | inst (k : Nat)
  | ns (l : List (Str × SV))
  | meth (f : Addr) (k : Nat)
  | cit (k : Nat)
inductive Fl where
  | next
  | ret (v : SV)
  | brk
  | cont
noncomputable def strOf (l : List Nat) : Str := ⟨l.toArray⟩
noncomputable abbrev Loc := List (Str × SV)
noncomputable abbrev Led := List SO
noncomputable abbrev citX (q : Addr) (ts : Tok) : Obj := { cls := .type "callable_iterator", data := .fields #[.ref q, .str (Str.ofString "") ts, .bool false] }
noncomputable def Rep (ρ : List Addr) : SV → Value → Prop
  | .none, x => x = .none
  | .bool b, x => x = .bool b
  | .int z, x => ∃ t, x = .int z t
  | .str l, x => ∃ t, x = .str (strOf l) t
  | .loc k, x => ∃ a, ρ[k]? = some a ∧ x = .ref a
  | .fn v, x => x = v
noncomputable def RepL (ρ : List Addr) : List SV → List Value → Prop
  | [], [] => True
  | v :: vs, x :: xs => Rep ρ v x ∧ RepL ρ vs xs
  | _, _ => False
noncomputable def RepN (ρ : List Addr) : List (Str × SV) → List DictEntry → Prop
  | [], [] => True
  | p :: l, e :: es => (∃ u, e.key = .str p.1 u) ∧ Rep ρ p.2 e.val ∧ RepN ρ l es
  | _, _ => False
noncomputable def cellsOf (ρ : List Addr) (cells : List (Str × Nat)) : List (Str × Addr) := cells.map fun p => (p.1, (ρ[p.2]?).getD 0)
noncomputable def RepD (ρ : List Addr) : Option Nat → Option Addr → Prop
  | none, od => od = none
  | some k, od => ∃ a, ρ[k]? = some a ∧ od = some a
noncomputable abbrev cloOb (d : CloD) (cl : List (Str × Addr)) (doc pm : Value) (c : Addr) (ctv : Value) (od : Option Addr) : Obj :=
  { cls := .type "function", dict := od, data := .func (kdv_fn d.name d.qual d.params d.body d.scope cl .none doc pm (.ref c) ctv) }
noncomputable def RepO (ρ : List Addr) : SO → Obj → Prop
  | .list vs, o => ∃ xs c, RepL ρ vs xs ∧ o = lob xs c
  | .tup vs, o => ∃ xs c, RepL ρ vs xs ∧ o = tob xs c
  | .cell none, o => o.data = .cell none
  | .cell (some v), o => ∃ x, Rep ρ v x ∧ o.data = .cell (some x)
  | .frz ob, o => o = ob
  | .clo d cells c dc, o => ∃ doc pm ctv od, (∀ p ∈ cells, p.2 < ρ.length) ∧ RepD ρ dc od ∧ o = cloOb d (cellsOf ρ cells) doc pm c ctv od
  | .inst k, o => ∃ a, ρ[k]? = some a ∧ o = instObj 59 a
  | .ns l, o => ∃ es n, RepN ρ l es ∧ o = dictOf es n
  | .meth f k, o => ∃ a, ρ[k]? = some a ∧ o = methodObj (.ref f) (.ref a)
  | .cit k, o => ∃ a ts, ρ[k]? = some a ∧ o = citX a ts
noncomputable def RepE (ρ : List Addr) : List Addr → Led → CbLed → Prop
  | [], [], [] => True
  | a :: as, o :: os, (b, ob) :: es => b = a ∧ RepO ρ o ob ∧ RepE ρ as os es
  | _, _, _ => False
noncomputable def cV (n : Nat) : SV → Prop
  | .loc k => k < n
  | _ => True
noncomputable def cL (n : Nat) (vs : List SV) : Prop := ∀ v ∈ vs, cV n v
noncomputable def cO (n : Nat) : SO → Prop
  | .list vs => cL n vs
  | .tup vs => cL n vs
  | .cell (some v) => cV n v
  | .clo _ cells _ dc => (∀ p ∈ cells, p.2 < n) ∧ ∀ k, dc = some k → k < n
  | .inst k => k < n
  | .ns l => ∀ p ∈ l, cV n p.2
  | .meth _ k => k < n
  | .cit k => k < n
  | _ => True
noncomputable def Grow (ρ ρ' : List Addr) : Prop := ∀ (k : Nat) (a : Addr), ρ[k]? = some a → ρ'[k]? = some a
set_option tactic.hygienic false in
theorem Grow.refl {ρ : List Addr} : Grow ρ ρ := fun _ _ h => h
set_option tactic.hygienic false in
theorem Grow.trans {a b c : List Addr} (h : Grow a b) (g : Grow b c) : Grow a c := fun k x e => g k x (h k x e)
set_option tactic.hygienic false in
theorem Grow.app {ρ : List Addr} {a : List Addr} : Grow ρ (ρ ++ a) := fun k x e => by
  have hk := (List.getElem?_eq_some_iff.mp e).1
  rw [List.getElem?_append_left hk, e]
noncomputable def Mv (n : Nat) (ρ ρ' : List Addr) : Prop := ∀ (k : Nat) (a : Addr), k < n → ρ[k]? = some a → ρ'[k]? = some a
set_option tactic.hygienic false in
theorem ltOf {ρ : List Addr} {k : Nat} {a : Addr} (h : ρ[k]? = some a) : k < ρ.length := (List.getElem?_eq_some_iff.mp h).1
set_option tactic.hygienic false in
theorem Mv.lt {n : Nat} {ρ ρ' : List Addr} (g : Mv n ρ ρ') {k : Nat} (h : k < ρ.length) (hn : k < n) : k < ρ'.length :=
  ltOf (g k _ hn (List.getElem?_eq_getElem h))
set_option tactic.hygienic false in
theorem Mv.cells {n : Nat} {ρ ρ' : List Addr} (g : Mv n ρ ρ') {cells : List (Str × Nat)} (h : ∀ p ∈ cells, p.2 < ρ.length) (hn : ∀ p ∈ cells, p.2 < n) : cellsOf ρ' cells = cellsOf ρ cells :=
  List.map_congr_left fun p hp => by rw [g _ _ (hn p hp) (List.getElem?_eq_getElem (h p hp)), List.getElem?_eq_getElem (h p hp)]
set_option tactic.hygienic false in
theorem Rep.mv {n : Nat} {ρ ρ' : List Addr} (g : Mv n ρ ρ') {v : SV} {x : Value} (h : Rep ρ v x) (c : cV n v) : Rep ρ' v x := by
  cases v with
  | loc k => obtain ⟨a, h1, h2⟩ := h; exact ⟨a, g _ _ c h1, h2⟩
  | _ => exact h
set_option tactic.hygienic false in
theorem RepL.mv {n : Nat} {ρ ρ' : List Addr} (g : Mv n ρ ρ') : ∀ {vs : List SV} {xs : List Value}, RepL ρ vs xs → cL n vs → RepL ρ' vs xs
  | [], [], _, _ => True.intro
  | v :: _, _ :: _, h, c => ⟨h.1.mv g (c v (.head _)), RepL.mv g h.2 fun w hw => c w (.tail _ hw)⟩
  | [], _ :: _, h, _ => h
  | _ :: _, [], h, _ => h
set_option tactic.hygienic false in
theorem RepN.mv {n : Nat} {ρ ρ' : List Addr} (g : Mv n ρ ρ') : ∀ {l : List (Str × SV)} {es : List DictEntry}, RepN ρ l es → (∀ p ∈ l, cV n p.2) → RepN ρ' l es
  | [], [], _, _ => True.intro
  | p :: _, _ :: _, h, c => ⟨h.1, h.2.1.mv g (c p (.head _)), RepN.mv g h.2.2 fun w hw => c w (.tail _ hw)⟩
  | [], _ :: _, h, _ => h
  | _ :: _, [], h, _ => h
set_option tactic.hygienic false in
theorem RepO.mv {n : Nat} {ρ ρ' : List Addr} (g : Mv n ρ ρ') {o : SO} {ob : Obj} (h : RepO ρ o ob) (c : cO n o) : RepO ρ' o ob := by
  cases o with
  | list vs => obtain ⟨xs, k, h1, h2⟩ := h; exact ⟨xs, k, h1.mv g c, h2⟩
  | tup vs => obtain ⟨xs, k, h1, h2⟩ := h; exact ⟨xs, k, h1.mv g c, h2⟩
  | cell v =>
    cases v with
    | none => exact h
    | some v => obtain ⟨x, h1, h2⟩ := h; exact ⟨x, h1.mv g c, h2⟩
  | frz _ => exact h
  | clo d cells cc dc =>
    obtain ⟨doc, pm, ctv, od, h1, h2, h3⟩ := h
    refine ⟨doc, pm, ctv, od, fun p hp => g.lt (h1 p hp) (c.1 p hp), ?_, by rw [g.cells h1 c.1]; exact h3⟩
    cases dc with
    | none => exact h2
    | some k => obtain ⟨a, q1, q2⟩ := h2; exact ⟨a, g _ _ (c.2 k rfl) q1, q2⟩
  | inst k => obtain ⟨a, h1, h2⟩ := h; exact ⟨a, g _ _ c h1, h2⟩
  | ns l => obtain ⟨es, k, h1, h2⟩ := h; exact ⟨es, k, h1.mv g c, h2⟩
  | meth f k => obtain ⟨a, h1, h2⟩ := h; exact ⟨a, g _ _ c h1, h2⟩
  | cit k => obtain ⟨a, t, h1, h2⟩ := h; exact ⟨a, t, g _ _ c h1, h2⟩
set_option tactic.hygienic false in
theorem RepE.mv {n : Nat} {ρ ρ' : List Addr} (g : Mv n ρ ρ') : ∀ {as : List Addr} {os : Led} {es : CbLed}, RepE ρ as os es → (∀ o ∈ os, cO n o) → RepE ρ' as os es
  | [], [], [], _, _ => True.intro
  | _ :: _, o :: _, (_, _) :: _, h, c => ⟨h.1, h.2.1.mv g (c o (.head _)), RepE.mv g h.2.2 fun q hq => c q (.tail _ hq)⟩
  | [], _ :: _, _, h, _ => h
  | [], [], _ :: _, h, _ => h
  | _ :: _, [], _, h, _ => h
  | _ :: _, _ :: _, [], h, _ => h
set_option tactic.hygienic false in
theorem cV_of {ρ : List Addr} {v : SV} {x : Value} (h : Rep ρ v x) : cV ρ.length v := by
  cases v with
  | loc k => obtain ⟨a, h1, _⟩ := h; exact ltOf h1
  | _ => exact True.intro
set_option tactic.hygienic false in
theorem cL_of {ρ : List Addr} : ∀ {vs : List SV} {xs : List Value}, RepL ρ vs xs → cL ρ.length vs
  | [], [], _ => fun _ h => nomatch h
  | v :: vs, x :: xs, h => fun w hw => by
    rcases List.mem_cons.mp hw with rfl | hw
    · exact cV_of h.1
    · exact cL_of h.2 w hw
  | [], _ :: _, h => h.elim
  | _ :: _, [], h => h.elim
set_option tactic.hygienic false in
theorem cN_of {ρ : List Addr} : ∀ {l : List (Str × SV)} {es : List DictEntry}, RepN ρ l es → ∀ p ∈ l, cV ρ.length p.2
  | [], [], _ => fun _ h => nomatch h
  | v :: vs, x :: xs, h => fun w hw => by
    rcases List.mem_cons.mp hw with rfl | hw
    · exact cV_of h.2.1
    · exact cN_of h.2.2 w hw
  | [], _ :: _, h => h.elim
  | _ :: _, [], h => h.elim
set_option tactic.hygienic false in
theorem cO_of {ρ : List Addr} {o : SO} {ob : Obj} (h : RepO ρ o ob) : cO ρ.length o := by
  cases o with
  | list vs => obtain ⟨xs, k, h1, _⟩ := h; exact cL_of h1
  | tup vs => obtain ⟨xs, k, h1, _⟩ := h; exact cL_of h1
  | cell v =>
    cases v with
    | none => exact True.intro
    | some v => obtain ⟨x, h1, _⟩ := h; exact cV_of h1
  | frz _ => exact True.intro
  | clo d cells cc dc =>
    obtain ⟨_, _, _, _, h1, h2, _⟩ := h
    refine ⟨h1, fun k e => ?_⟩
    subst e
    obtain ⟨a, q1, _⟩ := h2
    exact ltOf q1
  | inst k => obtain ⟨a, h1, _⟩ := h; exact ltOf h1
  | ns l => obtain ⟨es, k, h1, _⟩ := h; exact cN_of h1
  | meth f k => obtain ⟨a, h1, _⟩ := h; exact ltOf h1
  | cit k => obtain ⟨a, t, h1, _⟩ := h; exact ltOf h1
set_option tactic.hygienic false in
theorem closed_of {ρ : List Addr} : ∀ {as : List Addr} {os : Led} {es : CbLed}, RepE ρ as os es → ∀ o ∈ os, cO ρ.length o
  | [], [], [], _, _, h => nomatch h
  | a :: as, o :: os, (b, ob) :: es, h, q, hq => by
    rcases List.mem_cons.mp hq with rfl | hq
    · exact cO_of h.2.1
    · exact closed_of h.2.2 q hq
  | [], _ :: _, _, h, _, _ => h.elim
  | [], [], _ :: _, h, _, _ => h.elim
  | _ :: _, [], _, h, _, _ => h.elim
  | _ :: _, _ :: _, [], h, _, _ => h.elim
set_option tactic.hygienic false in
theorem Grow.mv {n : Nat} {ρ ρ' : List Addr} (g : Grow ρ ρ') : Mv n ρ ρ' := fun k a _ e => g k a e
set_option tactic.hygienic false in
theorem Mv.take {n : Nat} {ρ : List Addr} : Mv n ρ (ρ.take n) := fun k a c e => by rw [List.getElem?_take_of_lt c]; exact e
set_option tactic.hygienic false in
theorem Rep.mono {ρ ρ' : List Addr} (g : Grow ρ ρ') {v : SV} {x : Value} (h : Rep ρ v x) : Rep ρ' v x := h.mv g.mv (cV_of h)
set_option tactic.hygienic false in
theorem RepL.mono {ρ ρ' : List Addr} (g : Grow ρ ρ') {vs : List SV} {xs : List Value} (h : RepL ρ vs xs) : RepL ρ' vs xs := h.mv g.mv (cL_of h)
set_option tactic.hygienic false in
theorem RepO.mono {ρ ρ' : List Addr} (g : Grow ρ ρ') {v : SO} {x : Obj} (h : RepO ρ v x) : RepO ρ' v x := h.mv g.mv (cO_of h)
set_option tactic.hygienic false in
theorem RepE.mono {ρ ρ' : List Addr} (g : Grow ρ ρ') {as : List Addr} {os : Led} {es : CbLed} (h : RepE ρ as os es) : RepE ρ' as os es := h.mv g.mv (closed_of h)
set_option tactic.hygienic false in
theorem Rep.take {n : Nat} {ρ : List Addr} {v : SV} {x : Value} (h : Rep ρ v x) (c : cV n v) : Rep (ρ.take n) v x := h.mv .take c
set_option tactic.hygienic false in
theorem RepL.take {n : Nat} {ρ : List Addr} {vs : List SV} {xs : List Value} (h : RepL ρ vs xs) (c : cL n vs) : RepL (ρ.take n) vs xs := h.mv .take c
set_option tactic.hygienic false in
theorem RepO.take {n : Nat} {ρ : List Addr} {o : SO} {ob : Obj} (h : RepO ρ o ob) (c : cO n o) : RepO (ρ.take n) o ob := h.mv .take c
set_option tactic.hygienic false in
theorem RepL.length {ρ : List Addr} : ∀ {vs : List SV} {xs : List Value}, RepL ρ vs xs → vs.length = xs.length
  | [], [], _ => rfl
  | _ :: _, _ :: _, h => congrArg (· + 1) (RepL.length h.2)
  | [], _ :: _, h => h.elim
  | _ :: _, [], h => h.elim
set_option tactic.hygienic false in
theorem RepL.get {ρ : List Addr} : ∀ {vs : List SV} {xs : List Value}, RepL ρ vs xs → ∀ {i : Nat} {v : SV}, vs[i]? = some v → ∃ x, xs[i]? = some x ∧ Rep ρ v x
  | [], [], _, _, _, h => by simp at h
  | a :: vs, x :: xs, h, 0, v, e => ⟨x, rfl, by simp at e; exact e ▸ h.1⟩
  | a :: vs, x :: xs, h, i + 1, v, e => RepL.get h.2 (by simpa using e)
  | [], _ :: _, h, _, _, _ => h.elim
  | _ :: _, [], h, _, _, _ => h.elim
set_option tactic.hygienic false in
theorem RepL.app {ρ : List Addr} : ∀ {vs ws : List SV} {xs ys : List Value}, RepL ρ vs xs → RepL ρ ws ys → RepL ρ (vs ++ ws) (xs ++ ys)
  | [], _, [], _, _, g => g
  | _ :: _, _, _ :: _, _, h, g => ⟨h.1, RepL.app h.2 g⟩
  | [], _, _ :: _, _, h, _ => h.elim
  | _ :: _, _, [], _, h, _ => h.elim
set_option tactic.hygienic false in
theorem RepL.rev {ρ : List Addr} : ∀ {vs : List SV} {xs : List Value}, RepL ρ vs xs → RepL ρ vs.reverse xs.reverse
  | [], [], _ => trivial
  | v :: vs, x :: xs, h => by
    rw [List.reverse_cons, List.reverse_cons]
    exact (RepL.rev h.2).app (show RepL ρ [v] [x] from ⟨h.1, trivial⟩)
  | [], _ :: _, h => h.elim
  | _ :: _, [], h => h.elim
set_option tactic.hygienic false in
theorem RepE.length {ρ : List Addr} : ∀ {as : List Addr} {os : Led} {es : CbLed}, RepE ρ as os es → as.length = os.length
  | [], [], [], _ => rfl
  | _ :: _, _ :: _, (_, _) :: _, h => congrArg (· + 1) (RepE.length h.2.2)
  | [], _ :: _, _, h => h.elim
  | [], [], _ :: _, h => h.elim
  | _ :: _, [], _, h => h.elim
  | _ :: _, _ :: _, [], h => h.elim
set_option tactic.hygienic false in
theorem RepE.fsts {ρ : List Addr} : ∀ {as : List Addr} {os : Led} {es : CbLed}, RepE ρ as os es → es.map Prod.fst = as
  | [], [], [], _ => rfl
  | a :: as, _ :: _, (b, _) :: es, h => by rw [List.map_cons, RepE.fsts h.2.2, ← h.1]
  | [], _ :: _, _, h => h.elim
  | [], [], _ :: _, h => h.elim
  | _ :: _, [], _, h => h.elim
  | _ :: _, _ :: _, [], h => h.elim
set_option tactic.hygienic false in
theorem RepE.get {ρ : List Addr} : ∀ {as : List Addr} {os : Led} {es : CbLed}, RepE ρ as os es → ∀ {k : Nat} {a : Addr} {o : SO}, as[k]? = some a → os[k]? = some o → ∃ ob, (a, ob) ∈ es ∧ RepO ρ o ob
  | [], [], [], _, _, _, _, h, _ => by simp at h
  | a :: as, o :: os, (b, ob) :: es, h, 0, a', o', e1, e2 => by
    simp at e1 e2
    subst e1; subst e2
    exact ⟨ob, by rw [h.1]; exact .head _, h.2.1⟩
  | a :: as, o :: os, (b, ob) :: es, h, k + 1, a', o', e1, e2 => by
    obtain ⟨x, h1, h2⟩ := RepE.get h.2.2 (k := k) (by simpa using e1) (by simpa using e2)
    exact ⟨x, .tail _ h1, h2⟩
  | [], _ :: _, _, h, _, _, _, _, _ => h.elim
  | [], [], _ :: _, h, _, _, _, _, _ => h.elim
  | _ :: _, [], _, h, _, _, _, _, _ => h.elim
  | _ :: _, _ :: _, [], h, _, _, _, _, _ => h.elim
set_option tactic.hygienic false in
theorem RepE.app {ρ : List Addr} {a : Addr} {o : SO} {ob : Obj} (ho : RepO ρ o ob) : ∀ {as : List Addr} {os : Led} {es : CbLed}, RepE ρ as os es → RepE ρ (as ++ [a]) (os ++ [o]) (es ++ [(a, ob)])
  | [], [], [], _ => ⟨rfl, ho, trivial⟩
  | _ :: _, _ :: _, (_, _) :: _, h => ⟨h.1, h.2.1, RepE.app ho h.2.2⟩
  | [], _ :: _, _, h => h.elim
  | [], [], _ :: _, h => h.elim
  | _ :: _, [], _, h => h.elim
  | _ :: _, _ :: _, [], h => h.elim
theorem RepE.put {ρ : List Addr} {o : SO} {ob : Obj} (ho : RepO ρ o ob) : ∀ {as : List Addr} {os : Led} {es : CbLed}, RepE ρ as os es → as.Nodup → ∀ {k : Nat} {a : Addr}, as[k]? = some a → RepE ρ as (os.set k o) (putE a ob es)
  | [], [], [], _, _, _, _, h => by simp at h
  | a :: as, o' :: os, (b, ob') :: es, h, hn, 0, a', e1 => by
    simp at e1
    subst e1
    have hb : b = a := h.1
    have hf := h.2.2.fsts
    have hna := (List.nodup_cons.mp hn).1
    have hnot : ∀ p ∈ es, p.1 ≠ a := fun p hp e => hna (by rw [← hf]; exact List.mem_map.mpr ⟨p, hp, e⟩)
    show RepE ρ (a :: as) (o :: os) ((if @Eq Nat b a then (b, ob) else (b, ob')) :: putE a ob es)
    rw [if_pos hb, putE_not hnot]
    exact ⟨hb, ho, h.2.2⟩
  | a :: as, o' :: os, (b, ob') :: es, h, hn, k + 1, a', e1 => by
    have e1' : as[k]? = some a' := by simpa using e1
    have hna := (List.nodup_cons.mp hn).1
    have hne : ¬ @Eq Nat b a' := fun e => hna (by
      have : a = a' := h.1.symm.trans e
      rw [this]; exact List.mem_of_getElem? e1')
    show RepE ρ (a :: as) (o' :: os.set k o) ((if @Eq Nat b a' then (b, ob) else (b, ob')) :: putE a' ob es)
    rw [if_neg hne]
    exact ⟨h.1, h.2.1, RepE.put ho h.2.2 (List.nodup_cons.mp hn).2 e1'⟩
  | [], _ :: _, _, h, _, _, _, _ => h.elim
  | [], [], _ :: _, h, _, _, _, _ => h.elim
  | _ :: _, [], _, h, _, _, _, _ => h.elim
  | _ :: _, _ :: _, [], h, _, _, _, _ => h.elim
structure Rt where
  w : World
  mean : ExcName → Option Value
  mg : Str → Option Value
  mb : Str → Option Value
  loose : List Str
  dp : Nat
  un : Nat
  gd : Option (List Code)
  cn : Str
  cs : Scope
  a : Addr
  ccd : Value
  cl : List (Str × Addr)
  outer : List Env
  A₀ : Around
  base : Heap
  h₀ : Heap
  L : Addr
noncomputable abbrev Rt.A (R : Rt) : Around := ktrTop R.dp R.un R.gd R.cn R.cs R.L R.a R.ccd R.cl R.outer
noncomputable abbrev Rt.env (R : Rt) : Env := envX R.cn R.cs R.L R.a R.ccd R.cl
noncomputable abbrev Rt.M (R : Rt) : Model := model PySem.Challenge.rw_tc0010_02.row.prog R.w
structure Rt.Ok (R : Rt) (D U : Nat) : Prop where
  below : Below R.A₀ R.base R.outer R.h₀
  inn : (hd.heap_39 R.w.params).In R.h₀
  top : Top topProg R.loose R.mean R.mg R.mb R.h₀
  code : ∀ t ∈ tables, CodeHd R.base t.C t.P
  kind : R.cs.kind = .function
  dep : R.dp + D < recursionLimit
  uni : R.un + U < cLine
set_option tactic.hygienic false in
theorem Rt.Ok.mono {R : Rt} {D U D' U' : Nat} (h : R.Ok D U) (hD : D' ≤ D) (hU : U' ≤ U) : R.Ok D' U' :=
  ⟨h.below, h.inn, h.top, h.code, h.kind, Nat.lt_of_le_of_lt (Nat.add_le_add_left hD _) h.dep, Nat.lt_of_le_of_lt (Nat.add_le_add_left hU _) h.uni⟩
noncomputable def CodeOb (W : CbLed) (ob : Obj) : Prop := match ob.data with
  | .func fd => ∃ c, fd.code = .ref c ∧ CodeAt W c fd.qualname
  | _ => True
structure Dat (ρ : List Addr) (led : Led) (ex es W : CbLed) : Prop where
  e : RepE ρ ρ led es
  nd : ρ.Nodup
  ap : ∀ a ∈ ρ, AllNe a ex
  tb : TabsM W
  aw : Ap (es ++ ex) W
  co : ∀ p ∈ es ++ ex, CodeOb W p.2
noncomputable def Sim (R : Rt) (h : Heap) (ρ : List Addr) (led : Led) (ex : CbLed) : Prop :=
  ∃ es W, Dat ρ led ex es W ∧ News R.h₀ R.L h (es ++ (ex ++ W))
section
variable {R : Rt} {h h' : Heap} {ρ : List Addr} {led : Led} {ex ex' es W : CbLed}
set_option tactic.hygienic false in
theorem Dat.length (d : Dat ρ led ex es W) : ρ.length = led.length := d.e.length
set_option tactic.hygienic false in
theorem Sim.length (S : Sim R h ρ led ex) : ρ.length = led.length := let ⟨_, _, d, _⟩ := S; d.length
set_option tactic.hygienic false in
theorem Dat.last (d : Dat ρ led ex es W) {D : Addr} : (ρ ++ [D])[led.length]? = some D := by
  rw [← d.length]; simp
set_option tactic.hygienic false in
theorem Dat.mem (d : Dat ρ led ex es W) {a : Addr} {o : Obj} (h : (a, o) ∈ es) : a ∈ ρ := by
  rw [← d.e.fsts]; exact List.mem_map.mpr ⟨_, h, rfl⟩
set_option tactic.hygienic false in
theorem Dat.nds (d : Dat ρ led ex es W) : (es.map Prod.fst).Nodup := by rw [d.e.fsts]; exact d.nd
set_option tactic.hygienic false in
theorem Dat.off (d : Dat ρ led ex es W) {a : Addr} {o : Obj} (h : (a, o) ∈ es) : AllNe a (ex ++ W) :=
  AllNe.app (d.ap a (d.mem h)) (d.aw (a, o) (List.mem_append_left _ h))
set_option tactic.hygienic false in
theorem Dat.sub (d : Dat ρ led ex es W) (hs : ∀ p ∈ ex', p ∈ ex) : Dat ρ led ex' es W :=
  have h : ∀ p ∈ es ++ ex', p ∈ es ++ ex := fun p hp => (List.mem_append.mp hp).elim (List.mem_append_left _) fun h => List.mem_append_right _ (hs p h)
  ⟨d.e, d.nd, fun a ha p hp => d.ap a ha p (hs p hp), d.tb, fun p hp => d.aw p (h p hp), fun p hp => d.co p (h p hp)⟩
set_option tactic.hygienic false in
theorem Dat.add (d : Dat ρ led ex es W) {D : Addr} {o : Obj} (hD : AllNe D (es ++ (ex ++ W))) (hq : CodeOb W o) : Dat ρ led ((D, o) :: ex) es W := by
  refine ⟨d.e, d.nd, fun a ha => List.forall_mem_cons.mpr ⟨fun e => ?_, d.ap a ha⟩, d.tb, fun p hp => ?_, fun p hp => ?_⟩
  · rw [← d.e.fsts] at ha
    obtain ⟨q, hq, rfl⟩ := List.mem_map.mp ha
    exact hD q (List.mem_append_left _ hq) e.symm
  · rcases List.mem_append.mp hp with hp | hp
    · exact d.aw p (List.mem_append_left _ hp)
    rcases List.mem_cons.mp hp with rfl | hp
    · exact fun q hq => hD q (List.mem_append_right _ (List.mem_append_right _ hq))
    · exact d.aw p (List.mem_append_right _ hp)
  · rcases List.mem_append.mp hp with hp | hp
    · exact d.co p (List.mem_append_left _ hp)
    rcases List.mem_cons.mp hp with rfl | hp
    · exact hq
    · exact d.co p (List.mem_append_right _ hp)
set_option tactic.hygienic false in
theorem Dat.new (d : Dat ρ led ex es W) {D : Addr} {o : SO} {ob : Obj} (hD : AllNe D (es ++ (ex ++ W))) (ho : RepO (ρ ++ [D]) o ob) (hc : CodeOb W ob) : Dat (ρ ++ [D]) (led ++ [o]) ex (es ++ [(D, ob)]) W := by
  have d2 := d.add (o := ob) hD hc
  have hm : ∀ p ∈ (es ++ [(D, ob)]) ++ ex, p ∈ es ++ ((D, ob) :: ex) := fun p hp => by rw [List.append_assoc] at hp; exact hp
  refine ⟨(d.e.mono Grow.app).app ho, List.nodup_append.mpr ⟨d.nd, List.nodup_cons.mpr ⟨(fun h => nomatch h), List.nodup_nil⟩, fun a ha b hb e => ?_⟩, fun a ha => ?_, d.tb, fun p hp => d2.aw p (hm p hp), fun p hp => d2.co p (hm p hp)⟩
  · rw [List.mem_singleton.mp hb] at e
    exact d2.ap a ha (D, ob) (.head _) e.symm
  · rcases List.mem_append.mp ha with ha | ha
    · exact d.ap a ha
    · rw [List.mem_singleton.mp ha]
      exact fun p hp => hD p (List.mem_append_right _ (List.mem_append_left _ hp))
set_option tactic.hygienic false in
theorem news_snoc {D : Addr} {ob : Obj} {x : CbLed} (N : News R.h₀ R.L h ((D, ob) :: (es ++ x))) : News R.h₀ R.L h ((es ++ [(D, ob)]) ++ x) := cb_drop N fun p hp => by
  rw [List.append_assoc] at hp
  rcases List.mem_append.mp hp with hp | hp
  · exact .tail _ (List.mem_append_left _ hp)
  rcases List.mem_cons.mp hp with rfl | hp
  · exact .head _
  · exact .tail _ (List.mem_append_right _ hp)
set_option tactic.hygienic false in
theorem Dat.alloc (d : Dat ρ led ex es W) {D : Addr} {o : SO} {ob : Obj} (N : News R.h₀ R.L h' ((D, ob) :: (es ++ (ex ++ W)))) (hD : AllNe D (es ++ (ex ++ W))) (ho : RepO (ρ ++ [D]) o ob) (hc : CodeOb W ob) :
    Sim R h' (ρ ++ [D]) (led ++ [o]) ex := ⟨_, W, d.new hD ho hc, news_snoc N⟩
set_option tactic.hygienic false in
theorem Dat.set (d : Dat ρ led ex es W) {k : Nat} {a : Addr} {o' : SO} {ob : Obj} (ha : ρ[k]? = some a) (hr : RepO ρ o' ob) (hc : CodeOb W ob) : Dat ρ (led.set k o') ex (putE a ob es) W := by
  refine ⟨d.e.put hr d.nd ha, d.nd, d.ap, d.tb, fun p hp => ?_, fun p hp => ?_⟩
  · rcases List.mem_append.mp hp with hp | hp
    · have hf : p.1 ∈ (putE a ob es).map Prod.fst := List.mem_map.mpr ⟨p, hp, rfl⟩
      rw [putE_fst] at hf
      obtain ⟨q, hq, e⟩ := List.mem_map.mp hf
      rw [← e]
      exact d.aw q (List.mem_append_left _ hq)
    · exact d.aw p (List.mem_append_right _ hp)
  · rcases List.mem_append.mp hp with hp | hp
    · obtain ⟨q, hq, e⟩ := List.mem_map.mp hp
      by_cases h : @Eq Nat q.1 a
      · rw [if_pos h] at e
        rw [← e]; exact hc
      · rw [if_neg h] at e
        rw [← e]; exact d.co q (List.mem_append_left _ hq)
    · exact d.co p (List.mem_append_right _ hp)
set_option tactic.hygienic false in
theorem Sim.obj (S : Sim R h ρ led ex) {k : Nat} {a : Addr} {o : SO} (ha : ρ[k]? = some a) (ho : led[k]? = some o) :
    ∃ ob es W, RepO ρ o ob ∧ (a, ob) ∈ es ++ (ex ++ W) ∧ News R.h₀ R.L h (es ++ (ex ++ W)) := by
  obtain ⟨es, W, d, N⟩ := S
  obtain ⟨ob, hm, hr⟩ := d.e.get ha ho
  exact ⟨ob, es, W, hr, List.mem_append_left _ hm, N⟩
end
set_option tactic.hygienic false in
theorem upd_put {a : Addr} {ob ob' : Obj} : ∀ {es : CbLed} {r : CbLed}, (es.map Prod.fst).Nodup → (a, ob) ∈ es → (∀ p ∈ r, p.1 ≠ a) → Upd a ob ob' (es ++ r) (putE a ob' es ++ r)
  | [], _, _, h, _ => by cases h
  | (b, o) :: es, r, hn, h, hr => by
    have hn1 := List.nodup_cons.mp (show (b :: es.map Prod.fst).Nodup from hn)
    rcases List.mem_cons.mp h with e | h
    · injection e with e1 e2
      subst e1; subst e2
      have hnot : ∀ p ∈ es, p.1 ≠ a := fun p hp e => hn1.1 (List.mem_map.mpr ⟨p, hp, e⟩)
      have e3 : putE a ob' ((a, ob) :: es) = (a, ob') :: es := by
        show (if @Eq Nat a a then (a, ob') else (a, ob)) :: putE a ob' es = _
        rw [if_pos rfl, putE_not hnot]
      rw [e3]
      refine .head fun p hp => ?_
      rcases List.mem_append.mp hp with hp | hp
      · exact hnot p hp
      · exact hr p hp
    · have hne : b ≠ a := fun e => hn1.1 (by rw [e]; exact List.mem_map.mpr ⟨_, h, rfl⟩)
      have e3 : putE a ob' ((b, o) :: es) = (b, o) :: putE a ob' es := by
        show (if @Eq Nat b a then (b, ob') else (b, o)) :: putE a ob' es = _
        rw [if_neg hne]
      rw [e3]
      exact .tail hne (upd_put hn1.2 h hr)
theorem updF_put {a : Addr} {ob : Obj} : ∀ {es : CbLed} {r : CbLed}, (es.map Prod.fst).Nodup → (a, ob) ∈ es → (∀ p ∈ r, p.1 ≠ a) → UpdF a ob (es ++ r) (fun o' => putE a o' es ++ r)
  | [], _, _, h, _ => by cases h
  | (b, o) :: es, r, hn, h, hr => by
    have hn1 := List.nodup_cons.mp (show (b :: es.map Prod.fst).Nodup from hn)
    rcases List.mem_cons.mp h with e | h
    · injection e with e1 e2
      subst e1; subst e2
      have hnot : ∀ p ∈ es, p.1 ≠ a := fun p hp e => hn1.1 (List.mem_map.mpr ⟨p, hp, e⟩)
      have e3 : ∀ o', putE a o' ((a, ob) :: es) = (a, o') :: es := by
        intro o'
        show (if @Eq Nat a a then (a, o') else (a, ob)) :: putE a o' es = _
        rw [if_pos rfl, putE_not hnot]
      have e4 : (fun o' => putE a o' ((a, ob) :: es) ++ r) = fun o' => (a, o') :: (es ++ r) := by
        funext o'; rw [e3]; rfl
      rw [e4]
      refine .head fun p hp => ?_
      rcases List.mem_append.mp hp with hp | hp
      · exact hnot p hp
      · exact hr p hp
    · have hne : b ≠ a := fun e => hn1.1 (by rw [e]; exact List.mem_map.mpr ⟨_, h, rfl⟩)
      have e3 : ∀ o', putE a o' ((b, o) :: es) = (b, o) :: putE a o' es := by
        intro o'
        show (if @Eq Nat b a then (b, o') else (b, o)) :: putE a o' es = _
        rw [if_neg hne]
      have e4 : (fun o' => putE a o' ((b, o) :: es) ++ r) = fun o' => (b, o) :: (putE a o' es ++ r) := by
        funext o'; rw [e3]; rfl
      rw [e4]
      exact .tail hne (updF_put hn1.2 h hr)
set_option tactic.hygienic false in
theorem Sim.upd {R : Rt} {h : Heap} {ρ : List Addr} {led : Led} {ex : CbLed} (S : Sim R h ρ led ex) {k : Nat} {a : Addr} {o : SO} (ha : ρ[k]? = some a) (ho : led[k]? = some o) :
    ∃ ob es r, RepO ρ o ob ∧ News R.h₀ R.L h (es ++ r) ∧ (a, ob) ∈ es ∧ (es.map Prod.fst).Nodup ∧ (∀ p ∈ r, p.1 ≠ a) ∧
      ∀ o' ob' h', (∀ W, CodeOb W ob → CodeOb W ob') → RepO ρ o' ob' → News R.h₀ R.L h' (putE a ob' es ++ r) → Sim R h' ρ (led.set k o') ex := by
  obtain ⟨es, W, d, N⟩ := S
  obtain ⟨ob, hm, hr⟩ := d.e.get ha ho
  exact ⟨ob, es, ex ++ W, hr, N, hm, d.nds, d.off hm, fun o' ob' h' hc ho' N' => ⟨_, W, d.set ha ho' (hc W (d.co _ (List.mem_append_left _ hm))), N'⟩⟩
set_option tactic.hygienic false in
theorem CodeOb.fields {ob : Obj} {vs : Array Value} (h : ob.data = .fields vs) : ∀ W, CodeOb W ob := fun W => by
  unfold CodeOb; rw [h]; exact True.intro
set_option tactic.hygienic false in
theorem CodeOb.of {W : CbLed} {ob : Obj} {v : Option Value} (h : ob.data = .cell v) : CodeOb W ob := by
  unfold CodeOb; rw [h]; exact True.intro
noncomputable def cLoc (n : Nat) (loc : Loc) : Prop := ∀ p ∈ loc, cV n p.2
noncomputable def Trim (n : Nat) (loc : Loc) (led led₂ : Led) (loc₂ : Loc) : Prop := (∃ j, loc₂ = loc.take j) ∧ (led₂ = led ∨ (n ≤ led.length ∧ (∀ o ∈ led.take n, cO n o) ∧ cLoc n loc₂ ∧ led₂ = led.take n))
set_option tactic.hygienic false in
theorem RepE.take {n : Nat} {ρ : List Addr} : ∀ (j : Nat) {as : List Addr} {os : Led} {es : CbLed}, RepE ρ as os es → (∀ o ∈ os.take j, cO n o) → RepE (ρ.take n) (as.take j) (os.take j) (es.take j)
  | 0, _, _, _, _, _ => by simp only [List.take_zero]; trivial
  | j + 1, [], [], [], _, _ => trivial
  | j + 1, a :: as, o :: os, (b, ob) :: es, h, c => ⟨h.1, h.2.1.take (c o (.head _)), RepE.take j h.2.2 fun q hq => c q (.tail _ hq)⟩
  | _ + 1, [], _ :: _, _, h, _ => h.elim
  | _ + 1, [], [], _ :: _, h, _ => h.elim
  | _ + 1, _ :: _, [], _, h, _ => h.elim
  | _ + 1, _ :: _, _ :: _, [], h, _ => h.elim
set_option tactic.hygienic false in
theorem Grow.take {n : Nat} {ρ₀ ρ : List Addr} (g : Grow ρ₀ ρ) (h : ρ₀.length ≤ n) : Grow ρ₀ (ρ.take n) := fun k a e => by
  have hk := (List.getElem?_eq_some_iff.mp e).1
  rw [List.getElem?_take_of_lt (by omega)]
  exact g k a e
set_option tactic.hygienic false in
theorem Dat.take {ρ : List Addr} {led : Led} {ex es W : CbLed} (d : Dat ρ led ex es W) {n : Nat} (c : ∀ o ∈ led.take n, cO n o) : Dat (ρ.take n) (led.take n) ex (es.take n) W :=
  ⟨d.e.take n c, d.nd.sublist (List.take_sublist _ _), fun a ha => d.ap a (List.mem_of_mem_take ha), d.tb, fun p hp => d.aw p ((List.mem_append.mp hp).elim (fun h => List.mem_append_left _ (List.mem_of_mem_take h)) (List.mem_append_right _)), fun p hp => d.co p ((List.mem_append.mp hp).elim (fun h => List.mem_append_left _ (List.mem_of_mem_take h)) (List.mem_append_right _))⟩
set_option tactic.hygienic false in
theorem Sim.take {R : Rt} {h : Heap} {ρ : List Addr} {led : Led} {ex : CbLed} (S : Sim R h ρ led ex) {n : Nat} (c : ∀ o ∈ led.take n, cO n o) : Sim R h (ρ.take n) (led.take n) ex := by
  obtain ⟨es, W, d, N⟩ := S
  exact ⟨_, W, d.take c, fun p hp => N p ((List.mem_append.mp hp).elim (fun h => List.mem_append_left _ (List.mem_of_mem_take h)) (List.mem_append_right _))⟩
end Mine
end
section
open PySem PySem.W PyProof.Rows PySem.Calls PyProof.V
namespace Mine
noncomputable abbrev Spec := List SV → Led → (SV → Led → Prop) → Prop
structure Cx where
  kind : Str → Option NameKind
  cel : List (Str × Nat)
  glob : Str → Option Value
  fn : Addr → Option Spec
  room : Nat
  tab : Option TabD
  lst : Option (Addr × List Int) := none
structure Rec where
  ev : Cx → Expr → Loc → Led → (SV → Led → Prop) → Prop
  et : Cx → Expr → Loc → Led → (Bool → Led → Prop) → Prop
  ea : Cx → List Expr → Loc → Led → (List SV → Led → Prop) → Prop
  ex : Cx → Stmt → Loc → Led → (Fl → Loc → Led → Prop) → Prop
  xs : Cx → List Stmt → Loc → Led → (Fl → Loc → Led → Prop) → Prop
noncomputable def ofV : Value → SV
  | .int z _ => .int z
  | .str s _ => .str s.cps.toList
  | v => .fn v
set_option tactic.hygienic false in
theorem ofV_rep {ρ : List Addr} {v : Value} : Rep ρ (ofV v) v := by
  cases v <;> first | exact ⟨_, rfl⟩ | rfl
noncomputable def xname (cx : Cx) (x : Str) (loc : Loc) (led : Led) : Option SV :=
  match cx.kind x with
  | some .local => loc.lookup x
  | some .cell => match cx.cel.lookup x with
    | some k => match led[k]? with
      | some (.cell v) => v
      | _ => none
    | none => none
  | some .free => match cx.cel.lookup x with
    | some k => match led[k]? with
      | some (.cell v) => v
      | _ => none
    | none => none
  | some .globalImplicit => (cx.glob x).map ofV
  | _ => none
noncomputable def okName (x : Str) : Bool := !(x == Str.ofString "__debug__") && !(x == Str.ofString "__classdict__")
noncomputable def xbI (op : Operator) (a b : Int) (led : Led) (K : SV → Led → Prop) : Prop :=
  match op with
  | .Add => K (.int (a + b)) led
  | .Sub => K (.int (a - b)) led
  | .Mult => IntMulOk a b ∧ K (.int (a * b)) led
  | .FloorDiv => b ≠ 0 ∧ Builtin.divisionGoesByPylong a b = false ∧ K (.int (a.fdiv b)) led
  | .Mod => b ≠ 0 ∧ K (.int (a.fmod b)) led
  | .Pow => 0 ≤ b ∧ b ≤ 1000000 ∧ a.natAbs < 2 ^ 64 ∧ K (.int (a ^ b.toNat)) led
  | .LShift => 0 ≤ b ∧ (Builtin.Int.intBits a : Int) + b ≤ 2 ^ 27 ∧ K (.int (a * 2 ^ b.toNat)) led
  | .RShift => 0 ≤ b ∧ K (.int (a.fdiv (2 ^ b.toNat))) led
  | .BitXor => K (.int (Builtin.bitXor a b)) led
  | .BitAnd => K (.int (Builtin.bitAnd a b)) led
  | _ => False
noncomputable def xbS (op : Operator) (a b : List Nat) (led : Led) (K : SV → Led → Prop) : Prop :=
  match op with
  | .Add => a.length + b.length ≤ 16777216 ∧ K (.str (a ++ b)) led
  | _ => False
noncomputable def xbR (op : Operator) (a : List Nat) (n : Int) (led : Led) (K : SV → Led → Prop) : Prop :=
  match op with
  | .Mult => MulOk (strOf a) n ∧ K (.str (Txt.mul (strOf a) n).cps.toList) led
  | _ => False
noncomputable def xbM (op : Operator) (o : Option SO) (n : Int) (led : Led) (K : SV → Led → Prop) : Prop :=
  match op with
  | .Mult => match o with
    | some (.list vs) => n < 1000 ∧ -1000 < n ∧ vs.length * n.toNat ≤ 256 ∧ K (.loc led.length) (led ++ [.list (List.replicate n.toNat vs).flatten])
    | _ => False
  | _ => False
noncomputable def xbA (op : Operator) (o u : Option SO) (led : Led) (K : SV → Led → Prop) : Prop :=
  match op with
  | .Add => match o with
    | some (.list vs) => match u with
      | some (.list ws) => vs.length + ws.length ≤ 100000 ∧ K (.loc led.length) (led ++ [.list (vs ++ ws)])
      | _ => False
    | _ => False
  | _ => False
noncomputable def xbin (op : Operator) (a b : SV) (led : Led) (K : SV → Led → Prop) : Prop :=
  match a with
  | .int a => match b with
    | .int b => xbI op a b led K
    | _ => False
  | .str a => match b with
    | .str b => xbS op a b led K
    | .int n => xbR op a n led K
    | _ => False
  | .loc k => match b with
    | .int n => xbM op led[k]? n led K
    | .loc j => xbA op led[k]? led[j]? led K
    | _ => False
  | _ => False
noncomputable def xcI (op : CmpOp) (a b : Int) (K : Bool → Prop) : Prop :=
  match op with
  | .Eq => K (decide (a = b))
  | .NotEq => K (!decide (a = b))
  | .Lt => K (decide (a < b))
  | .LtE => K (decide (a ≤ b))
  | .Gt => K (decide (b < a))
  | .GtE => K (decide (b ≤ a))
  | _ => False
noncomputable def xcS (op : CmpOp) (a b : List Nat) (K : Bool → Prop) : Prop :=
  match op with
  | .Eq => K (decide (a = b))
  | .NotEq => K (!decide (a = b))
  | .In => ∃ c, a = [c] ∧ K (decide (c ∈ b))
  | .NotIn => ∃ c, a = [c] ∧ K (!decide (c ∈ b))
  | _ => False
noncomputable def xcmp (op : CmpOp) (a b : SV) (K : Bool → Prop) : Prop :=
  match a with
  | .int a => match b with
    | .int b => xcI op a b K
    | _ => False
  | .str a => match b with
    | .str b => xcS op a b K
    | _ => False
  | _ => False
noncomputable def xun (op : UnaryOp) (a : SV) (K : SV → Prop) : Prop :=
  match a with
  | .int a => match op with
    | .USub => K (.int (-a))
    | .Invert => K (.int (Builtin.bitNot a))
    | _ => False
  | _ => False
noncomputable def xtruth (v : SV) (K : Bool → Prop) : Prop :=
  match v with
  | .bool b => K b
  | .int z => K (!decide (z = 0))
  | _ => False
noncomputable def isStar : Expr → Bool
  | .Starred _ _ => true
  | _ => false
noncomputable def isSet : Expr → Bool
  | .Set _ _ _ => true
  | _ => false
section
variable {R : Rt} {m : Str → Option Value} {s : Shared} {ρ : List Addr} {led : Led} {ex : CbLed}
noncomputable def PostE (R : Rt) (K : SV → Led → Prop) (ρ : List Addr) (ex : CbLed) (m : Str → Option Value) (s : Shared) (Q : Value → Shared → Prop) : Prop :=
  ∀ v x ρ' led' h' tk', K v led' → Grow ρ ρ' → Rep ρ' v x → Fr R.h₀ R.L h' m → Sim R h' ρ' led' ex → Q x { s with heap := h', toks := tk' }
set_option tactic.hygienic false in
theorem str_mk {l : List Nat} : (strOf l).cps.toList = l := by simp [strOf]
set_option tactic.hygienic false in
theorem strOf_of (x : Str) : strOf x.cps.toList = x := rfl
set_option tactic.hygienic false in
theorem strOf_app {a b : List Nat} : strOf a ++ strOf b = strOf (a ++ b) := by
  show (⟨a.toArray ++ b.toArray⟩ : Str) = ⟨(a ++ b).toArray⟩
  simp
set_option tactic.hygienic false in
theorem strOf_len {a : List Nat} : (strOf a).length = a.length := by simp [strOf, Str.length]
theorem strOf_beq {a b : List Nat} : (strOf a == strOf b) = decide (a = b) := by
  by_cases h : a = b
  · subst h; simp
  · rw [decide_eq_false h]
    refine beq_false_of_ne fun e => h ?_
    have := congrArg (fun x : Str => x.cps.toList) e
    simpa [strOf] using this
set_option tactic.hygienic false in
theorem newList_X {vs : List SV} {xs : List Value} {K : SV → Led → Prop} {Q : Value → Shared → Prop} {E : Value → Shared → Prop} (F : Fr R.h₀ R.L s.heap m) (S : Sim R s.heap ρ led ex) (hr : RepL ρ vs xs) (hz : vs.length ≤ 100000)
    (k : K (.loc led.length) (led ++ [.list vs])) (P : PostE R K ρ ex m s Q) : wpAny R.M R.A (newList xs) Q E s := by
  obtain ⟨es, W, d, N⟩ := S
  refine newList_K F N (fun D h' F' N' hD => ?_) (by rw [← hr.length]; exact size100 hz)
  refine P (.loc led.length) (.ref D) (ρ ++ [D]) _ h' s.toks k Grow.app ⟨D, d.last, rfl⟩ F' (d.alloc N' (fun p hp => Nat.ne_of_lt (hD p hp)) ⟨xs, 0, hr.mono Grow.app, rfl⟩ True.intro)
set_option tactic.hygienic false in
theorem led_list {k : Nat} {vs : List SV} {x : Value} (S : Sim R s.heap ρ led ex) (hk : Rep ρ (.loc k) x) (ho : led[k]? = some (.list vs)) :
    ∃ a xs c es W, x = .ref a ∧ ρ[k]? = some a ∧ RepL ρ vs xs ∧ (a, lob xs c) ∈ es ++ (ex ++ W) ∧ News R.h₀ R.L s.heap (es ++ (ex ++ W)) ∧ s.heap.IsList a xs.toArray := by
  obtain ⟨a, ha, rfl⟩ := hk
  obtain ⟨ob, es, W, ⟨xs, c, hr, rfl⟩, hm, N⟩ := S.obj ha ho
  exact ⟨a, xs, c, es, W, rfl, ha, hr, hm, N, N.isList hm⟩
set_option tactic.hygienic false in
theorem flat_rep_repl {ρ : List Addr} {vs : List SV} {xs : List Value} (h : RepL ρ vs xs) : ∀ n : Nat, RepL ρ (List.replicate n vs).flatten (List.replicate n xs).flatten
  | 0 => trivial
  | n + 1 => by
    rw [List.replicate_succ, List.flatten_cons, List.replicate_succ, List.flatten_cons]
    exact h.app (flat_rep_repl h n)
set_option tactic.hygienic false in
theorem PostE.same {K : SV → Led → Prop} {Q : Value → Shared → Prop} (P : PostE R K ρ ex m s Q) (F : Fr R.h₀ R.L s.heap m) (S : Sim R s.heap ρ led ex) {v : SV} {x : Value} {tk : Nat} (k : K v led) (r : Rep ρ v x) : Q x { s with toks := tk } :=
  P v x ρ led s.heap tk k Grow.refl r F S
set_option tactic.hygienic false in
theorem PostE.new {K : SV → Led → Prop} {Q : Value → Shared → Prop} (P : PostE R K ρ ex m s Q) {h' : Heap} {D : Addr} {es W : CbLed} {o : SO} {ob : Obj} (F' : Fr R.h₀ R.L h' m)
    (d : Dat ρ led ex es W)
    (N : News R.h₀ R.L h' ((D, ob) :: (es ++ (ex ++ W)))) (hD : ∀ p ∈ es ++ (ex ++ W), p.1 < D) (ho : RepO (ρ ++ [D]) o ob) (k : K (.loc led.length) (led ++ [o])) {tk : Nat} (hc : CodeOb W ob) : Q (.ref D) { s with heap := h', toks := tk } :=
  P (.loc led.length) (.ref D) (ρ ++ [D]) _ h' tk k Grow.app ⟨D, d.last, rfl⟩ F' (d.alloc N (fun p hp => Nat.ne_of_lt (hD p hp)) ho hc)
set_option tactic.hygienic false in
theorem xbI_ok {op : Operator} {a b : Int} {t u : Tok} {K : SV → Led → Prop} {Q : Value → Shared → Prop} {E : Value → Shared → Prop} (k : xbI op a b led K)
    (F : Fr R.h₀ R.L s.heap m) (S : Sim R s.heap ρ led ex) (P : PostE R K ρ ex m s Q) : wpAny R.M R.A (binaryOp op (.int a t) (.int b u)) Q E s := by
  cases op with
  | Add => exact add_int (P.same F S k ⟨_, rfl⟩)
  | Sub => exact sub_int (P.same F S k ⟨_, rfl⟩)
  | Mult => exact mul_int (P.same F S k.2 ⟨_, rfl⟩) k.1
  | FloorDiv => exact floordiv_int k.1 (P.same F S k.2.2 ⟨_, rfl⟩) (.inl k.2.1)
  | Mod => exact mod_int k.1 (P.same F S k.2 ⟨_, rfl⟩)
  | Pow => exact pow_int_small k.1 k.2.1 k.2.2.1 (P.same F S k.2.2.2 ⟨_, rfl⟩)
  | LShift => exact lshift_int k.1 k.2.1 (P.same F S k.2.2 ⟨_, rfl⟩)
  | RShift => exact rshift_int k.1 (P.same F S k.2 ⟨_, rfl⟩)
  | BitXor => exact xor_int (P.same F S k ⟨_, rfl⟩)
  | BitAnd => exact and_int (P.same F S k ⟨_, rfl⟩)
  | _ => exact False.elim k
set_option tactic.hygienic false in
theorem xbS_ok {op : Operator} {a b : List Nat} {t u : Tok} {K : SV → Led → Prop} {Q : Value → Shared → Prop} {E : Value → Shared → Prop} (k : xbS op a b led K)
    (F : Fr R.h₀ R.L s.heap m) (S : Sim R s.heap ρ led ex) (P : PostE R K ρ ex m s Q) : wpAny R.M R.A (binaryOp op (.str (strOf a) t) (.str (strOf b) u)) Q E s := by
  cases op with
  | Add =>
    refine add_str (fun t' tk => ?_) (by rw [strOf_len, strOf_len, sizeLine_eq]; exact k.1)
    rw [strOf_app]
    exact P.same F S k.2 ⟨t', rfl⟩
  | _ => exact False.elim k
set_option tactic.hygienic false in
theorem xbR_ok {op : Operator} {a : List Nat} {n : Int} {t u : Tok} {K : SV → Led → Prop} {Q : Value → Shared → Prop} {E : Value → Shared → Prop} (k : xbR op a n led K)
    (F : Fr R.h₀ R.L s.heap m) (S : Sim R s.heap ρ led ex) (P : PostE R K ρ ex m s Q) : wpAny R.M R.A (binaryOp op (.str (strOf a) t) (.int n u)) Q E s := by
  cases op with
  | Mult => exact SB.mul k.1 fun t' tk => P.same F S k.2 ⟨t', rfl⟩
  | _ => exact False.elim k
set_option tactic.hygienic false in
theorem xbM_ok {op : Operator} {i : Nat} {n : Int} {x : Value} {u : Tok} {K : SV → Led → Prop} {Q : Value → Shared → Prop} {E : Value → Shared → Prop} (k : xbM op led[i]? n led K) (hi : Rep ρ (.loc i) x)
    (F : Fr R.h₀ R.L s.heap m) (S : Sim R s.heap ρ led ex) (P : PostE R K ρ ex m s Q) : wpAny R.M R.A (binaryOp op x (.int n u)) Q E s := by
  generalize ho : led[i]? = o at k
  cases op with
  | Mult =>
    cases o with
    | none => exact False.elim k
    | some o =>
      cases o with
      | list vs =>
        obtain ⟨A, xs, c, _, _, rfl, ha, hr, hm, _, hl⟩ := led_list S hi ho
        obtain ⟨es, W, d, N⟩ := S
        have k1 := k.1
        have k2 := k.2.1
        refine KMa.mul F N hl (by omega) (by omega) (by rw [← hr.length]; exact k.2.2.1) rfl (fun D h' F' N' hD => ?_)
        exact P.new (o := .list _) F' d N' hD ⟨_, 0, (flat_rep_repl hr _).mono Grow.app, rfl⟩ k.2.2.2 True.intro
      | _ => exact False.elim k
  | _ => exact False.elim k
set_option tactic.hygienic false in
theorem xbA_ok {op : Operator} {i j : Nat} {x y : Value} {K : SV → Led → Prop} {Q : Value → Shared → Prop} {E : Value → Shared → Prop} (k : xbA op led[i]? led[j]? led K) (hi : Rep ρ (.loc i) x) (hj : Rep ρ (.loc j) y)
    (F : Fr R.h₀ R.L s.heap m) (S : Sim R s.heap ρ led ex) (P : PostE R K ρ ex m s Q) : wpAny R.M R.A (binaryOp op x y) Q E s := by
  generalize ho : led[i]? = o at k
  generalize ho2 : led[j]? = o2 at k
  cases op with
  | Add =>
    cases o with
    | none => exact False.elim k
    | some o =>
      cases o with
      | list vs =>
        cases o2 with
        | none => exact False.elim k
        | some o2 =>
          cases o2 with
          | list ws =>
            obtain ⟨A, xs, c, _, _, rfl, ha, hr, hm, _, hl⟩ := led_list S hi ho
            obtain ⟨B, ys, c2, _, _, rfl, hb, hr2, hm2, _, hl2⟩ := led_list S hj ho2
            obtain ⟨es, W, d, N⟩ := S
            have e1 : xs.toArray.toList = xs := List.toList_toArray
            have e2 : ys.toArray.toList = ys := List.toList_toArray
            refine kmk_add_lit F N hl hl2 (congr (congrArg HAppend.hAppend e1) e2) (fun D h' F' N' hD => ?_) (by rw [e1, e2, ← hr.length, ← hr2.length]; exact size100 k.1)
            exact P.new (o := .list _) F' d N' hD ⟨_, 0, (hr.app hr2).mono Grow.app, rfl⟩ k.2 True.intro
          | _ => exact False.elim k
      | _ => exact False.elim k
  | _ => exact False.elim k
set_option tactic.hygienic false in
theorem xbin_ok {op : Operator} {a b : SV} {x y : Value} {K : SV → Led → Prop} {Q : Value → Shared → Prop} {E : Value → Shared → Prop} (k : xbin op a b led K) (hx : Rep ρ a x) (hy : Rep ρ b y)
    (F : Fr R.h₀ R.L s.heap m) (S : Sim R s.heap ρ led ex) (P : PostE R K ρ ex m s Q) : wpAny R.M R.A (binaryOp op x y) Q E s := by
  unfold xbin at k
  cases a with
  | int a =>
    obtain ⟨t, hx⟩ := hx
    rw [hx]
    cases b with
    | int b => obtain ⟨u, hy⟩ := hy; rw [hy]; dsimp only at k; exact @xbI_ok R m s ρ led ex op a b t u K Q E k F S P
    | _ => exact False.elim k
  | str a =>
    obtain ⟨t, hx⟩ := hx
    rw [hx]
    cases b with
    | int b => obtain ⟨u, hy⟩ := hy; rw [hy]; dsimp only at k; exact @xbR_ok R m s ρ led ex op a b t u K Q E k F S P
    | str b => obtain ⟨u, hy⟩ := hy; rw [hy]; dsimp only at k; exact @xbS_ok R m s ρ led ex op a b t u K Q E k F S P
    | _ => exact False.elim k
  | loc i =>
    cases b with
    | int b => obtain ⟨u, hy⟩ := hy; rw [hy]; dsimp only at k; exact xbM_ok (i := i) (n := b) (led := led) (K := K) k hx F S P
    | loc j => dsimp only at k; exact xbA_ok (i := i) (j := j) (led := led) (K := K) k hx hy F S P
    | _ => exact False.elim k
  | _ => exact False.elim k
set_option tactic.hygienic false in
theorem xcI_ok {op : CmpOp} {a b : Int} {t u : Tok} {K : Bool → Prop} {Q : Value → Shared → Prop} {E : Value → Shared → Prop} (k : xcI op a b K)
    (P : ∀ c, K c → Q (.bool c) s) : wpAny R.M R.A (compareOp op (.int a t) (.int b u)) Q E s := by
  cases op with
  | Eq => exact eq_int (P _ k)
  | NotEq => exact ne_int (P _ k)
  | Lt => exact lt_int (P _ k)
  | LtE => exact le_int (P _ k)
  | Gt => exact gt_int (P _ k)
  | GtE => exact ge_int (P _ k)
  | _ => exact False.elim k
set_option tactic.hygienic false in
theorem xcS_ok {op : CmpOp} {a b : List Nat} {t u : Tok} {K : Bool → Prop} {Q : Value → Shared → Prop} {E : Value → Shared → Prop} (k : xcS op a b K)
    (P : ∀ c, K c → Q (.bool c) s) : wpAny R.M R.A (compareOp op (.str (strOf a) t) (.str (strOf b) u)) Q E s := by
  cases op with
  | Eq => exact eq_str (by rw [strOf_beq]; exact P _ k)
  | NotEq => exact ne_str (by rw [show (strOf a != strOf b) = !decide (a = b) from congrArg (!·) strOf_beq]; exact P _ k)
  | In =>
    obtain ⟨c, rfl, k⟩ := k
    have e := StrLaws.found_one (strOf b) c
    rw [str_mk] at e
    refine in_str ?_
    rw [show strOf [c] = ⟨#[c]⟩ from rfl, e]
    exact P _ k
  | NotIn =>
    obtain ⟨c, rfl, k⟩ := k
    have e := StrLaws.found_one (strOf b) c
    rw [str_mk] at e
    refine notIn_str ?_
    rw [show strOf [c] = ⟨#[c]⟩ from rfl, e]
    exact P _ k
  | _ => exact False.elim k
set_option tactic.hygienic false in
theorem xcmp_ok {op : CmpOp} {a b : SV} {x y : Value} {K : Bool → Prop} {Q : Value → Shared → Prop} {E : Value → Shared → Prop} (k : xcmp op a b K) (hx : Rep ρ a x) (hy : Rep ρ b y)
    (P : ∀ c, K c → Q (.bool c) s) : wpAny R.M R.A (compareOp op x y) Q E s := by
  cases a with
  | int a =>
    obtain ⟨t, rfl⟩ := hx
    cases b with
    | int b => obtain ⟨u, rfl⟩ := hy; exact xcI_ok k P
    | _ => exact False.elim k
  | str a =>
    obtain ⟨t, rfl⟩ := hx
    cases b with
    | str b => obtain ⟨u, rfl⟩ := hy; exact xcS_ok k P
    | _ => exact False.elim k
  | _ => exact False.elim k
set_option tactic.hygienic false in
theorem xun_ok {op : UnaryOp} {a : SV} {x : Value} {K : SV → Prop} {Q : Value → Shared → Prop} {E : Value → Shared → Prop} (k : xun op a K) (hx : Rep ρ a x)
    (P : ∀ v y tk, K v → Rep ρ v y → Q y { s with toks := tk }) : wpAny R.M R.A (unaryOp op x) Q E s := by
  cases a with
  | int a =>
    obtain ⟨t, rfl⟩ := hx
    cases op with
    | USub => exact neg_int (P _ _ _ k ⟨_, rfl⟩)
    | Invert => exact invert_int (P _ _ _ k ⟨_, rfl⟩)
    | _ => exact False.elim k
  | _ => exact False.elim k
set_option tactic.hygienic false in
theorem xtruth_ok {v : SV} {x : Value} {K : Bool → Prop} {Q : Bool → Shared → Prop} {E : Value → Shared → Prop} (k : xtruth v K) (hx : Rep ρ v x)
    (P : ∀ c, K c → Q c s) : wpAny R.M R.A (truthy x) Q E s := by
  cases v with
  | bool b =>
    have e : x = .bool b := hx
    subst e; exact wpAny_truthy_bool (P _ k)
  | int z => obtain ⟨t, rfl⟩ := hx; exact truthy_int (P _ k)
  | _ => exact False.elim k
end
end Mine
end
section
open PySem PySem.W PyProof.Rows PySem.Calls PyProof.V
namespace Mine
noncomputable def setL (x : Str) (v : SV) : Loc → Loc
  | [] => [(x, v)]
  | (y, w) :: r => if y = x then (y, v) :: r else (y, w) :: setL x v r
set_option tactic.hygienic false in
theorem setL_lookup {x y : Str} {v : SV} : ∀ {loc : Loc}, (setL x v loc).lookup y = if y = x then some v else loc.lookup y
  | [] => by
    unfold setL
    by_cases h : y = x
    · subst h; simp
    · rw [if_neg h, List.lookup_cons]
      have e : (y == x) = false := beq_false_of_ne h
      rw [e]
  | (z, w) :: r => by
    unfold setL
    by_cases hz : z = x
    · subst hz
      rw [if_pos rfl, List.lookup_cons, List.lookup_cons]
      by_cases h : y = z
      · subst h; simp
      · have e : (y == z) = false := beq_false_of_ne h
        rw [e, if_neg h]
    · rw [if_neg hz, List.lookup_cons, List.lookup_cons, setL_lookup (loc := r)]
      by_cases h : y = x
      · subst h
        have e : (y == z) = false := beq_false_of_ne (Ne.symm hz)
        simp [e]
      · simp [h]
noncomputable def FrR (ρ : List Addr) (loc : Loc) (m : Str → Option Value) : Prop := ∀ x v, loc.lookup x = some v → ∃ y, m x = some y ∧ Rep ρ v y
set_option tactic.hygienic false in
theorem FrR.mono {ρ ρ' : List Addr} {loc : Loc} {m : Str → Option Value} (g : Grow ρ ρ') (h : FrR ρ loc m) : FrR ρ' loc m := fun x v e => by
  obtain ⟨y, h1, h2⟩ := h x v e
  exact ⟨y, h1, h2.mono g⟩
set_option tactic.hygienic false in
theorem FrR.set {ρ : List Addr} {loc : Loc} {m : Str → Option Value} {x : Str} {v : SV} {y : Value} (h : FrR ρ loc m) (r : Rep ρ v y) : FrR ρ (setL x v loc) (fun z => if z = x then some y else m z) := fun z w e => by
  rw [setL_lookup] at e
  by_cases hz : z = x
  · rw [if_pos hz] at e
    injection e with e
    subst e
    exact ⟨y, if_pos hz, r⟩
  · rw [if_neg hz] at e
    obtain ⟨u, h1, h2⟩ := h z w e
    exact ⟨u, (if_neg hz).trans h1, h2⟩
set_option tactic.hygienic false in
theorem mem_lookupX : ∀ {loc : Loc} {x : Str} {v : SV}, loc.lookup x = some v → (x, v) ∈ loc
  | [], _, _, h => by cases h
  | (n, i) :: l, x, k, h => by
    rw [List.lookup_cons] at h
    cases hx : x == n with
    | true =>
      rw [hx] at h
      injection h with h
      rw [← h, show x = n from eq_of_beq hx]
      exact .head _
    | false => rw [hx] at h; exact .tail _ (mem_lookupX h)
set_option tactic.hygienic false in
theorem lookup_mapX {f : Nat → Addr} : ∀ {l : List (Str × Nat)} {x : Str}, (l.map fun p => (p.1, f p.2)).lookup x = (l.lookup x).map f
  | [], _ => rfl
  | (n, i) :: l, x => by
    rw [List.map_cons, List.lookup_cons, List.lookup_cons, lookup_mapX (l := l)]
    cases x == n <;> rfl
set_option tactic.hygienic false in
theorem lookup_memX : ∀ {l : List (Str × Nat)} {x : Str} {k : Nat}, l.lookup x = some k → (x, k) ∈ l
  | [], _, _, h => by cases h
  | (n, i) :: l, x, k, h => by
    rw [List.lookup_cons] at h
    cases hx : x == n with
    | true =>
      rw [hx] at h
      injection h with h
      rw [← h, show x = n from eq_of_beq hx]
      exact .head _
    | false => rw [hx] at h; exact .tail _ (lookup_memX h)
set_option tactic.hygienic false in
theorem FrR.take {n : Nat} {ρ : List Addr} {loc : Loc} {m : Str → Option Value} (h : FrR ρ loc m) (c : cLoc n loc) : FrR (ρ.take n) loc m := fun x v e => by
  obtain ⟨y, h1, h2⟩ := h x v e
  exact ⟨y, h1, h2.take (c _ (mem_lookupX e))⟩
set_option tactic.hygienic false in
theorem lookup_takeX {α : Type} {x : Str} {v : α} : ∀ {j : Nat} {l : List (Str × α)}, (l.take j).lookup x = some v → l.lookup x = some v
  | 0, _, h => by simp at h
  | _ + 1, [], h => by simp at h
  | j + 1, (n, w) :: l, h => by
    rw [List.take_succ_cons, List.lookup_cons] at h
    rw [List.lookup_cons]
    cases hx : x == n with
    | true => rw [hx] at h; exact h
    | false => rw [hx] at h; exact lookup_takeX h
set_option tactic.hygienic false in
theorem FrR.takeL {j : Nat} {ρ : List Addr} {loc : Loc} {m : Str → Option Value} (h : FrR ρ loc m) : FrR ρ (loc.take j) m := fun x v e => h x v (lookup_takeX e)
noncomputable def FnX (R : Rt) (q : Addr) (sp : Spec) : Prop :=
  ∀ (m : Str → Option Value) (s : Shared) (ρ : List Addr) (led : Led) (ex : CbLed) (vs : List SV) (xs : List Value) (K : SV → Led → Prop) (Q E : Value → Shared → Prop),
    sp vs led K → RepL ρ vs xs → Fr R.h₀ R.L s.heap m → Sim R s.heap ρ led ex → PostE R K ρ ex m s Q →
      codeAny R.M R.A (.call (.ref q) ⟨xs, []⟩) (fun r s' => match r with | .ok (.ret v) => Q v s' | .ok _ => False | .error e => E e s') s
noncomputable def FnOk (D U : Nat) (q : Addr) (sp : Spec) : Prop := ∀ (R : Rt), R.Ok D U → FnX R q sp
noncomputable abbrev Rt.plus (R : Rt) (k j : Nat) : Rt := { R with un := R.un + k, dp := R.dp + j }
structure EnvOk (R : Rt) (cx : Cx) (env : Env) (ρ : List Addr) : Prop where
  ok : R.Ok cx.room (3 * cx.room + 100)
  kind : env.scope.kind = .function
  kd : ∀ x, env.kindOf x = cx.kind x
  cel : ∀ x k, cx.cel.lookup x = some k → ∃ c, env.cells.lookup x = some c ∧ ρ[k]? = some c
  glob : ∀ x v, cx.glob x = some v → ∀ (m : Str → Option Value) (s : Shared) (Q E : Value → Shared → Prop), Fr R.h₀ R.L s.heap m → Q v s → wpAny R.M R.A (loadGlobal env x) Q E s
  globs : ∀ R' : Rt, R'.Ok 0 0 → ∀ x v, cx.glob x = some v → ∀ (m : Str → Option Value) (s : Shared) (Q E : Value → Shared → Prop), Fr R'.h₀ R'.L s.heap m → Q v s → wpAny R'.M R'.A (loadGlobal R'.env x) Q E s
  fn : ∀ q sp, cx.fn q = some sp → (∀ k ≤ 8, ∀ j ≤ 2, FnX (R.plus k j) q sp) ∧ ∀ h m, Fr R.h₀ R.L h m → FnAt q h
  tab : ∀ t, cx.tab = some t → t ∈ tables ∧ R.ccd = .ref t.C ∧ R.cn = t.qn ∧ env = R.env
  lst : ∀ a ns, cx.lst = some (a, ns) → ∃ vs : List Value, R.h₀.IsList a vs.toArray ∧ IntsAre vs ns
set_option tactic.hygienic false in
theorem EnvOk.mono {R : Rt} {cx : Cx} {env : Env} {ρ ρ' : List Addr} (g : Grow ρ ρ') (h : EnvOk R cx env ρ) : EnvOk R cx env ρ' :=
  ⟨h.ok, h.kind, h.kd, fun x k e => let ⟨c, h1, h2⟩ := h.cel x k e; ⟨c, h1, g _ _ h2⟩, h.glob, h.globs, h.fn, h.tab, h.lst⟩
inductive View (R : Rt) (env : Env) (m : Str → Option Value) (ex : CbLed) (ρ : List Addr) (loc : Loc) : Prop
  | frame (h : env.locals = R.L) (f : FrR ρ loc m)
  | comp (oC : Obj) (m₂ : Str → Option Value) (h : (env.locals, oC) ∈ ex) (n : LCg.NsObj oC m₂) (f : FrR ρ loc m₂)
set_option tactic.hygienic false in
theorem View.mono {R : Rt} {env : Env} {m : Str → Option Value} {ex : CbLed} {ρ ρ' : List Addr} {loc : Loc} (g : Grow ρ ρ') : View R env m ex ρ loc → View R env m ex ρ' loc
  | .frame h f => .frame h (f.mono g)
  | .comp o m₂ h n f => .comp o m₂ h n (f.mono g)
structure Here (R : Rt) (cx : Cx) (env : Env) (ρ : List Addr) (led : Led) (ex : CbLed) (loc : Loc) (m : Str → Option Value) (s : Shared) : Prop where
  ok : EnvOk R cx env ρ
  fr : Fr R.h₀ R.L s.heap m
  sim : Sim R s.heap ρ led ex
  view : View R env m ex ρ loc
section
variable {R : Rt} {cx : Cx} {env : Env} {ρ ρ' : List Addr} {led led' : Led} {ex : CbLed} {loc : Loc} {m : Str → Option Value} {s : Shared} {h' : Heap} {tk' : Nat}
set_option tactic.hygienic false in
theorem Here.go (H : Here R cx env ρ led ex loc m s) (g : Grow ρ ρ') (F : Fr R.h₀ R.L h' m) (S : Sim R h' ρ' led' ex) : Here R cx env ρ' led' ex loc m { s with heap := h', toks := tk' } :=
  ⟨H.ok.mono g, F, S, H.view.mono g⟩
set_option tactic.hygienic false in
theorem PostE.go {K : SV → Led → Prop} {Q : Value → Shared → Prop} (P : PostE R K ρ ex m s Q) (g : Grow ρ ρ') : PostE R K ρ' ex m { s with heap := h', toks := tk' } Q :=
  fun v x ρ₂ led₂ h₂ tk₂ k g₂ r F S => P v x ρ₂ led₂ h₂ tk₂ k (g.trans g₂) r F S
theorem loadName_X {x : Str} {v : SV} {Q E : Value → Shared → Prop} (H : Here R cx env ρ led ex loc m s) (hx : xname cx x loc led = some v) (hd : okName x = true)
    (P : ∀ y, Rep ρ v y → Q y s) : wpAny R.M R.A (loadName env x) Q E s := by
  have hd1 : (x == Str.ofString "__debug__") = false ∧ (x == Str.ofString "__classdict__") = false := by
    unfold okName at hd
    simpa using hd
  have cellAt : ∀ k, cx.cel.lookup x = some k → ∀ v, led[k]? = some (.cell (some v)) → ∃ c y, env.cells.lookup x = some c ∧ s.heap.IsCell c (some y) ∧ Rep ρ v y := by
    intro k hk v hv
    obtain ⟨c, h1, h2⟩ := H.ok.cel x k hk
    obtain ⟨ob, es, W, ⟨y, hr, hdat⟩, hm, N⟩ := H.sim.obj h2 hv
    exact ⟨c, y, h1, ⟨ob, N.get hm, hdat⟩, hr⟩
  unfold xname at hx
  have hkd := H.ok.kd x
  cases hk : cx.kind x with
  | none => rw [hk] at hx; cases hx
  | some kd =>
    rw [hk] at hx hkd
    cases kd with
    | «local» =>
      cases H.view with
      | frame hl f =>
        obtain ⟨y, h1, h2⟩ := f x v hx
        exact wpAny_loadName_local H.ok.kind hkd (by rw [hl]; exact H.fr.ns) h1 (P y h2)
      | comp oC m₂ hmem n f =>
        obtain ⟨y, h1, h2⟩ := f x v hx
        obtain ⟨es, W, _, N⟩ := H.sim
        obtain ⟨es', ep, e1, e2, e3⟩ := n
        exact wpAny_loadName_local H.ok.kind hkd ⟨oC, es', ep, (N _ (List.mem_append_right _ (List.mem_append_left _ hmem))).1, e1, e2, e3⟩ h1 (P y h2)
    | cell =>
      cases hc : cx.cel.lookup x with
      | none => simp only [hc] at hx; cases hx
      | some k =>
        simp only [hc] at hx
        cases ho : led[k]? with
        | none => simp only [ho] at hx; cases hx
        | some o =>
          simp only [ho] at hx
          cases o with
          | cell w =>
            simp only at hx
            subst hx
            obtain ⟨c, y, h1, h2, h3⟩ := cellAt k hc v ho
            exact wpAny_loadName_cell H.ok.kind hkd h1 h2 (P y h3)
          | _ => cases hx
    | free =>
      cases hc : cx.cel.lookup x with
      | none => simp only [hc] at hx; cases hx
      | some k =>
        simp only [hc] at hx
        cases ho : led[k]? with
        | none => simp only [ho] at hx; cases hx
        | some o =>
          simp only [ho] at hx
          cases o with
          | cell w =>
            simp only at hx
            subst hx
            obtain ⟨c, y, h1, h2, h3⟩ := cellAt k hc v ho
            exact wpAny_loadName_free H.ok.kind hkd h1 h2 (P y h3) hd1.2
          | _ => cases hx
    | globalImplicit =>
      cases hg : cx.glob x with
      | none => simp only [hg] at hx; cases hx
      | some w =>
        simp only [hg] at hx
        injection hx with hx
        subst hx
        have := H.ok.glob x w hg m s Q E H.fr (P w ofV_rep)
        rw [loadName_read H.ok.kind hkd]; exact this
    | globalExplicit => cases hx
set_option tactic.hygienic false in
theorem Name_X {x : Str} {p : Pos} {v : SV} {K : SV → Led → Prop} {Q E : Value → Shared → Prop} (H : Here R cx env ρ led ex loc m s) (hx : xname cx x loc led = some v) (hd : okName x = true) (k : K v led)
    (P : PostE R K ρ ex m s Q) : wpAny R.M R.A (eval (.Name x p) env) Q E s := by
  have hd1 : (x == Str.ofString "__debug__") = false := by
    unfold okName at hd
    simp at hd
    exact beq_false_of_ne hd.1
  exact wpAny_Name (loadName_X H hx hd fun y r => P v y ρ led s.heap s.toks k Grow.refl r H.fr H.sim) hd1
end
end Mine
end
section
open PySem PySem.W PyProof.Rows PySem.Calls PyProof.V
namespace Mine
noncomputable def PostT (R : Rt) (K : Bool → Led → Prop) (ρ : List Addr) (ex : CbLed) (m : Str → Option Value) (s : Shared) (Q : Bool → Shared → Prop) : Prop :=
  ∀ c ρ' led' h' tk', K c led' → Grow ρ ρ' → Fr R.h₀ R.L h' m → Sim R h' ρ' led' ex → Q c { s with heap := h', toks := tk' }
noncomputable def PostA (R : Rt) (K : List SV → Led → Prop) (ρ : List Addr) (ex : CbLed) (m : Str → Option Value) (s : Shared) (Q : List Value → Shared → Prop) : Prop :=
  ∀ vs xs ρ' led' h' tk', K vs led' → Grow ρ ρ' → RepL ρ' vs xs → Fr R.h₀ R.L h' m → Sim R h' ρ' led' ex → Q xs { s with heap := h', toks := tk' }
noncomputable def RepF (ρ : List Addr) : Fl → Flow → Prop
  | .next, f => f = .next
  | .brk, f => f = .brk
  | .cont, f => f = .cont
  | .ret v, f => ∃ x, Rep ρ v x ∧ f = .ret x
noncomputable def PostS (R : Rt) (K : Fl → Loc → Led → Prop) (ρ : List Addr) (ex : CbLed) (s : Shared) (Q : Flow → Shared → Prop) : Prop :=
  ∀ f fl loc' ρ' led' m' h' tk', K f loc' led' → Grow ρ ρ' → RepF ρ' f fl → Fr R.h₀ R.L h' m' → FrR ρ' loc' m' → Sim R h' ρ' led' ex → Q fl { s with heap := h', toks := tk' }
structure At (R : Rt) (cx : Cx) (ρ : List Addr) (led : Led) (ex : CbLed) (loc : Loc) (m : Str → Option Value) (s : Shared) : Prop where
  ok : EnvOk R cx R.env ρ
  fr : Fr R.h₀ R.L s.heap m
  sim : Sim R s.heap ρ led ex
  loc : FrR ρ loc m
structure SndR (r : Rec) : Prop where
  ev : ∀ {R cx e env ρ led ex loc m s K Q E}, r.ev cx e loc led K → Here R cx env ρ led ex loc m s → PostE R K ρ ex m s Q → wpAny R.M R.A (eval e env) Q E s
  et : ∀ {R cx e env ρ led ex loc m s K Q E}, r.et cx e loc led K → Here R cx env ρ led ex loc m s → PostT R K ρ ex m s Q → wpAny R.M R.A (PySem.isTrue e env (eval e env)) Q E s
  ea : ∀ {R cx es env ρ led ex loc m s K Q E pos}, r.ea cx es loc led K → Here R cx env ρ led ex loc m s → PostA R K ρ ex m s Q → wpAny R.M R.A (spliced (backTo pos (starEach es env))) Q E s
  ex : ∀ {R cx st ρ led ex loc m s K Q E}, r.ex cx st loc led K → At R cx ρ led ex loc m s → PostS R K ρ ex s Q → PassesOwn R.M R.A R.env E → wpAny R.M R.A (exec st R.env) Q E s
  xs : ∀ {R cx sts ρ led ex loc m s K Q E}, r.xs cx sts loc led K → At R cx ρ led ex loc m s → PostS R K ρ ex s Q → PassesOwn R.M R.A R.env E → wpAny R.M R.A (execs sts R.env) Q E s
section
variable {R : Rt} {cx : Cx} {env : Env} {ρ ρ' : List Addr} {led led' : Led} {ex : CbLed} {loc : Loc} {m : Str → Option Value} {s : Shared} {h' : Heap} {tk' : Nat} {r : Rec}
set_option tactic.hygienic false in
theorem At.here (H : At R cx ρ led ex loc m s) : Here R cx R.env ρ led ex loc m s := ⟨H.ok, H.fr, H.sim, .frame rfl H.loc⟩
set_option tactic.hygienic false in
theorem At.go (H : At R cx ρ led ex loc m s) (g : Grow ρ ρ') (F : Fr R.h₀ R.L h' m) (S : Sim R h' ρ' led' ex) : At R cx ρ' led' ex loc m { s with heap := h', toks := tk' } :=
  ⟨H.ok.mono g, F, S, H.loc.mono g⟩
set_option tactic.hygienic false in
theorem At.st {loc' : Loc} {m' : Str → Option Value} (H : At R cx ρ led ex loc m s) (g : Grow ρ ρ') (F : Fr R.h₀ R.L h' m') (l : FrR ρ' loc' m') (S : Sim R h' ρ' led' ex) : At R cx ρ' led' ex loc' m' { s with heap := h', toks := tk' } :=
  ⟨H.ok.mono g, F, S, l⟩
set_option tactic.hygienic false in
theorem PostT.go {K : Bool → Led → Prop} {Q : Bool → Shared → Prop} (P : PostT R K ρ ex m s Q) (g : Grow ρ ρ') : PostT R K ρ' ex m { s with heap := h', toks := tk' } Q :=
  fun c ρ₂ led₂ h₂ tk₂ k g₂ F S => P c ρ₂ led₂ h₂ tk₂ k (g.trans g₂) F S
set_option tactic.hygienic false in
theorem PostS.go {K : Fl → Loc → Led → Prop} {Q : Flow → Shared → Prop} (P : PostS R K ρ ex s Q) (g : Grow ρ ρ') : PostS R K ρ' ex { s with heap := h', toks := tk' } Q :=
  fun f fl l ρ₂ led₂ m₂ h₂ tk₂ k g₂ r F l₂ S => P f fl l ρ₂ led₂ m₂ h₂ tk₂ k (g.trans g₂) r F l₂ S
noncomputable def xConst (c : Const) (led : Led) (K : SV → Led → Prop) : Prop :=
  match c with
  | .int z => K (.int z) led
  | .str x => K (.str x.cps.toList) led
  | .bool b => K (.bool b) led
  | .none => K .none led
  | _ => False
set_option tactic.hygienic false in
theorem Const_X {c : Const} {k : Nat} {pos : Pos} {K : SV → Led → Prop} {Q E : Value → Shared → Prop} (h : xConst c led K) (H : Here R cx env ρ led ex loc m s) (P : PostE R K ρ ex m s Q) :
    wpAny R.M R.A (eval (.Constant c k pos) env) Q E s := by
  cases c with
  | int z => exact wpAny_Constant_int (P.same H.fr H.sim h ⟨_, rfl⟩)
  | str x => exact Calls.Constant_str (P.same H.fr H.sim h ⟨_, rfl⟩)
  | bool b => exact Constant_bool (P.same H.fr H.sim h rfl)
  | none => exact Constant_none (P.same H.fr H.sim h rfl)
  | _ => exact False.elim h
noncomputable def xBin (r : Rec) (cx : Cx) (l : Expr) (op : Operator) (q : Expr) (loc : Loc) (led : Led) (K : SV → Led → Prop) : Prop :=
  r.ev cx l loc led fun a led => r.ev cx q loc led fun b led => xbin op a b led K
set_option tactic.hygienic false in
theorem BinOp_X (S : SndR r) {l q : Expr} {op : Operator} {pos : Pos} {K : SV → Led → Prop} {Q E : Value → Shared → Prop} (h : xBin r cx l op q loc led K) (H : Here R cx env ρ led ex loc m s) (P : PostE R K ρ ex m s Q) :
    wpAny R.M R.A (eval (.BinOp l op q pos) env) Q E s := by
  refine wpAny_BinOp (S.ev h H ?_)
  intro a x ρ1 led1 h1 tk1 k1 g1 r1 F1 S1
  refine S.ev k1 (H.go g1 F1 S1) ?_
  intro b y ρ2 led2 h2 tk2 k2 g2 r2 F2 S2
  exact xbin_ok k2 (r1.mono g2) r2 F2 S2 (P.go (g1.trans g2))
noncomputable def xUn (r : Rec) (cx : Cx) (op : UnaryOp) (a : Expr) (loc : Loc) (led : Led) (K : SV → Led → Prop) : Prop :=
  r.ev cx a loc led fun v led => xun op v fun w => K w led
set_option tactic.hygienic false in
theorem Un_X (S : SndR r) {a : Expr} {op : UnaryOp} {pos : Pos} {K : SV → Led → Prop} {Q E : Value → Shared → Prop} (h : xUn r cx op a loc led K) (H : Here R cx env ρ led ex loc m s) (P : PostE R K ρ ex m s Q) :
    wpAny R.M R.A (eval (.UnaryOp op a pos) env) Q E s := by
  refine UnaryOp_ (S.ev h H ?_)
  intro a x ρ1 led1 h1 tk1 k1 g1 r1 F1 S1
  exact xun_ok k1 r1 fun v y tk k2 r2 => P v y ρ1 led1 h1 tk k2 g1 r2 F1 S1
noncomputable def xIf (r : Rec) (cx : Cx) (t a b : Expr) (loc : Loc) (led : Led) (K : SV → Led → Prop) : Prop :=
  r.et cx t loc led fun c led => match c with
    | true => r.ev cx a loc led K
    | false => r.ev cx b loc led K
set_option tactic.hygienic false in
theorem IfExp_X (S : SndR r) {t a b : Expr} {pos : Pos} {K : SV → Led → Prop} {Q E : Value → Shared → Prop} (h : xIf r cx t a b loc led K) (H : Here R cx env ρ led ex loc m s) (P : PostE R K ρ ex m s Q) :
    wpAny R.M R.A (eval (.IfExp t a b pos) env) Q E s := by
  refine IfExp_ (S.et h H ?_)
  intro c ρ1 led1 h1 tk1 k1 g1 F1 S1
  cases c with
  | true => rw [if_pos rfl]; exact S.ev k1 (H.go g1 F1 S1) (P.go g1)
  | false => rw [if_neg Bool.false_ne_true]; exact S.ev k1 (H.go g1 F1 S1) (P.go g1)
noncomputable def xLeq (o u : Option SO) (K : Bool → Prop) : Prop :=
  (∃ ns ms : List Int, o = some (.list (ns.map .int)) ∧ u = some (.list (ms.map .int)) ∧ K (decide (ns = ms))) ∨
    (∃ x : List Nat, o = some (.list [.str x]) ∧ u = some (.list [.str x]) ∧ PyData.strOk (strOf x) = true ∧ K true)
mutual
noncomputable def rdP (led : Led) : PyData → SV → Prop
  | .int z, v => v = .int z
  | .str x, v => ∃ l, v = .str l ∧ x = strOf l
  | .list ds, v => ∃ k vs, v = .loc k ∧ led[k]? = some (.list vs) ∧ rdAll led ds vs
  | .tuple ds, v => ∃ k vs, v = .loc k ∧ led[k]? = some (.tup vs) ∧ rdAll led ds vs
  | _, _ => False
noncomputable def rdAll (led : Led) : List PyData → List SV → Prop
  | [], vs => vs = []
  | d :: ds, vs => ∃ v ws, vs = v :: ws ∧ rdP led d v ∧ rdAll led ds ws
end
noncomputable def xDeep (led : Led) (i j : Nat) (K : Bool → Prop) : Prop :=
  ∃ d e : PyData, rdP led d (.loc i) ∧ rdP led e (.loc j) ∧ SeqAt.shaped d = true ∧ SeqAt.shaped e = true ∧ K (PyData.eqv d e)
noncomputable def xcmpL (op : CmpOp) (a b : SV) (led : Led) (K : Bool → Led → Prop) : Prop :=
  match a with
  | .loc i => match b with
    | .loc j => (match op with
      | .Eq => (xLeq led[i]? led[j]? fun c => K c led) ∨ xDeep led i j fun c => K c led
      | .NotEq => (xLeq led[i]? led[j]? fun c => K (!c) led) ∨ xDeep led i j fun c => K (!c) led
      | _ => False)
    | _ => False
  | a => xcmp op a b fun c => K c led
set_option tactic.hygienic false in
theorem reads_ints {h : Heap} : ∀ {ns : List Int} {xs : List Value}, RepL ρ (ns.map .int) xs → ReadsAll h xs (ns.map .int) []
  | [], [], _ => .nil
  | _ :: _, _ :: _, ⟨⟨_, rfl⟩, r⟩ => .cons (bs := []) (.int _ _) (reads_ints r)
  | [], _ :: _, h => h.elim
  | _ :: _, [], h => h.elim
set_option tactic.hygienic false in
theorem eqv_ints : ∀ ns ms : List Int, PyData.eqvAll (ns.map .int) (ms.map .int) = decide (ns = ms)
  | [], [] => by rw [decide_eq_true rfl]; rfl
  | [], _ :: _ => by rw [decide_eq_false (fun e => nomatch e)]; rfl
  | _ :: _, [] => by rw [decide_eq_false (fun e => nomatch e)]; rfl
  | a :: ns, b :: ms => by
    rw [List.map_cons, List.map_cons]
    show (a == b && PyData.eqvAll _ _) = _
    rw [eqv_ints ns ms]
    by_cases h : a = b
    · subst h
      simp
    · rw [beq_false_of_ne h, decide_eq_false (fun e => h (List.head_eq_of_cons_eq e))]
      rfl
set_option tactic.hygienic false in
theorem lay_ints : ∀ ns : List Int, PyData.canLayAll0 (ns.map .int) = true ∧ PyData.depthAll (ns.map .int) = 0
  | [] => ⟨rfl, rfl⟩
  | n :: ns => by
    obtain ⟨h1, h2⟩ := lay_ints ns
    refine ⟨?_, ?_⟩
    · rw [List.map_cons]; show (true && _) = true; rw [h1]; rfl
    · rw [List.map_cons]; show max 0 _ = 0; rw [h2]; rfl
set_option tactic.hygienic false in
theorem shaped_ints (ns : List Int) : SeqAt.shaped (.list (ns.map .int)) = true := by
  obtain ⟨h1, h2⟩ := lay_ints ns
  unfold SeqAt.shaped
  rw [Bool.and_eq_true, decide_eq_true_eq]
  refine ⟨h1, ?_⟩
  show PyData.depthAll _ + 1 ≤ 64
  rw [h2]; decide
set_option tactic.hygienic false in
theorem rep_str1 {z : List Nat} {xs : List Value} (h : RepL ρ [.str z] xs) : ∃ t, xs = [.str (strOf z) t] := by
  cases xs with
  | nil => exact h.elim
  | cons x xs =>
    obtain ⟨⟨t, rfl⟩, h⟩ := h
    cases xs with
    | nil => exact ⟨t, rfl⟩
    | cons _ _ => exact h.elim
set_option tactic.hygienic false in
theorem leq_ok {i j : Nat} {x y : Value} {K : Bool → Prop} {Q : Value → Shared → Prop} {E : Value → Shared → Prop} (k : xLeq led[i]? led[j]? K) (hx : Rep ρ (.loc i) x) (hy : Rep ρ (.loc j) y) (hu : R.un + 100 < cLine) (S : Sim R s.heap ρ led ex) :
    ((∀ c, K c → Q (.bool c) s) → wpAny R.M R.A (compareOp .Eq x y) Q E s) ∧ ((∀ c, K c → Q (.bool (!c)) s) → wpAny R.M R.A (compareOp .NotEq x y) Q E s) := by
  have hu2 : R.A.units + 64 < cLine := by show R.un + 64 < cLine; omega
  rcases k with ⟨ns, ms, ho, hp, k⟩ | ⟨z, ho, hp, hz, k⟩
  · obtain ⟨a, xs, c, es, W, rfl, ha, hrs, hm, N, hl⟩ := led_list S hx ho
    obtain ⟨a2, xs2, c2, es2, W2, rfl, ha2, hrs2, hm2, N2, hl2⟩ := led_list S hy hp
    have r1 := reads_list_at (N _ hm).1 rfl rfl (reads_ints hrs)
    have r2 := reads_list_at (N2 _ hm2).1 rfl rfl (reads_ints hrs2)
    have e : PyData.eqv (.list (ns.map .int)) (.list (ms.map .int)) = decide (ns = ms) := eqv_ints ns ms
    exact ⟨fun P => eq_dataH r1 r2 (shaped_ints ns) (shaped_ints ms) hu2 (by rw [e]; exact P _ k), fun P => ne_dataH r1 r2 (shaped_ints ns) (shaped_ints ms) hu2 (by rw [e]; exact P _ k)⟩
  · obtain ⟨a, xs, c, es, W, rfl, ha, hrs, hm, N, hl⟩ := led_list S hx ho
    obtain ⟨a2, xs2, c2, es2, W2, rfl, ha2, hrs2, hm2, N2, hl2⟩ := led_list S hy hp
    obtain ⟨t1, rfl⟩ := rep_str1 hrs
    obtain ⟨t2, rfl⟩ := rep_str1 hrs2
    · have r1 := reads_list_at (N _ hm).1 rfl rfl (.cons (.str (strOf z) t1) .nil)
      have r2 := reads_list_at (N2 _ hm2).1 rfl rfl (.cons (.str (strOf z) t2) .nil)
      have hs : SeqAt.shaped (.list [.str (strOf z)]) = true := by simp [SeqAt.shaped, PyData.canLay0, PyData.canLayAll0, PyData.depth, PyData.depthAll, hz]
      have e : PyData.eqv (.list [.str (strOf z)]) (.list [.str (strOf z)]) = true := by simp [PyData.eqv, PyData.eqvAll]
      exact ⟨fun P => eq_dataH r1 r2 hs hs hu2 (by rw [e]; exact P _ k), fun P => ne_dataH r1 r2 hs hs hu2 (by rw [e]; exact P _ k)⟩
mutual
theorem rd_reads {s : Shared} (S : Sim R s.heap ρ led ex) : ∀ (d : PyData) (v : SV) (x : Value), rdP led d v → Rep ρ v x → ∃ as, Reads s.heap x d as
  | .int z, v, x, h, hx => by
    simp only [rdP] at h
    subst h
    obtain ⟨t, rfl⟩ := hx
    exact ⟨_, .int z t⟩
  | .str y, v, x, h, hx => by
    simp only [rdP] at h
    obtain ⟨l, rfl, rfl⟩ := h
    obtain ⟨t, rfl⟩ := hx
    exact ⟨_, .str _ t⟩
  | .list ds, v, x, h, hx => by
    simp only [rdP] at h
    obtain ⟨k, vs, rfl, ho, h⟩ := h
    obtain ⟨a, xs, c, es, W, rfl, ha, hrs, hm, N, hl⟩ := led_list S hx ho
    obtain ⟨as, r⟩ := rd_readsAll S ds vs xs h hrs
    exact ⟨_, reads_list_at (N _ hm).1 rfl rfl r⟩
  | .tuple ds, v, x, h, hx => by
    simp only [rdP] at h
    obtain ⟨k, vs, rfl, ho, h⟩ := h
    obtain ⟨a, ha, rfl⟩ := hx
    obtain ⟨ob, es, W, ⟨xs, c, hrs, rfl⟩, hm, N⟩ := S.obj ha ho
    obtain ⟨as, r⟩ := rd_readsAll S ds vs xs h hrs
    exact ⟨_, reads_tuple_at (N _ hm).1 rfl rfl r⟩
  | .none, _, _, h, _ => by simp [rdP] at h
  | .bool _, _, _, h, _ => by simp [rdP] at h
  | .dict _, _, _, h, _ => by simp [rdP] at h
theorem rd_readsAll {s : Shared} (S : Sim R s.heap ρ led ex) : ∀ (ds : List PyData) (vs : List SV) (xs : List Value), rdAll led ds vs → RepL ρ vs xs → ∃ as, ReadsAll s.heap xs ds as
  | [], vs, xs, h, hx => by
    simp only [rdAll] at h
    subst h
    cases xs with
    | nil => exact ⟨_, .nil⟩
    | cons _ _ => exact hx.elim
  | d :: ds, vs, xs, h, hx => by
    simp only [rdAll] at h
    obtain ⟨v, ws, rfl, h1, h2⟩ := h
    cases xs with
    | nil => exact hx.elim
    | cons x xs =>
      obtain ⟨a, r1⟩ := rd_reads S d v x h1 hx.1
      obtain ⟨b, r2⟩ := rd_readsAll S ds ws xs h2 hx.2
      exact ⟨_, .cons r1 r2⟩
end
set_option tactic.hygienic false in
theorem xcmpL_ok {op : CmpOp} {a b : SV} {x y : Value} {K : Bool → Led → Prop} {Q : Value → Shared → Prop} {E : Value → Shared → Prop} (k : xcmpL op a b led K) (hx : Rep ρ a x) (hy : Rep ρ b y) (hu : R.un + 100 < cLine) (S : Sim R s.heap ρ led ex)
    (P : ∀ c, K c led → Q (.bool c) s) : wpAny R.M R.A (compareOp op x y) Q E s := by
  cases a with
  | loc i =>
    cases b with
    | loc j =>
      cases op with
      | Eq =>
        rcases k with k | ⟨d, e, h1, h2, h3, h4, k⟩
        · exact (leq_ok (K := fun c => K c led) k hx hy hu S).1 P
        · obtain ⟨as, r1⟩ := rd_reads S d _ x h1 hx
          obtain ⟨bs, r2⟩ := rd_reads S e _ y h2 hy
          exact eq_dataH r1 r2 h3 h4 (by show R.un + 64 < cLine; omega) (P _ k)
      | NotEq =>
        rcases k with k | ⟨d, e, h1, h2, h3, h4, k⟩
        · exact (leq_ok (K := fun c => K (!c) led) k hx hy hu S).2 fun c q => P _ q
        · obtain ⟨as, r1⟩ := rd_reads S d _ x h1 hx
          obtain ⟨bs, r2⟩ := rd_reads S e _ y h2 hy
          exact ne_dataH r1 r2 h3 h4 (by show R.un + 64 < cLine; omega) (P _ k)
      | _ => exact False.elim k
    | _ => exact False.elim k
  | none => exact xcmp_ok (a := .none) (b := b) (op := op) (K := fun c => K c led) (show xcmp op .none b (fun c => K c led) from k) hx hy P
  | bool c => exact xcmp_ok (a := .bool c) (b := b) (op := op) (K := fun c => K c led) (show xcmp op (.bool c) b (fun c => K c led) from k) hx hy P
  | int c => exact xcmp_ok (a := .int c) (b := b) (op := op) (K := fun c => K c led) (show xcmp op (.int c) b (fun c => K c led) from k) hx hy P
  | str c => exact xcmp_ok (a := .str c) (b := b) (op := op) (K := fun c => K c led) (show xcmp op (.str c) b (fun c => K c led) from k) hx hy P
  | fn c => exact xcmp_ok (a := .fn c) (b := b) (op := op) (K := fun c => K c led) (show xcmp op (.fn c) b (fun c => K c led) from k) hx hy P
noncomputable def xCmp (r : Rec) (cx : Cx) (l : Expr) (ops : List CmpOp) (qs : List Expr) (loc : Loc) (led : Led) (K : Bool → Led → Prop) : Prop :=
  match ops with
  | [op] => match qs with
    | [q] => match isSet q with
      | false => r.ev cx l loc led fun a led => r.ev cx q loc led fun b led => xcmpL op a b led K
      | true => False
    | _ => False
  | _ => False
set_option tactic.hygienic false in
theorem xCmp_inv {l : Expr} {ops : List CmpOp} {qs : List Expr} {K : Bool → Led → Prop} (h : xCmp r cx l ops qs loc led K) :
    ∃ op q, ops = [op] ∧ qs = [q] ∧ behindInMarks op q = false ∧ r.ev cx l loc led fun a led => r.ev cx q loc led fun b led => xcmpL op a b led K := by
  unfold xCmp at h
  match ops, qs, h with
  | [op], [q], h =>
    refine ⟨op, q, rfl, rfl, ?_, ?_⟩
    · cases q <;> first | rfl | exact False.elim h
    · cases hq : isSet q with
      | true => dsimp only at h; rw [hq] at h; exact False.elim h
      | false => dsimp only at h; rw [hq] at h; exact h
set_option tactic.hygienic false in
theorem Compare_X (S : SndR r) {l : Expr} {ops : List CmpOp} {qs : List Expr} {pos : Pos} {K : SV → Led → Prop} {Q E : Value → Shared → Prop} (h : xCmp r cx l ops qs loc led fun c led => K (.bool c) led) (H : Here R cx env ρ led ex loc m s) (P : PostE R K ρ ex m s Q) :
    wpAny R.M R.A (eval (.Compare l ops qs pos) env) Q E s := by
  obtain ⟨op, q, rfl, rfl, hb, h⟩ := xCmp_inv h
  refine wpAny_Compare1 (S.ev h H ?_) hb
  intro a x ρ1 led1 h1 tk1 k1 g1 r1 F1 S1
  refine S.ev k1 (H.go g1 F1 S1) ?_
  intro b y ρ2 led2 h2 tk2 k2 g2 r2 F2 S2
  exact xcmpL_ok k2 (r1.mono g2) r2 (by have := H.ok.ok.uni; show R.un + 100 < cLine; omega) S2 fun c k3 => P (.bool c) _ ρ2 led2 h2 tk2 k3 (g1.trans g2) rfl F2 S2
set_option tactic.hygienic false in
theorem Compare_T (S : SndR r) {l : Expr} {ops : List CmpOp} {qs : List Expr} {pos : Pos} {whole : Sem Value} {K : Bool → Led → Prop} {Q : Bool → Shared → Prop} {E : Value → Shared → Prop} (h : xCmp r cx l ops qs loc led K) (H : Here R cx env ρ led ex loc m s) (P : PostT R K ρ ex m s Q) :
    wpAny R.M R.A (PySem.isTrue (.Compare l ops qs pos) env whole) Q E s := by
  obtain ⟨op, q, rfl, rfl, hb, h⟩ := xCmp_inv h
  refine wpAny_isTrue_Compare1 (S.ev h H ?_) hb
  intro a x ρ1 led1 h1 tk1 k1 g1 r1 F1 S1
  refine S.ev k1 (H.go g1 F1 S1) ?_
  intro b y ρ2 led2 h2 tk2 k2 g2 r2 F2 S2
  exact xcmpL_ok k2 (r1.mono g2) r2 (by have := H.ok.ok.uni; show R.un + 100 < cLine; omega) S2 fun c k3 => wpAny_truthy_bool (P c ρ2 led2 h2 tk2 k3 (g1.trans g2) F2 S2)
noncomputable def xTr (v : SV) (led : Led) (K : Bool → Led → Prop) : Prop :=
  match v with
  | .loc k => match led[k]? with
    | some (.list vs) => vs.length ≤ 100000 ∧ K (!vs.isEmpty) led
    | _ => False
  | v => xtruth v fun c => K c led
theorem xTr_ok {v : SV} {x : Value} {K : Bool → Led → Prop} {Q : Bool → Shared → Prop} {E : Value → Shared → Prop} (k : xTr v led K) (hx : Rep ρ v x) (S : Sim R s.heap ρ led ex) (P : ∀ c tk, K c led → Q c { s with toks := tk }) : wpAny R.M R.A (truthy x) Q E s := by
  cases v with
  | loc i =>
    unfold xTr at k
    dsimp only at k
    split at k
    · rename_i vs ho
      obtain ⟨a, xs, c, es, W, rfl, ha, hrs, hm, N, hl⟩ := led_list S hx ho
      have k1 := k.1
      refine wpAny_truthy_list hl (by rw [List.size_toArray, ← hrs.length]; omega) (P _ _ ?_)
      have e : xs.toArray.isEmpty = vs.isEmpty := by
        have hl := hrs.length
        cases vs <;> cases xs <;> first | rfl | cases hl
      rw [e]; exact k.2
    · exact k.elim
  | bool b => exact xtruth_ok (show xtruth (.bool b) fun c => K c led from k) hx fun c k2 => P c s.toks k2
  | int b => exact xtruth_ok (show xtruth (.int b) fun c => K c led from k) hx fun c k2 => P c s.toks k2
  | none => exact False.elim k
  | str _ => exact False.elim k
  | fn _ => exact False.elim k
noncomputable def xAnd (r : Rec) (cx : Cx) (loc : Loc) : List Expr → Led → (Bool → Led → Prop) → Prop
  | [], led, K => K true led
  | e :: es, led, K => r.et cx e loc led fun c led => match c with
    | true => xAnd r cx loc es led K
    | false => K false led
noncomputable def xOr (r : Rec) (cx : Cx) (loc : Loc) : List Expr → Led → (Bool → Led → Prop) → Prop
  | [], led, K => K false led
  | e :: es, led, K => r.et cx e loc led fun c led => match c with
    | true => K true led
    | false => xOr r cx loc es led K
set_option tactic.hygienic false in
theorem And_T (S : SndR r) {pos : Pos} {whole : Sem Value} {K : Bool → Led → Prop} {Q : Bool → Shared → Prop} {E : Value → Shared → Prop} : ∀ {es : List Expr} {ρ : List Addr} {led : Led} {s : Shared}, xAnd r cx loc es led K → Here R cx env ρ led ex loc m s → PostT R K ρ ex m s Q →
    wpAny R.M R.A (PySem.isTrue (.BoolOp .And es pos) env whole) Q E s
  | [], ρ, led, s, h, H, P => isTrue_and_nil (P true ρ led s.heap s.toks h Grow.refl H.fr H.sim)
  | e :: es, ρ, led, s, h, H, P => by
    refine isTrue_and (S.et h H ?_)
    intro c ρ1 led1 h1 tk1 k1 g1 F1 S1
    cases c with
    | true => rw [if_pos rfl]; exact And_T S k1 (H.go g1 F1 S1) (P.go g1)
    | false => rw [if_neg Bool.false_ne_true]; exact P false ρ1 led1 h1 tk1 k1 g1 F1 S1
set_option tactic.hygienic false in
theorem Or_T (S : SndR r) {pos : Pos} {whole : Sem Value} {K : Bool → Led → Prop} {Q : Bool → Shared → Prop} {E : Value → Shared → Prop} : ∀ {es : List Expr} {ρ : List Addr} {led : Led} {s : Shared}, xOr r cx loc es led K → Here R cx env ρ led ex loc m s → PostT R K ρ ex m s Q →
    wpAny R.M R.A (PySem.isTrue (.BoolOp .Or es pos) env whole) Q E s
  | [], ρ, led, s, h, H, P => isTrue_or_nil (P false ρ led s.heap s.toks h Grow.refl H.fr H.sim)
  | e :: es, ρ, led, s, h, H, P => by
    refine isTrue_or (S.et h H ?_)
    intro c ρ1 led1 h1 tk1 k1 g1 F1 S1
    cases c with
    | true => rw [if_pos rfl]; exact P true ρ1 led1 h1 tk1 k1 g1 F1 S1
    | false => rw [if_neg Bool.false_ne_true]; exact Or_T S k1 (H.go g1 F1 S1) (P.go g1)
set_option tactic.hygienic false in
theorem Not_T (S : SndR r) {e : Expr} {pos : Pos} {whole : Sem Value} {K : Bool → Led → Prop} {Q : Bool → Shared → Prop} {E : Value → Shared → Prop} (h : r.et cx e loc led fun c led => K (!c) led) (H : Here R cx env ρ led ex loc m s) (P : PostT R K ρ ex m s Q) :
    wpAny R.M R.A (PySem.isTrue (.UnaryOp .Not e pos) env whole) Q E s :=
  isTrue_not (S.et h H fun c ρ1 led1 h1 tk1 k1 g1 F1 S1 => P (!c) ρ1 led1 h1 tk1 k1 g1 F1 S1)
set_option tactic.hygienic false in
theorem Plain_T (S : SndR r) {e : Expr} {K : Bool → Led → Prop} {Q : Bool → Shared → Prop} {E : Value → Shared → Prop} (h : r.ev cx e loc led fun v led => xTr v led K) (H : Here R cx env ρ led ex loc m s) (P : PostT R K ρ ex m s Q)
    (he : PySem.isTrue e env (eval e env) = (do let v ← eval e env; standAt e.pos; holding [v] (truthy v))) :
    wpAny R.M R.A (PySem.isTrue e env (eval e env)) Q E s :=
  isTrue_plain (S.ev h H fun v x ρ1 led1 h1 tk1 k1 g1 r1 F1 S1 => xTr_ok (s := { s with heap := h1, toks := tk1 }) k1 r1 S1 fun c tk k2 => P c ρ1 led1 h1 tk k2 g1 F1 S1) he
noncomputable def xArgs (r : Rec) (cx : Cx) (es : List Expr) (loc : Loc) (led : Led) (K : List SV → Led → Prop) : Prop :=
  match es with
  | [] => K [] led
  | e :: es => match isStar e with
    | false => r.ev cx e loc led fun v led => r.ea cx es loc led fun vs led => K (v :: vs) led
    | true => False
set_option tactic.hygienic false in
theorem starEach_X {e : Expr} {es : List Expr} (h : isStar e = false) : starEach (e :: es) env = (false, eval e env) :: starEach es env := by
  cases e <;> first | rfl | cases h
set_option tactic.hygienic false in
theorem Args_X (S : SndR r) {es : List Expr} {pos : Pos} {K : List SV → Led → Prop} {Q : List Value → Shared → Prop} {E : Value → Shared → Prop} (h : xArgs r cx es loc led K) (H : Here R cx env ρ led ex loc m s) (P : PostA R K ρ ex m s Q) :
    wpAny R.M R.A (spliced (backTo pos (starEach es env))) Q E s := by
  cases es with
  | nil => exact args_nil (P [] [] ρ led s.heap s.toks h Grow.refl trivial H.fr H.sim)
  | cons e es =>
    unfold xArgs at h
    cases he : isStar e with
    | true => simp only [he] at h
    | false =>
      simp only [he] at h
      refine args_cons (S.ev h H ?_) (starEach_X he)
      intro v x ρ1 led1 h1 tk1 k1 g1 r1 F1 S1
      refine S.ea k1 (H.go g1 F1 S1) ?_
      intro vs xs ρ2 led2 h2 tk2 k2 g2 r2 F2 S2
      exact P (v :: vs) (x :: xs) ρ2 led2 h2 tk2 k2 (g1.trans g2) ⟨r1.mono g2, r2⟩ F2 S2
set_option tactic.hygienic false in
theorem List_X (S : SndR r) {es : List Expr} {pos : Pos} {K : SV → Led → Prop} {Q E : Value → Shared → Prop} (h : r.ea cx es loc led fun vs led => vs.length ≤ 100000 ∧ K (.loc led.length) (led ++ [.list vs])) (H : Here R cx env ρ led ex loc m s) (P : PostE R K ρ ex m s Q) :
    wpAny R.M R.A (eval (.List es pos) env) Q E s :=
  List_ (S.ea h H fun vs xs ρ1 led1 h1 tk1 k1 g1 r1 F1 S1 => newList_X F1 S1 r1 k1.1 k1.2 (P.go g1))
set_option tactic.hygienic false in
theorem Tuple_X (S : SndR r) {es : List Expr} {k : Nat} {pos : Pos} {K : SV → Led → Prop} {Q E : Value → Shared → Prop} (h : r.ea cx es loc led fun vs led => vs.length ≤ 100000 ∧ K (.loc led.length) (led ++ [.tup vs])) (H : Here R cx env ρ led ex loc m s) (P : PostE R K ρ ex m s Q) :
    wpAny R.M R.A (eval (.Tuple es k pos) env) Q E s := by
  refine Tuple_ (S.ea h H fun vs xs ρ1 led1 h1 tk1 k1 g1 r1 F1 S1 => ?_)
  obtain ⟨es', W, d, N⟩ := S1
  refine kup_newTuple F1 N (fun D' h2 F2 N2 hD => ?_) (by rw [← r1.length]; exact size100 k1.1)
  exact (P.go g1).new (o := .tup vs) F2 d N2 hD ⟨xs, _, r1.mono Grow.app, rfl⟩ k1.2 True.intro
end
end Mine
end
section
open PySem PySem.W PyProof.Rows PySem.Calls PyProof.V PySem.Spec
namespace Mine
noncomputable def xstore (cx : Cx) (x : Str) (v : SV) (loc : Loc) (led : Led) (K : Loc → Led → Prop) : Prop :=
  match cx.kind x with
  | some .local => K (setL x v loc) led
  | some .cell => match cx.cel.lookup x with
    | some k => match led[k]? with
      | some (.cell _) => K loc (led.set k (.cell (some v)))
      | _ => False
    | none => False
  | _ => False
section
variable {R : Rt} {cx : Cx} {ρ ρ' : List Addr} {led led' : Led} {ex : CbLed} {loc : Loc} {m : Str → Option Value} {s : Shared} {h' : Heap} {tk' : Nat} {r : Rec}
noncomputable def PostU (R : Rt) (K : Loc → Led → Prop) (ρ : List Addr) (ex : CbLed) (s : Shared) (Q : Unit → Shared → Prop) : Prop :=
  ∀ loc' led' m' h' tk', K loc' led' → Fr R.h₀ R.L h' m' → FrR ρ loc' m' → Sim R h' ρ led' ex → Q () { s with heap := h', toks := tk' }
set_option tactic.hygienic false in
theorem store_X {x : Str} {v : SV} {y : Value} {K : Loc → Led → Prop} {Q : Unit → Shared → Prop} {E : Value → Shared → Prop} (h : xstore cx x v loc led K) (H : At R cx ρ led ex loc m s) (hr : Rep ρ v y) (P : PostU R K ρ ex s Q) :
    wpAny R.M R.A (storeName R.env x y) Q E s := by
  have hkd := H.ok.kd x
  unfold xstore at h
  cases hk : cx.kind x with
  | none => rw [hk] at h; exact False.elim h
  | some kd =>
    rw [hk] at h hkd
    cases kd with
    | «local» =>
      obtain ⟨es, W, d, N⟩ := H.sim
      exact storeX_L H.fr N (fun h' F' N' => P _ led _ h' _ h F' (H.loc.set hr) ⟨es, W, d, N'⟩) H.ok.ok.kind hkd
    | cell =>
      cases hc : cx.cel.lookup x with
      | none => simp only [hc] at h
      | some k =>
        simp only [hc] at h
        cases ho : led[k]? with
        | none => simp only [ho] at h
        | some o =>
          simp only [ho] at h
          cases o with
          | cell w =>
            obtain ⟨c, q1, q2⟩ := H.ok.cel x k hc
            obtain ⟨ob, es, r, hro, N, hm, hnd, hne, up⟩ := H.sim.upd q2 ho
            have hdat : ∃ v₀, ob.data = .cell v₀ := by
              cases w with
              | none => exact ⟨_, hro⟩
              | some w => obtain ⟨z, _, e⟩ := hro; exact ⟨_, e⟩
            obtain ⟨v₀, hdat⟩ := hdat
            refine storeX_C H.fr N q1 (updF_put hnd hm hne) hdat (fun h' o' F' N' hd' => ?_) H.ok.ok.kind hkd
            exact P loc _ m h' _ h F' H.loc (up (.cell (some v)) o' h' (fun _ _ => .of hd') ⟨y, hr, hd'⟩ N')
          | _ => exact False.elim h
    | _ => exact False.elim h
noncomputable def isComp : Expr → Bool
  | .ListComp _ _ _ _ => true
  | .SetComp _ _ _ _ => true
  | .DictComp _ _ _ _ _ => true
  | _ => false
set_option tactic.hygienic false in
theorem swaps_no {value : Expr} {t : Option Expr} {l : Nat} {env : Env} (h : isComp value = false) : swapsWith value t l env = pure false := by
  cases value <;> first | rfl | cases h
noncomputable def xAssign (r : Rec) (cx : Cx) (x : Str) (value : Expr) (loc : Loc) (led : Led) (K : Fl → Loc → Led → Prop) : Prop :=
  match isComp value with
  | false => r.ev cx value loc led fun v led => xstore cx x v loc led fun loc led => K .next loc led
  | true => False
theorem Assign_X (S : SndR r) {x : Str} {px pos : Pos} {value : Expr} {K : Fl → Loc → Led → Prop} {Q : Flow → Shared → Prop} {E : Value → Shared → Prop} (h : xAssign r cx x value loc led K) (H : At R cx ρ led ex loc m s) (P : PostS R K ρ ex s Q) :
    wpAny R.M R.A (exec (.Assign [.Name x px] value pos) R.env) Q E s := by
  unfold xAssign at h
  cases hc : isComp value with
  | true => simp only [hc] at h
  | false =>
    simp only [hc] at h
    refine wpAny_Assign_Name (S.ev h H.here ?_) (swaps_no hc)
    intro v y ρ1 led1 h1 tk1 k1 g1 r1 F1 S1
    refine store_X k1 (H.go g1 F1 S1) r1 ?_
    intro loc2 led2 m2 h2 tk2 k2 F2 l2 S2
    exact P .next .next loc2 ρ1 led2 m2 h2 tk2 k2 g1 rfl F2 l2 S2
noncomputable def xAug (r : Rec) (cx : Cx) (x : Str) (op : Operator) (value : Expr) (loc : Loc) (led : Led) (K : Fl → Loc → Led → Prop) : Prop :=
  match okName x with
  | true => match op with
    | .Add => match xname cx x loc led with
      | some (.int a) => r.ev cx value loc led fun v led => ∃ b, v = .int b ∧ xstore cx x (.int (a + b)) loc led fun loc led => K .next loc led
      | some (.str a) => r.ev cx value loc led fun v led => ∃ b, v = .str b ∧ a.length + b.length ≤ 16777216 ∧ xstore cx x (.str (a ++ b)) loc led fun loc led => K .next loc led
      | _ => False
    | _ => False
  | false => False
theorem Aug_X (S : SndR r) {x : Str} {op : Operator} {px pos : Pos} {value : Expr} {K : Fl → Loc → Led → Prop} {Q : Flow → Shared → Prop} {E : Value → Shared → Prop} (h : xAug r cx x op value loc led K) (H : At R cx ρ led ex loc m s) (P : PostS R K ρ ex s Q) :
    wpAny R.M R.A (exec (.AugAssign (.Name x px) op value pos) R.env) Q E s := by
  unfold xAug at h
  cases hx : okName x with
  | false => simp only [hx] at h
  | true =>
    simp only [hx] at h
    cases op with
    | Add =>
      dsimp only at h
      cases hn : xname cx x loc led with
      | none => simp only [hn] at h
      | some w =>
        simp only [hn] at h
        cases w with
        | int a =>
          refine wpAny_AugAssign_Name (loadName_X H.here hn hx ?_)
          rintro y ⟨t, rfl⟩
          refine S.ev h H.here ?_
          rintro v z ρ1 led1 h1 tk1 ⟨b, rfl, k1⟩ g1 ⟨u, rfl⟩ F1 S1
          refine iadd_int ?_
          refine store_X k1 (H.go g1 F1 S1) ⟨_, rfl⟩ ?_
          intro loc2 led2 m2 h2 tk2 k2 F2 l2 S2
          exact P .next .next loc2 ρ1 led2 m2 h2 tk2 k2 g1 rfl F2 l2 S2
        | str a =>
          refine wpAny_AugAssign_Name (loadName_X H.here hn hx ?_)
          rintro y ⟨t, rfl⟩
          refine S.ev h H.here ?_
          rintro v z ρ1 led1 h1 tk1 ⟨b, rfl, hl, k1⟩ g1 ⟨u, rfl⟩ F1 S1
          refine iadd_str (fun t' tk => ?_) (by rw [strOf_len, strOf_len, sizeLine_eq]; exact hl)
          rw [strOf_app]
          refine store_X k1 (H.go g1 F1 S1) ⟨_, rfl⟩ ?_
          intro loc2 led2 m2 h2 tk2 k2 F2 l2 S2
          exact P .next .next loc2 ρ1 led2 m2 h2 tk2 k2 g1 rfl F2 l2 S2
        | _ => exact False.elim h
    | _ => exact False.elim h
noncomputable def xIfS (r : Rec) (cx : Cx) (t : Expr) (b o : List Stmt) (loc : Loc) (led : Led) (K : Fl → Loc → Led → Prop) : Prop :=
  r.et cx t loc led fun c led => match c with
    | true => r.xs cx b loc led K
    | false => r.xs cx o loc led K
set_option tactic.hygienic false in
theorem If_X (S : SndR r) {t : Expr} {b o : List Stmt} {pos : Pos} {K : Fl → Loc → Led → Prop} {Q : Flow → Shared → Prop} {E : Value → Shared → Prop} (h : xIfS r cx t b o loc led K) (H : At R cx ρ led ex loc m s) (P : PostS R K ρ ex s Q) (hE : PassesOwn R.M R.A R.env E) :
    wpAny R.M R.A (exec (.If t b o pos) R.env) Q E s := by
  refine wpAny_If (S.et h H.here ?_)
  intro c ρ1 led1 h1 tk1 k1 g1 F1 S1
  cases c with
  | true => rw [if_pos rfl]; exact S.xs k1 (H.go g1 F1 S1) (P.go g1) hE
  | false => rw [if_neg Bool.false_ne_true]; exact S.xs k1 (H.go g1 F1 S1) (P.go g1) hE
set_option tactic.hygienic false in
theorem Ret_X (S : SndR r) {e : Expr} {pos : Pos} {K : Fl → Loc → Led → Prop} {Q : Flow → Shared → Prop} {E : Value → Shared → Prop} (h : r.ev cx e loc led fun v led => K (.ret v) loc led) (H : At R cx ρ led ex loc m s) (P : PostS R K ρ ex s Q) :
    wpAny R.M R.A (exec (.Return (some e) pos) R.env) Q E s := by
  refine wpAny_Return_some (S.ev h H.here ?_)
  intro v y ρ1 led1 h1 tk1 k1 g1 r1 F1 S1
  exact P (.ret v) (.ret y) loc ρ1 led1 m h1 tk1 k1 g1 ⟨y, r1, rfl⟩ F1 (H.loc.mono g1) S1
noncomputable def xSeq (r : Rec) (cx : Cx) (sts : List Stmt) (loc : Loc) (led : Led) (K : Fl → Loc → Led → Prop) : Prop :=
  match sts with
  | [] => K .next loc led
  | st :: rest => r.ex cx st loc led fun f loc led => match f with
    | .next => r.xs cx rest loc led K
    | .ret v => K (.ret v) loc led
    | .brk => K .brk loc led
    | .cont => K .cont loc led
theorem Seq_X (S : SndR r) {sts : List Stmt} {K : Fl → Loc → Led → Prop} {Q : Flow → Shared → Prop} {E : Value → Shared → Prop} (h : xSeq r cx sts loc led K) (H : At R cx ρ led ex loc m s) (P : PostS R K ρ ex s Q) (hE : PassesOwn R.M R.A R.env E) :
    wpAny R.M R.A (execs sts R.env) Q E s := by
  cases sts with
  | nil => exact wpAny_execs_nil (P .next .next loc ρ led m s.heap s.toks h Grow.refl rfl H.fr H.loc H.sim)
  | cons st rest =>
    refine wpAny_execs_cons (S.ex h H ?_ hE)
    intro f fl loc1 ρ1 led1 m1 h1 tk1 k1 g1 r1 F1 l1 S1
    cases f with
    | next =>
      have e : fl = .next := r1
      subst e
      exact S.xs k1 (H.st g1 F1 l1 S1) (P.go g1) hE
    | ret v =>
      obtain ⟨y, r2, rfl⟩ := r1
      exact P (.ret v) (.ret y) loc1 ρ1 led1 m1 h1 tk1 k1 g1 ⟨y, r2, rfl⟩ F1 l1 S1
    | brk =>
      have e : fl = .brk := r1
      subst e
      exact P .brk .brk loc1 ρ1 led1 m1 h1 tk1 k1 g1 rfl F1 l1 S1
    | cont =>
      have e : fl = .cont := r1
      subst e
      exact P .cont .cont loc1 ρ1 led1 m1 h1 tk1 k1 g1 rfl F1 l1 S1
end
end Mine
end
section
open PySem PySem.W PyProof.Rows PySem.Calls PyProof.V PySem.Spec
namespace Mine
section
variable {prog : Program} {w : World} {A : Around} {E : Value → Shared → Prop} {s : Shared} {env : Env} {h₀ : Heap} {x : Str} {body : List Stmt} {Q : Flow → Shared → Prop}
end
end Mine
end
section
open PySem PySem.W PyProof.Rows PySem.Calls PyProof.V PySem.Spec
namespace Mine
noncomputable def forP (tn : Nat) (body : SV → Loc → Led → (Fl → Loc → Led → Prop) → Prop) (keep : Led → Prop) : List SV → Loc → Led → (Fl → Loc → Led → Prop) → Prop
  | [], loc, led, K => K .next loc led
  | v :: vs, loc, led, K => body v loc led fun f loc led => keep led ∧ match f with
    | .next => ∃ led₂ loc₂, Trim tn loc led led₂ loc₂ ∧ keep led₂ ∧ forP tn body keep vs loc₂ led₂ K
    | .cont => ∃ led₂ loc₂, Trim tn loc led led₂ loc₂ ∧ keep led₂ ∧ forP tn body keep vs loc₂ led₂ K
    | .brk => K .next loc led
    | .ret w => K (.ret w) loc led
set_option tactic.hygienic false in
theorem drop_consX {α : Type} {l : List α} {i : Nat} {c : α} (h : l[i]? = some c) : l.drop i = c :: l.drop (i + 1) := by
  obtain ⟨hl, e⟩ := List.getElem?_eq_some_iff.mp h
  rw [List.drop_eq_getElem_cons hl, e]
section
variable {R : Rt} {cx : Cx} {ρ ρ' : List Addr} {led led' : Led} {ex : CbLed} {loc : Loc} {m : Str → Option Value} {s : Shared} {h' : Heap} {tk' : Nat} {r : Rec}
set_option tactic.hygienic false in
theorem Sim.push {h : Heap} (S : Sim R h ρ led ex) (F : Fr R.h₀ R.L h m) (o : Obj) (hof : o.isFreed = false) (hq : ∀ W, CodeOb W o) : Sim R (h.push o) ρ led ((h.objs.size, o) :: ex) ∧ AllNe h.objs.size ex := by
  obtain ⟨es, W, d, N⟩ := S
  have hne : AllNe h.objs.size (es ++ (ex ++ W)) := fun p hp => Nat.ne_of_lt (Heap.lt_size (N p hp).1)
  refine ⟨⟨es, W, d.add hne (hq W), fun p hp => ?_⟩, fun p hp => hne p (List.mem_append_right _ (List.mem_append_left _ hp))⟩
  have key : p ∈ es ++ (ex ++ W) ∨ p = (h.objs.size, o) := by
    rcases List.mem_append.mp hp with hp | hp
    · exact .inl (List.mem_append_left _ hp)
    rcases List.mem_cons.mp hp with rfl | hp
    · exact .inr rfl
    · exact .inl (List.mem_append_right _ hp)
  rcases key with hp | rfl
  · exact ⟨Heap.get?_push_of_some _ (N p hp).1, (N p hp).2⟩
  · exact ⟨Heap.get?_push_size _ hof, Ne.symm (Nat.ne_of_lt F.ns.lt), next_is_new F⟩
set_option tactic.hygienic false in
theorem news_in {x : CbLed} {h : Heap} {es : CbLed} {D : Addr} {o : Obj} (N : News R.h₀ R.L h ((D, o) :: (es ++ x))) : News R.h₀ R.L h (es ++ (D, o) :: x) := cb_drop N fun p hp => by
  rcases List.mem_append.mp hp with hp | hp
  · exact .tail _ (List.mem_append_left _ hp)
  rcases List.mem_cons.mp hp with rfl | hp
  · exact .head _
  · exact .tail _ (List.mem_append_right _ hp)
set_option tactic.hygienic false in
theorem Sim.addEx {h' : Heap} {D : Addr} {o : Obj} {es W : CbLed} (d : Dat ρ led ex es W) (N : News R.h₀ R.L h' ((D, o) :: (es ++ (ex ++ W)))) (hlt : ∀ p ∈ es ++ (ex ++ W), @LT.lt Nat _ p.1 D) (hq : CodeOb W o) :
    Sim R h' ρ led ((D, o) :: ex) ∧ AllNe D ex :=
  have hne : AllNe D (es ++ (ex ++ W)) := fun p hp => Nat.ne_of_lt (hlt p hp)
  ⟨⟨es, W, d.add hne hq, news_in N⟩, fun p hp => hne p (List.mem_append_right _ (List.mem_append_left _ hp))⟩
set_option tactic.hygienic false in
theorem Sim.drop1 {h : Heap} {p : Addr × Obj} (S : Sim R h ρ led (p :: ex)) : Sim R h ρ led ex := by
  obtain ⟨es, W, d, N⟩ := S
  exact ⟨es, W, d.sub fun q hq => .tail _ hq, fun q hq => N q ((List.mem_append.mp hq).elim (List.mem_append_left _) fun h => List.mem_append_right _ (.tail _ h))⟩
set_option tactic.hygienic false in
theorem Dat.head {es W : CbLed} {I : Addr} {it : Obj} (d : Dat ρ led ((I, it) :: ex) es W) (hI : AllNe I ex) : AllNe I (es ++ (ex ++ W)) := fun q hq => by
  rcases List.mem_append.mp hq with hq | hq
  · exact Ne.symm (d.ap q.1 (d.mem hq) (I, it) (.head _))
  rcases List.mem_append.mp hq with hq | hq
  · exact hI q hq
  · exact d.aw (I, it) (List.mem_append_right _ (.head _)) q hq
set_option tactic.hygienic false in
theorem Sim.iter {h h₂ : Heap} {I : Addr} {it it₂ : Obj} (S : Sim R h ρ led ((I, it) :: ex)) (hI : AllNe I ex) (hk : ∀ b o, b ∉ [I] → h.get? b = some o → h₂.get? b = some o) (h2 : h₂.get? I = some it₂) (hq : ∀ W, CodeOb W it₂) : Sim R h₂ ρ led ((I, it₂) :: ex) := by
  obtain ⟨es, W, d, N⟩ := S
  have hne := d.head hI
  refine ⟨es, W, (d.sub fun q hq => .tail _ hq).add hne (hq W), news_in fun q hq => ?_⟩
  rcases List.mem_cons.mp hq with rfl | hq
  · exact ⟨h2, (N (I, it) (List.mem_append_right _ (.head _))).2⟩
  · have z := N q ((List.mem_append.mp hq).elim (List.mem_append_left _) fun h => List.mem_append_right _ (.tail _ h))
    exact ⟨hk _ _ (fun e => hne q hq (List.mem_singleton.mp e)) z.1, z.2⟩
set_option tactic.hygienic false in
theorem Sim.exGet {h : Heap} {p : Addr × Obj} (S : Sim R h ρ led ex) (hp : p ∈ ex) : h.get? p.1 = some p.2 ∧ p.1 ≠ R.L ∧ R.h₀.get? p.1 = none := by
  obtain ⟨es, W, _, N⟩ := S
  exact N p (List.mem_append_right _ (List.mem_append_left _ hp))
set_option tactic.hygienic false in
theorem Sim.sub {h : Heap} {ex' : CbLed} (S : Sim R h ρ led ex) (hs : ∀ p ∈ ex', p ∈ ex) : Sim R h ρ led ex' := by
  obtain ⟨es, W, d, N⟩ := S
  refine ⟨es, W, d.sub hs, fun q hq => N q ?_⟩
  rcases List.mem_append.mp hq with hq | hq
  · exact List.mem_append_left _ hq
  · exact List.mem_append_right _ ((List.mem_append.mp hq).elim (fun h => List.mem_append_left _ (hs q h)) (List.mem_append_right _))
structure Src (R : Rt) (ρ : List Addr) (keep : Led → Prop) (target : Expr) (I : Addr) (items : List SV) (fp : List Addr) (Pv : Nat → Value → Prop) (St : Nat → Heap → Prop) : Prop where
  W : Walks (PySem.Challenge.rw_tc0010_02.row.prog) R.w R.A I fp [I] items.length Pv St
  rep : ∀ i v, i < items.length → Pv i v → ∃ x, items[i]? = some x ∧ Rep ρ x v
  stay : ∀ b ∈ fp, b = I ∨ ∃ ob, ∀ h ρ' led ex, Sim R h ρ' led ex → Grow ρ ρ' → keep led → h.get? b = some ob
  see : ∀ i h, St i h → ∃ o, h.get? I = some o ∧ ∀ W, CodeOb W o
  go : ∀ i v (s : Shared) (Q : Unit → Shared → Prop) (E : Value → Shared → Prop), St i s.heap → Q () s → wpAny R.M R.A (letOwnedTupleGo target (.ref I) v) Q E s
section
variable {keep : Led → Prop} {target : Expr} {I : Addr} {items : List SV} {fp : List Addr} {Pv : Nat → Value → Prop} {St : Nat → Heap → Prop} {it : Obj} {i : Nat}
theorem Src.next (X : Src R ρ keep target I items fp Pv St) {Q : Option Value → Shared → Prop} {E : Value → Shared → Prop} (hI : AllNe I ex) (g : Grow ρ ρ') (F : Fr R.h₀ R.L s.heap m) (S : Sim R s.heap ρ' led ((I, it) :: ex)) (hst : St i s.heap) (hi : i ≤ items.length)
    (done : items.drop i = [] → ∀ h₂ tk₂, Fr R.h₀ R.L h₂ m → Sim R h₂ ρ' led ex → Q none { s with heap := h₂, toks := tk₂ })
    (item : ∀ v x h₂ tk₂ it₂, i + 1 ≤ items.length → items.drop i = x :: items.drop (i + 1) → Rep ρ' x v → Fr R.h₀ R.L h₂ m → Sim R h₂ ρ' led ((I, it₂) :: ex) → St (i + 1) h₂ → Q (some v) { s with heap := h₂, toks := tk₂ }) :
    wpAny R.M R.A (pyNext (.ref I)) Q E s := by
  obtain ⟨_, hI2, hI3⟩ := S.exGet (.head _)
  by_cases hlt : i < items.length
  · refine X.W.item i _ _ _ hlt hst fun v h₂ tk₂ hPv hst₂ hk₂ => ?_
    obtain ⟨it₂, hit₂, hq₂⟩ := X.see _ _ hst₂
    obtain ⟨x, hx, rx⟩ := X.rep i v hlt hPv
    exact item v x h₂ tk₂ it₂ hlt (drop_consX hx) (rx.mono g) (LCg.fr_but F hk₂ (Ne.symm hI2) hI3) (S.iter hI hk₂ hit₂ hq₂) hst₂
  · obtain rfl : i = items.length := Nat.le_antisymm hi (Nat.not_lt.mp hlt)
    refine X.W.done _ _ _ hst fun h₂ tk₂ hk₂ => done List.drop_length h₂ tk₂ (LCg.fr_but F hk₂ (Ne.symm hI2) hI3) ?_
    obtain ⟨es, Wt, d, N⟩ := S
    exact ⟨es, Wt, d.sub fun q hq => .tail _ hq, LCg.news_but (fun q hq => N q ((List.mem_append.mp hq).elim (List.mem_append_left _) fun h => List.mem_append_right _ (.tail _ h))) hk₂ (d.head hI)⟩
set_option tactic.hygienic false in
theorem Src.kept (X : Src R ρ keep target I items fp Pv St) {h₂ h₃ : Heap} {ρ₂ ρ₃ : List Addr} {led₂ led₃ : Led} {ex₂ ex₃ : CbLed} (st : St i h₂) (S₂ : Sim R h₂ ρ₂ led₂ ex₂) (m₂ : (I, it) ∈ ex₂) (g₂ : Grow ρ ρ₂) (k₂ : keep led₂)
    (S₃ : Sim R h₃ ρ₃ led₃ ex₃) (m₃ : (I, it) ∈ ex₃) (g₃ : Grow ρ ρ₃) (k₃ : keep led₃) : St i h₃ := by
  refine X.W.frame _ _ _ st fun b hb o e => ?_
  rcases X.stay b hb with rfl | ⟨ob, hh⟩
  · rw [(S₂.exGet m₂).1] at e
    rw [← e]; exact (S₃.exGet m₃).1
  · rw [hh _ _ _ _ S₂ g₂ k₂] at e
    rw [← e]; exact hh _ _ _ _ S₃ g₃ k₃
inductive ForI (R : Rt) (ρ : List Addr) (ex : CbLed) (s : Shared) (keep : Led → Prop) (I : Addr) (items : List SV) (St : Nat → Heap → Prop) (P : Nat → Loc → Led → Prop) (k : Nat) (s' : Shared) : Prop
  | mk (i : Nat) (ρ' : List Addr) (led' : Led) (loc' : Loc) (m' : Str → Option Value) (h' : Heap) (tk : Nat) (it' : Obj) (e : s' = { s with heap := h', toks := tk }) (hi : i ≤ items.length) (hk : k = items.length - i) (st : St i h') (g : Grow ρ ρ') (F : Fr R.h₀ R.L h' m') (l : FrR ρ' loc' m') (S : Sim R h' ρ' led' ((I, it') :: ex)) (kp : keep led') (h : P i loc' led')
set_option tactic.hygienic false in
theorem ForI.again {P : Nat → Loc → Led → Prop} {tn : Nat} {ρ₃ : List Addr} {led₃ : Led} {loc₃ : Loc} {m₃ : Str → Option Value} {h₃ : Heap} {tk₃ : Nat} {it₂ : Obj} (htn : ρ.length ≤ tn) (hi : i + 1 ≤ items.length) (st : St (i + 1) h₃) (g : Grow ρ ρ₃) (F : Fr R.h₀ R.L h₃ m₃) (l : FrR ρ₃ loc₃ m₃) (S : Sim R h₃ ρ₃ led₃ ((I, it₂) :: ex)) (z : ∃ led₂ loc₂, Trim tn loc₃ led₃ led₂ loc₂ ∧ keep led₂ ∧ P (i + 1) loc₂ led₂) :
    ∃ mm, mm < items.length - i ∧ ForI R ρ ex s keep I items St P mm { s with heap := h₃, toks := tk₃ } := by
  obtain ⟨led₂, loc₂, ⟨⟨j, rfl⟩, ht⟩, kp₂, z⟩ := z
  refine ⟨_, Nat.sub_succ_lt_self _ _ hi, ?_⟩
  rcases ht with rfl | ⟨t1, t2, t3, rfl⟩
  · exact ⟨i + 1, ρ₃, _, _, m₃, h₃, tk₃, it₂, rfl, hi, rfl, st, g, F, l.takeL, S, kp₂, z⟩
  · exact ⟨i + 1, ρ₃.take tn, _, _, m₃, h₃, tk₃, it₂, rfl, hi, rfl, st, g.take htn, F, l.takeL.take t3, S.take t2, kp₂, z⟩
theorem forLoop_X {body : List Stmt} {tn : Nat} {bd : SV → Loc → Led → (Fl → Loc → Led → Prop) → Prop} {K : Fl → Loc → Led → Prop} {Q : Flow → Shared → Prop} {E : Value → Shared → Prop}
    (X : Src R ρ keep target I items fp Pv St) (htn : ρ.length ≤ tn) (hst : St 0 s.heap) (hI : AllNe I ex) (hkeep : keep led)
    (turn : ∀ v x ρ₁ led₁ loc₁ m₁ s₁ ex₁ K₁ Q₁ E₁, bd x loc₁ led₁ K₁ → Rep ρ₁ x v → At R cx ρ₁ led₁ ex₁ loc₁ m₁ s₁ → PostS R K₁ ρ₁ ex₁ s₁ Q₁ → (∀ {α : Type} {t : Sem α} {Q' : α → Shared → Prop} {s' : Shared}, wpAny R.M R.A t Q' E s' → wpAny R.M R.A t Q' E₁ s') →
      wpAny R.M R.A (assign target R.env v) (fun _ s₂ => wpAny R.M R.A (execs body R.env) Q₁ E₁ s₂) E₁ s₁)
    (h : forP tn bd keep items loc led K) (H : At R cx ρ led ((I, it) :: ex) loc m s) (P : PostS R (fun f l led => keep led ∧ K f l led) ρ ex s Q) (hE : PassesOwn R.M R.A R.env E) :
    codeAny R.M R.A (.forLoop target (.ref I) body [] R.env) (fun r s' => match r with | .ok f => Q f s' | .error e => cameBackBy R.M R.A R.env E e s') s := by
  refine codeAny_forLoop_any (ForI R ρ ex s keep I items St fun i loc led => forP tn bd keep (items.drop i) loc led K) ?_ items.length
    ⟨0, ρ, led, loc, m, s.heap, s.toks, it, rfl, Nat.zero_le _, rfl, hst, Grow.refl, H.fr, H.loc, H.sim, hkeep, h⟩
  rintro k s' ⟨i, ρ', led', loc', m', h', tk, it', rfl, hi, rfl, hst', g', F', l', S', kp', hP⟩
  refine X.next hI g' F' S' hst' hi (fun hd h₂ tk₂ F₂ S₂ => ?_) fun v x h₂ tk₂ it₂ hi2 hd rx F₂ S₂ hst₂ => ?_
  · rw [hd] at hP
    dsimp only
    rw [execs_nil]
    exact wpAny_pure (P .next .next loc' ρ' led' m' h₂ tk₂ ⟨kp', hP⟩ g' rfl F₂ l' S₂)
  · rw [hd] at hP
    dsimp only
    refine X.go (i + 1) v _ _ _ hst₂ ?_
    refine turn v x ρ' led' loc' m' { s with heap := h₂, toks := tk₂ } ((I, it₂) :: ex) _ _ _ hP rx ⟨H.ok.mono g', F₂, S₂, l'⟩ ?_ (fun {α t Q' s'} hh => wpAny_passesOwn hE hh)
    intro f fl loc3 ρ3 led3 m3 h3 tk3 k3 g3 r3 F3 l3 S3
    obtain ⟨kp3, k3⟩ := k3
    have stay : St (i + 1) h3 := X.kept hst₂ S₂ (.head _) g' kp' S3 (.head _) (g'.trans g3) kp3
    have again : (∃ led₂ loc₂, Trim tn loc3 led3 led₂ loc₂ ∧ keep led₂ ∧ forP tn bd keep (items.drop (i + 1)) loc₂ led₂ K) → ∃ mm, mm < items.length - i ∧ ForI R ρ ex s keep I items St (fun i loc led => forP tn bd keep (items.drop i) loc led K) mm { s with heap := h3, toks := tk3 } := fun z => ForI.again (s := s) (P := fun i loc led => forP tn bd keep (items.drop i) loc led K) htn hi2 stay (g'.trans g3) F3 l3 S3 z
    cases f with
    | next =>
      have e : fl = .next := r3
      subst e
      exact again k3
    | cont =>
      have e : fl = .cont := r3
      subst e
      exact again k3
    | brk =>
      have e : fl = .brk := r3
      subst e
      exact P .next .next loc3 ρ3 led3 m3 h3 tk3 ⟨kp3, k3⟩ (g'.trans g3) rfl F3 l3 S3.drop1
    | ret w =>
      obtain ⟨y, r4, rfl⟩ := r3
      exact P (.ret w) (.ret y) loc3 ρ3 led3 m3 h3 tk3 ⟨kp3, k3⟩ (g'.trans g3) ⟨y, r4, rfl⟩ F3 l3 S3.drop1
end
end
end Mine
end
section
open PySem PySem.W PyProof.Rows PySem.Calls PyProof.V PySem.Spec
namespace Mine
noncomputable def xStores (cx : Cx) : List Expr → List SV → Loc → Led → (Loc → Led → Prop) → Prop
  | [], [], loc, led, K => K loc led
  | .Name x _ :: es, v :: vs, loc, led, K => xstore cx x v loc led fun loc led => xStores cx es vs loc led K
  | _, _, _, _, _ => False
noncomputable def xTarget (cx : Cx) (target : Expr) (v : SV) (loc : Loc) (led : Led) (K : Loc → Led → Prop) : Prop :=
  match target with
  | .Name x _ => xstore cx x v loc led K
  | .Tuple es _ _ => match v with
    | .loc j => match led[j]? with
      | some (.tup vs) => xStores cx es vs loc led K
      | some (.list vs) => vs.length ≤ 100000 ∧ xStores cx es vs loc led K
      | _ => False
    | _ => False
  | _ => False
noncomputable def xBody (r : Rec) (cx : Cx) (target : Expr) (body : List Stmt) (v : SV) (loc : Loc) (led : Led) (K : Fl → Loc → Led → Prop) : Prop :=
  xTarget cx target v loc led fun loc led => r.xs cx body loc led K
noncomputable def isNameE : Expr → Bool
  | .Name _ _ => true
  | _ => false
noncomputable def isTarget : Expr → Bool
  | .Name _ _ => true
  | .Tuple _ _ _ => true
  | _ => false
noncomputable def rangeOf (n : Int) : List SV := (List.range n.toNat).map fun (i : Nat) => .int (i : Int)
noncomputable def isTypeName (cx : Cx) (f : Str) (loc : Loc) (led : Led) (ty : String) : Bool :=
  okName f && match xname cx f loc led with
    | some (.fn (.type t)) => t == ty
    | _ => false
noncomputable def asType (cx : Cx) (iter : Expr) (loc : Loc) (led : Led) (ty : String) : Option Expr :=
  match iter with
  | .Call (.Name f _) [a] [] _ => match isTypeName cx f loc led ty && !isStar a with
    | true => some a
    | false => none
  | _ => none
noncomputable def xSrc (r : Rec) (cx : Cx) (target iter : Expr) (loc : Loc) (led : Led) (K : List SV → (Led → Prop) → (Led → Led) → Led → Prop) : Prop :=
  match asType cx iter loc led "range" with
  | some a => match isNameE target with
    | true => r.ev cx a loc led fun v led => match v with
      | .int n => 0 ≤ n ∧ n ≤ 100000 ∧ K (rangeOf n) (fun _ => True) (fun led => led) led
      | _ => False
    | false => False
  | none => match asType cx iter loc led "reversed" with
    | some a => match isNameE target with
      | true => r.ev cx a loc led fun v led => match v with
        | .loc k => match led[k]? with
          | some (.list vs) => vs.length ≤ 100000 ∧ ∀ ob, K vs.reverse (fun led => led[k]? = some (.frz ob)) (fun led => led.set k (.list vs)) (led.set k (.frz ob))
          | _ => False
        | _ => False
      | false => False
    | none => match isSet iter || !isTarget target with
      | false => r.ev cx iter loc led fun v led => match v with
        | .str s => match isNameE target with
          | true => s.length ≤ 100000 ∧ K (s.map fun c => .str [c]) (fun _ => True) (fun led => led) led
          | false => False
        | .loc k => match led[k]? with
          | some (.list vs) => vs.length ≤ 100000 ∧ ∀ ob, K vs (fun led => led[k]? = some (.frz ob)) (fun led => led.set k (.list vs)) (led.set k (.frz ob))
          | _ => False
        | _ => False
      | true => False
noncomputable def xFor (r : Rec) (cx : Cx) (target iter : Expr) (body : List Stmt) (loc : Loc) (led : Led) (K : Fl → Loc → Led → Prop) : Prop :=
  xSrc r cx target iter loc led fun items keep unf led => forP led.length (xBody r cx target body) keep items loc led fun f loc led => K f loc (unf led)
section
variable {R : Rt} {cx : Cx} {ρ ρ' : List Addr} {led led' : Led} {ex : CbLed} {loc : Loc} {m : Str → Option Value} {s : Shared} {h' : Heap} {tk' : Nat} {r : Rec}
set_option tactic.hygienic false in
theorem xStores_inv {K : Loc → Led → Prop} {e : Expr} {es : List Expr} {vs : List SV} (h : xStores cx (e :: es) vs loc led K) :
    ∃ x p v vs', e = .Name x p ∧ vs = v :: vs' ∧ xstore cx x v loc led fun loc led => xStores cx es vs' loc led K := by
  cases vs with
  | nil => cases e <;> exact False.elim h
  | cons v vs =>
    cases e with
    | Name x p => exact ⟨x, p, v, vs, rfl, rfl, h⟩
    | _ => exact False.elim h
set_option tactic.hygienic false in
theorem stores_X {K : Loc → Led → Prop} {Q : Unit → Shared → Prop} {E : Value → Shared → Prop} (es : List Expr) : ∀ {vs : List SV} {xs : List Value} {led : Led} {loc : Loc} {m : Str → Option Value} {s : Shared}, xStores cx es vs loc led K → RepL ρ vs xs → At R cx ρ led ex loc m s → PostU R K ρ ex s Q →
    wpAny R.M R.A (assignInOrder ((assignEach es R.env).map (·.2)) xs) Q E s := by
  induction es with
  | nil =>
    intro vs xs led loc m s h hr H P
    cases vs with
    | nil => exact assignInOrder_nil (P loc led m s.heap s.toks h H.fr H.loc H.sim)
    | cons v vs => exact False.elim h
  | cons e es ih =>
    intro vs xs led loc m s h hr H P
    obtain ⟨x, p, v, vs', rfl, rfl, h⟩ := xStores_inv h
    cases xs with
    | nil => exact False.elim hr
    | cons y ys =>
      show wpAny R.M R.A (assignInOrder (assign (.Name x p) R.env :: (assignEach es R.env).map (·.2)) (y :: ys)) Q E s
      refine assignInOrder_cons (wpAny_assign_Name (store_X h H hr.1 ?_))
      intro loc2 led2 m2 h2 tk2 k2 F2 l2 S2
      exact ih k2 hr.2 (H.st Grow.refl F2 l2 S2) fun loc3 led3 m3 h3 tk3 k3 F3 l3 S3 => P loc3 led3 m3 h3 tk3 k3 F3 l3 S3
set_option tactic.hygienic false in
theorem xstore_some {x : Str} {v : SV} {K : Loc → Led → Prop} (z : xstore cx x v loc led K) : ∃ loc' led', K loc' led' := by
  unfold xstore at z
  split at z
  · exact ⟨_, _, z⟩
  · split at z
    · split at z
      · exact ⟨_, _, z⟩
      · exact z.elim
    · exact z.elim
  · exact z.elim
set_option tactic.hygienic false in
theorem stores_len {env : Env} {K : Loc → Led → Prop} (es : List Expr) : ∀ {vs : List SV} {led : Led} {loc : Loc}, xStores cx es vs loc led K → es.length = vs.length ∧ (assignEach es env).length = es.length ∧ (assignEach es env).findIdx? (·.1) = none := by
  induction es with
  | nil =>
    intro vs led loc h
    cases vs with
    | nil => exact ⟨rfl, rfl, rfl⟩
    | cons v vs => exact False.elim h
  | cons e es ih =>
    intro vs led loc h
    obtain ⟨x, p, v, vs', rfl, rfl, h⟩ := xStores_inv h
    obtain ⟨l2, d2, z⟩ := xstore_some h
    obtain ⟨q1, q2, q3⟩ := ih z
    refine ⟨by rw [List.length_cons, List.length_cons, q1], ?_, ?_⟩
    · show (assignEach es env).length + 1 = _
      rw [q2]; rfl
    · show List.findIdx? (·.1) ((false, assign (.Name x p) env) :: assignEach es env) = none
      rw [List.findIdx?_cons]
      simp [q3]
end
end Mine
end
section
open PySem PySem.W PyProof.Rows PySem.Calls PyProof.V PySem.Spec
namespace Mine
section
variable {R : Rt} {cx : Cx} {ρ ρ' : List Addr} {led led' : Led} {ex : CbLed} {loc : Loc} {m : Str → Option Value} {s : Shared} {h' : Heap} {tk' : Nat} {r : Rec}
set_option tactic.hygienic false in
theorem putE_same {a : Addr} {ob : Obj} {es : CbLed} (hm : (a, ob) ∈ es) : ∀ p ∈ putE a ob es, p ∈ es := by
  intro p hp
  obtain ⟨q, hq, e⟩ := List.mem_map.mp hp
  by_cases h : @Eq Nat q.1 a
  · rw [if_pos h] at e
    rw [← e, show q.1 = a from h]; exact hm
  · rw [if_neg h] at e
    rw [← e]; exact hq
set_option tactic.hygienic false in
theorem Sim.swap {h : Heap} (S : Sim R h ρ led ex) {k : Nat} {a : Addr} {o : SO} (ha : ρ[k]? = some a) (ho : led[k]? = some o) :
    ∃ ob, RepO ρ o ob ∧ h.get? a = some ob ∧ ∀ o', RepO ρ o' ob → Sim R h ρ (led.set k o') ex := by
  obtain ⟨ob, es, r, hr, N, hm, hn, hne, up⟩ := S.upd ha ho
  refine ⟨ob, hr, N.get (List.mem_append_left _ hm), fun o' ho' => up o' ob h (fun _ z => z) ho' fun p hp => ?_⟩
  rcases List.mem_append.mp hp with hp | hp
  · exact N p (List.mem_append_left _ (putE_same hm p hp))
  · exact N p (List.mem_append_right _ hp)
set_option tactic.hygienic false in
theorem isTarget_go {target : Expr} (h : isTarget target = true) {I a : Addr} {i : Nat} {v : Value} {Q : Unit → Shared → Prop} {E : Value → Shared → Prop} (hit : s.heap.IsListIter I a i) (q : Q () s) : wpAny R.M R.A (letOwnedTupleGo target (.ref I) v) Q E s := by
  cases target with
  | Name x p => exact wpAny_pure q
  | Tuple es k p =>
    cases v with
    | ref T => exact wpAny_letOwnedTupleGo_listiter hit q
    | _ => exact wpAny_pure q
  | _ => cases h
set_option tactic.hygienic false in
theorem isNameE_go {target : Expr} (h : isNameE target = true) {I : Addr} {v : Value} {Q : Unit → Shared → Prop} {E : Value → Shared → Prop} (q : Q () s) : wpAny R.M R.A (letOwnedTupleGo target (.ref I) v) Q E s := by
  cases target with
  | Name x p => exact wpAny_pure q
  | _ => cases h
set_option tactic.hygienic false in
theorem items_get {ρ : List Addr} {vs : List SV} {xs : List Value} (h : RepL ρ vs xs) {i : Nat} {v : Value} (hv : xs[i]? = some v) : ∃ x, vs[i]? = some x ∧ Rep ρ x v := by
  have hl := h.length
  have hi : i < vs.length := by rw [hl]; exact (List.getElem?_eq_some_iff.mp hv).1
  have hx : vs[i]? = some vs[i] := List.getElem?_eq_getElem hi
  obtain ⟨y, e, ry⟩ := h.get hx
  rw [hv] at e
  injection e with e
  exact ⟨_, hx, e ▸ ry⟩
noncomputable def SrcPost (R : Rt) (target : Expr) (K : List SV → (Led → Prop) → (Led → Led) → Led → Prop) (ρ : List Addr) (ex : CbLed) (m : Str → Option Value) (s : Shared) (Q : Value → Shared → Prop) : Prop :=
  ∀ items keep unf ρ1 led1 h1 tk1 I it fp Pv St, K items keep unf led1 → Grow ρ ρ1 → Fr R.h₀ R.L h1 m → Sim R h1 ρ1 led1 ((I, it) :: ex) → AllNe I ex → Src R ρ1 keep target I items fp Pv St → St 0 h1 → keep led1 →
    (∀ ρ' led' h' ex', Grow ρ1 ρ' → keep led' → Sim R h' ρ' led' ex' → Sim R h' ρ' (unf led') ex') → items.length ≤ 100000 → Q (.ref I) { s with heap := h1, toks := tk1 }
set_option tactic.hygienic false in
theorem SrcPost.go {target : Expr} {K : List SV → (Led → Prop) → (Led → Led) → Led → Prop} {Q : Value → Shared → Prop} (P : SrcPost R target K ρ ex m s Q) (g : Grow ρ ρ') : SrcPost R target K ρ' ex m { s with heap := h', toks := tk' } Q :=
  fun items keep unf ρ1 led1 h1 tk1 I it fp Pv St k g1 => P items keep unf ρ1 led1 h1 tk1 I it fp Pv St k (g.trans g1)
set_option tactic.hygienic false in
theorem Sim.frz {h : Heap} (S : Sim R h ρ led ex) {k : Nat} {a : Addr} {vs : List SV} (ha : ρ[k]? = some a) (ho : led[k]? = some (.list vs)) :
    ∃ ob xs, RepL ρ vs xs ∧ h.get? a = some ob ∧ (∀ h : Heap, h.get? a = some ob → h.IsList a xs.toArray) ∧ Sim R h ρ (led.set k (.frz ob)) ex ∧ (led.set k (SO.frz ob))[k]? = some (.frz ob) ∧
      (∀ h' ρ' led' ex', Sim R h' ρ' led' ex' → Grow ρ ρ' → led'[k]? = some (.frz ob) → h'.get? a = some ob) ∧
      ∀ ρ' led' h' ex', Grow ρ ρ' → led'[k]? = some (.frz ob) → Sim R h' ρ' led' ex' → Sim R h' ρ' (led'.set k (.list vs)) ex' := by
  obtain ⟨ob, ⟨xs, c, hrs, hob⟩, hget, sw⟩ := S.swap ha ho
  have hk : k < led.length := (List.getElem?_eq_some_iff.mp ho).1
  refine ⟨ob, xs, hrs, hget, fun h e => ⟨ob, e, by rw [hob], by rw [hob]; exact ⟨_, rfl⟩⟩, sw (.frz ob) rfl, by rw [List.getElem?_set_self hk], ?_, ?_⟩
  · intro h' ρ' led' ex' S' g kp
    obtain ⟨ob', es, W, hro, hm, N⟩ := S'.obj (g _ _ ha) kp
    have e : ob' = ob := hro
    rw [← e]; exact N.get hm
  · intro ρ' led' h' ex' g kp S'
    obtain ⟨ob', q1, _, sw2⟩ := S'.swap (g _ _ ha) kp
    have e : ob' = ob := q1
    subst e
    exact sw2 (.list vs) ⟨xs, c, hrs.mono g, hob⟩
set_option tactic.hygienic false in
theorem range_size {n : Int} (h0 : 0 ≤ n) : Builtin.Range.rangeSize 0 n 1 = (n.toNat : Int) := by
  unfold Builtin.Range.rangeSize
  rw [if_pos (by decide)]
  by_cases h : 0 < n
  · rw [if_pos h, Int.ediv_one]; omega
  · rw [if_neg h]; omega
set_option tactic.hygienic false in
theorem srcRange_X {target : Expr} {K : List SV → (Led → Prop) → (Led → Led) → Led → Prop} {Q E : Value → Shared → Prop} {n : Int} {t : Tok} (ht : isNameE target = true) (n0 : 0 ≤ n) (n1 : n ≤ 100000) (k : K (rangeOf n) (fun _ => True) (fun led => led) led)
    (F : Fr R.h₀ R.L s.heap m) (S : Sim R s.heap ρ led ex) (P : SrcPost R target K ρ ex m s Q) : wpAny R.M R.A (call (.type "range") [.int n t]) (fun x s₁ => wpAny R.M R.A (pyIter x) Q E s₁) E s := by
  obtain ⟨es, W, d, N⟩ := S
  refine range1_rows F N ?_
  intro h2 tk2 t₁ u₁ v₁ hir F2 N2 _
  have S2 : Sim R h2 ρ led ex := ⟨es, W, d, N2⟩
  refine wpAny_pyIter_range hir (small_one (by omega) (by omega) (by omega) (by omega)) ?_
  obtain ⟨S3, hex⟩ := S2.push F2 _ (show Obj.isFreed { cls := .type "range_iterator", data := .fields #[rawInt 0, rawInt (Builtin.Range.rangeSize 0 n 1), rawInt 1] } = false from rfl) (fun _ => True.intro)
  have hlen : (rangeOf n).length = n.toNat := by simp [rangeOf]
  have W := Walks.range (prog := PySem.Challenge.rw_tc0010_02.row.prog) (w := R.w) (A := R.A) rfl h2.objs.size 0 1 n.toNat
  rw [← hlen] at W
  refine P (rangeOf n) (fun _ => True) (fun led => led) ρ led _ tk2 _ _ _ _ _ k Grow.refl (F2.push _) S3 hex ⟨W, ?_, fun b hb => .inl (List.mem_singleton.mp hb), fun i h z => ⟨_, z, fun _ => True.intro⟩, fun i v s Q E _ q => isNameE_go ht q⟩ ?_ True.intro (fun _ _ _ _ _ _ S => S) (by rw [hlen]; omega)
  · rintro i v hi ⟨t, rfl⟩
    rw [hlen] at hi
    refine ⟨.int (i : Int), by simp [rangeOf, hi], ⟨t, ?_⟩⟩
    congr 1
    omega
  · show IsRangeIter _ _ _ _ _
    rw [range_size n0, hlen]
    simpa using Heap.get?_push_size _ rfl
set_option tactic.hygienic false in
theorem srcRev_X {target : Expr} {K : List SV → (Led → Prop) → (Led → Led) → Led → Prop} {Q E : Value → Shared → Prop} {k : Nat} {y : Value} {vs : List SV} (ht : isNameE target = true) (ho : led[k]? = some (.list vs)) (hy : Rep ρ (.loc k) y) (hz : vs.length ≤ 100000)
    (kk : ∀ ob, K vs.reverse (fun led => led[k]? = some (.frz ob)) (fun led => led.set k (.list vs)) (led.set k (.frz ob))) (F : Fr R.h₀ R.L s.heap m) (S : Sim R s.heap ρ led ex) (P : SrcPost R target K ρ ex m s Q) :
    wpAny R.M R.A (call (.type "reversed") [y]) (fun x s₁ => wpAny R.M R.A (pyIter x) Q E s₁) E s := by
  obtain ⟨a, ha, rfl⟩ := hy
  obtain ⟨ob, xs, hrs, hget, hlst, S1, hk1, key, back⟩ := S.frz ha ho
  obtain ⟨es, W0, d, N⟩ := S1
  refine krv_reversed F N (hlst _ hget) ?_
  intro I h1 F1 N1 hlt
  obtain ⟨S2, hex⟩ := Sim.addEx d N1 hlt True.intro
  have hit : h1.IsRevIter I a ((xs.length : Int) - 1) := ⟨_, (N1 _ (.head _)).1, rfl, rfl⟩
  have hne : a ≠ I := fun e => by
    obtain ⟨_, _, z, _⟩ := S2
    exact z.ap a (List.mem_of_getElem? ha) _ (.head _) e.symm
  refine wpAny_pyIter_revIter hit ?_
  have W := Walks.listRev (prog := PySem.Challenge.rw_tc0010_02.row.prog) (w := R.w) (A := R.A) rfl I a hne xs.toArray
  have hsz : xs.toArray.size = vs.reverse.length := by rw [List.size_toArray, List.length_reverse, hrs.length]
  rw [hsz] at W
  refine P vs.reverse _ _ ρ _ h1 s.toks I _ _ _ _ (kk ob) Grow.refl F1 S2 hex ⟨W, ?_, ?_, ?_, fun i v s Q E z q => isNameE_go ht q⟩ ⟨Nat.zero_le _, by simpa [hrs.length] using hit, hlst _ (key h1 ρ _ _ S2 Grow.refl hk1)⟩ hk1 back (by rw [List.length_reverse]; exact hz)
  · intro i v hi hv
    rw [List.length_reverse] at hi
    have hv' : xs[xs.length - 1 - i]? = some v := by simpa [hrs.length] using hv
    obtain ⟨x, h1, h2⟩ := items_get hrs hv'
    refine ⟨x, ?_, h2⟩
    rw [List.getElem?_reverse hi, hrs.length]
    exact h1
  · intro b hb
    rcases List.mem_cons.mp hb with e | hb
    · exact .inl e
    · rw [List.mem_singleton.mp hb]
      exact .inr ⟨ob, fun h ρ' led ex S g kp => key h ρ' led ex S g kp⟩
  · rintro i h ⟨_, ⟨o, e, _, ed⟩, _⟩
    exact ⟨o, e, .fields ed⟩
set_option tactic.hygienic false in
theorem srcList_X {target : Expr} {K : List SV → (Led → Prop) → (Led → Led) → Led → Prop} {Q E : Value → Shared → Prop} {k : Nat} {y : Value} {vs : List SV} (ht : isTarget target = true) (ho : led[k]? = some (.list vs)) (hy : Rep ρ (.loc k) y) (hz : vs.length ≤ 100000)
    (kk : ∀ ob, K vs (fun led => led[k]? = some (.frz ob)) (fun led => led.set k (.list vs)) (led.set k (.frz ob))) (F : Fr R.h₀ R.L s.heap m) (S : Sim R s.heap ρ led ex) (P : SrcPost R target K ρ ex m s Q) : wpAny R.M R.A (pyIter y) Q E s := by
  obtain ⟨a, ha, rfl⟩ := hy
  obtain ⟨ob, xs, hrs, hget, hlst, S1, hk1, key, back⟩ := S.frz ha ho
  have hne : a ≠ s.heap.objs.size := Nat.ne_of_lt (Heap.lt_size hget)
  refine wpAny_pyIter_list (hlst _ hget) ?_
  obtain ⟨S2, hex⟩ := S1.push F _ (show Obj.isFreed { cls := .type "list_iterator", data := .fields #[.ref a, .int 0 0] } = false from rfl) (fun _ => True.intro)
  have W := Walks.list (prog := PySem.Challenge.rw_tc0010_02.row.prog) (w := R.w) (A := R.A) rfl s.heap.objs.size a hne xs.toArray
  have hsz : xs.toArray.size = vs.length := by rw [List.size_toArray, hrs.length]
  rw [hsz] at W
  refine P vs _ _ ρ _ _ s.toks _ _ _ _ _ (kk ob) Grow.refl (F.push _) S2 hex ⟨W, ?_, ?_, ?_, fun i v s Q E z q => isTarget_go ht z.1 q⟩ ⟨⟨_, Heap.get?_push_size _ rfl, rfl, rfl⟩, (hlst _ hget).push _⟩ hk1 back hz
  · intro i v hi hv
    obtain ⟨x, h1, h2⟩ := items_get hrs (by simpa using hv)
    exact ⟨x, h1, h2⟩
  · intro b hb
    rcases List.mem_cons.mp hb with e | hb
    · exact .inl e
    · rw [List.mem_singleton.mp hb]
      exact .inr ⟨ob, fun h ρ' led ex S g kp => key h ρ' led ex S g kp⟩
  · rintro i h ⟨⟨o, e, _, ed⟩, _⟩
    exact ⟨o, e, .fields ed⟩
set_option tactic.hygienic false in
theorem srcStr_X {target : Expr} {K : List SV → (Led → Prop) → (Led → Led) → Led → Prop} {Q E : Value → Shared → Prop} {sv : List Nat} {t : Tok} (ht : isNameE target = true) (hz : sv.length ≤ 100000)
    (kk : K (sv.map fun c => .str [c]) (fun _ => True) (fun led => led) led) (F : Fr R.h₀ R.L s.heap m) (S : Sim R s.heap ρ led ex) (P : SrcPost R target K ρ ex m s Q) : wpAny R.M R.A (pyIter (.str (strOf sv) t)) Q E s := by
  have hsz : (strOf sv).cps.size = (sv.map fun c => SV.str [c]).length := by simp [strOf]
  have go : ∀ (o : Obj) (St : Nat → Heap → Prop), o.isFreed = false → Walks (PySem.Challenge.rw_tc0010_02.row.prog) R.w R.A s.heap.objs.size [s.heap.objs.size] [s.heap.objs.size] (strOf sv).cps.size (SignAt (strOf sv)) St → (∀ i h, St i h → ∃ o, h.get? s.heap.objs.size = some o ∧ ∀ W, CodeOb W o) → (∀ W, CodeOb W o) → St 0 (s.heap.push o) →
      Q (.ref s.heap.objs.size) { s with heap := s.heap.push o } := by
    intro o St hof W hsee hq hst
    obtain ⟨S2, hex⟩ := S.push F o hof hq
    rw [hsz] at W
    refine P _ _ _ ρ led _ s.toks _ _ _ _ _ kk Grow.refl (F.push _) S2 hex ⟨W, ?_, fun b hb => .inl (List.mem_singleton.mp hb), hsee, fun i v s Q E z q => isNameE_go ht q⟩ hst True.intro (fun _ _ _ _ _ _ S => S) (by rw [List.length_map]; exact hz)
    rintro i v _ ⟨c, t2, hc, rfl⟩
    have hc' : sv[i]? = some c := by simpa [strOf] using hc
    exact ⟨.str [c], by rw [List.getElem?_map, hc']; rfl, ⟨t2, rfl⟩⟩
  cases ha : (strOf sv).cps.all (· < 128)
  · exact wpAny_pyIter_wide ha (go _ _ rfl (Walks.strWide rfl _ (strOf sv) t) (fun i h z => by obtain ⟨o, e, _, ed⟩ := z; exact ⟨o, e, .fields ed⟩) (fun _ => True.intro) ⟨_, Heap.get?_push_size _ rfl, rfl, rfl⟩)
  · exact wpAny_pyIter_ascii ha (go _ _ rfl (Walks.strAscii rfl _ (strOf sv) t) (fun i h z => by obtain ⟨o, e, _, ed⟩ := z; exact ⟨o, e, .fields ed⟩) (fun _ => True.intro) ⟨_, Heap.get?_push_size _ rfl, rfl, rfl⟩)
set_option tactic.hygienic false in
theorem folded_X {iter : Expr} {env : Env} (h : isSet iter = false) : ∀ x, foldedSetIterable iter env x = pure x := by
  intro x
  cases iter <;> first | rfl | cases h
theorem isType_X {f : Str} {ty : String} (h : isTypeName cx f loc led ty = true) : okName f = true ∧ (f == Str.ofString "__debug__") = false ∧ xname cx f loc led = some (.fn (.type ty)) := by
  unfold isTypeName at h
  rw [Bool.and_eq_true] at h
  obtain ⟨hok, h⟩ := h
  refine ⟨hok, by unfold okName at hok; simp at hok; exact beq_false_of_ne hok.1, ?_⟩
  split at h
  · rename_i t hx
    rw [hx, show t = ty from eq_of_beq h]
  · cases h
theorem asRange_X {iter a : Expr} {ty : String} (h : asType cx iter loc led ty = some a) : ∃ f pf pc, iter = .Call (.Name f pf) [a] [] pc ∧ isTypeName cx f loc led ty = true ∧ isStar a = false := by
  unfold asType at h
  split at h
  · rename_i f pf a' pc
    split at h
    · rename_i hc
      injection h with h
      subst h
      simp only [Bool.and_eq_true, Bool.not_eq_true'] at hc
      exact ⟨f, pf, pc, rfl, hc.1, hc.2⟩
    · cases h
  · cases h
set_option tactic.hygienic false in
theorem type1_X (S : SndR r) {env : Env} {iter a : Expr} {ty : String} {K : SV → Led → Prop} {Q : Value → Shared → Prop} {E : Value → Shared → Prop} (ha : asType cx iter loc led ty = some a) (h : r.ev cx a loc led K) (H : Here R cx env ρ led ex loc m s)
    (P : ∀ v x ρ1 led1 h1 tk1, K v led1 → Grow ρ ρ1 → Rep ρ1 v x → Fr R.h₀ R.L h1 m → Sim R h1 ρ1 led1 ex → wpAny R.M R.A (call (.type ty) [x]) Q E { s with heap := h1, toks := tk1 }) : wpAny R.M R.A (eval iter env) Q E s := by
  obtain ⟨f, pf, pc, rfl, hr, hst⟩ := asRange_X ha
  obtain ⟨hok, hd, hx⟩ := isType_X hr
  refine Call_ (wpAny_Name (loadName_X H hx hok ?_) hd)
  intro y ry
  have ey : y = .type ty := ry
  subst ey
  refine Pv.callWith_type1 (args_cons (S.ev h H ?_) (starEach_X hst)) (starEach_X hst) rfl
  intro v z ρ1 led1 h1 tk1 k1 g1 r1 F1 S1
  exact args_nil (P v z ρ1 led1 h1 tk1 k1 g1 r1 F1 S1)
theorem src_X (S : SndR r) {env : Env} {target iter : Expr} {K : List SV → (Led → Prop) → (Led → Led) → Led → Prop} {Q E : Value → Shared → Prop} (h : xSrc r cx target iter loc led K) (H : Here R cx env ρ led ex loc m s) (P : SrcPost R target K ρ ex m s Q) :
    wpAny R.M R.A (eval iter env) (fun x s₁ => wpAny R.M R.A (pyIter x) Q E s₁) E s ∧ ∀ x, foldedSetIterable iter env x = pure x := by
  unfold xSrc at h
  cases ha : asType cx iter loc led "range" with
  | some a =>
    rw [ha] at h
    dsimp only at h
    split at h
    · rename_i ht
      obtain ⟨f, pf, pc, rfl, _⟩ := asRange_X ha
      refine ⟨type1_X S ha h H ?_, fun _ => rfl⟩
      intro v x ρ1 led1 h1 tk1 k1 g1 r1 F1 S1
      split at k1
      · obtain ⟨t, rfl⟩ := r1
        exact srcRange_X ht k1.1 k1.2.1 k1.2.2 F1 S1 (P.go g1)
      · exact False.elim k1
    · exact False.elim h
  | none =>
    rw [ha] at h
    dsimp only at h
    cases hb : asType cx iter loc led "reversed" with
    | some a =>
      rw [hb] at h
      dsimp only at h
      split at h
      · rename_i ht
        obtain ⟨f, pf, pc, rfl, _⟩ := asRange_X hb
        refine ⟨type1_X S hb h H ?_, fun _ => rfl⟩
        intro v x ρ1 led1 h1 tk1 k1 g1 r1 F1 S1
        split at k1
        · split at k1
          · rename_i ho
            exact srcRev_X ht ho r1 k1.1 k1.2 F1 S1 (P.go g1)
          · exact False.elim k1
        · exact False.elim k1
      · exact False.elim h
    | none =>
      rw [hb] at h
      dsimp only at h
      split at h
      · rename_i hs
        rw [Bool.or_eq_false_iff, Bool.not_eq_false'] at hs
        refine ⟨S.ev h H ?_, folded_X hs.1⟩
        intro v x ρ1 led1 h1 tk1 k1 g1 r1 F1 S1
        split at k1
        · split at k1
          · rename_i ht
            obtain ⟨t, rfl⟩ := r1
            exact srcStr_X ht k1.1 k1.2 F1 S1 (P.go g1)
          · exact False.elim k1
        · split at k1
          · rename_i ho
            exact srcList_X hs.2 ho r1 k1.1 k1.2 F1 S1 (P.go g1)
          · exact False.elim k1
        · exact False.elim k1
      · exact False.elim h
set_option tactic.hygienic false in
theorem tupAt {k : Nat} {vs : List SV} {x : Value} (S : Sim R s.heap ρ led ex) (hk : Rep ρ (.loc k) x) (ho : led[k]? = some (.tup vs)) :
    ∃ a xs es W, x = .ref a ∧ RepL ρ vs xs ∧ News R.h₀ R.L s.heap (es ++ (ex ++ W)) ∧ IsTup s.heap a xs.toArray := by
  obtain ⟨a, ha, rfl⟩ := hk
  obtain ⟨ob, es, W, ⟨xs, c, hr, rfl⟩, hm, N⟩ := S.obj ha ho
  exact ⟨a, xs, es, W, rfl, hr, N, _, N.get hm, rfl, _, rfl⟩
set_option tactic.hygienic false in
theorem Grow.eq {ρ ρ' : List Addr} (g : Grow ρ ρ') (h : ρ'.length = ρ.length) : ρ' = ρ := List.ext_getElem? fun i => by
  by_cases hi : i < ρ.length
  · rw [g i _ (List.getElem?_eq_getElem hi), List.getElem?_eq_getElem hi]
  · rw [List.getElem?_eq_none (by omega), List.getElem?_eq_none (by omega)]
set_option tactic.hygienic false in
theorem ltOfL {α : Type} {l : List α} {k : Nat} {a : α} (h : l[k]? = some a) : k < l.length := (List.getElem?_eq_some_iff.mp h).1
theorem draw_X {keep : Led → Prop} {target : Expr} {I : Addr} {items : List SV} {fp : List Addr} {Pv : Nat → Value → Prop} {St : Nat → Heap → Prop} (X : Src R ρ keep target I items fp Pv St) (hI : AllNe I ex) {E : Value → Shared → Prop} :
    ∀ (n i : Nat) (s : Shared) (it : Obj) (Q : List Value → Shared → Prop), Fr R.h₀ R.L s.heap m → Sim R s.heap ρ led ((I, it) :: ex) → St i s.heap → i + n ≤ items.length →
      (∀ vs h' tk it', RepL ρ ((items.drop i).take n) vs → Fr R.h₀ R.L h' m → Sim R h' ρ led ((I, it') :: ex) → St (i + n) h' → Q vs { s with heap := h', toks := tk }) → wpAny R.M R.A (draw (.ref I) n) Q E s
  | 0, i, s, it, Q, F, S, st, _, hQ => wpAny_pure (hQ [] s.heap s.toks it True.intro F S st)
  | n + 1, i, s, it, Q, F, S, st, hle, hQ => by
    refine wpAny_bind (m := pyNext (.ref I)) (X.next hI Grow.refl F S st (by omega) (fun hd h₂ tk₂ F₂ S₂ => ?_) fun v x h₂ tk₂ it₂ hi2 hd rx F₂ S₂ st₂ => ?_)
    · have z := congrArg List.length hd
      rw [List.length_drop, List.length_nil] at z
      omega
    · refine wpAny_bind (wpAny_holding (draw_X X hI n (i + 1) _ it₂ _ F₂ S₂ st₂ (by omega) fun vs h3 tk3 it3 r3 F3 S3 st3 => wpAny_pure ?_))
      refine hQ (v :: vs) h3 tk3 it3 ?_ F3 S3 (by rw [show i + (n + 1) = i + 1 + n by omega]; exact st3)
      rw [hd, List.take_succ_cons]
      exact ⟨rx, r3⟩
theorem unpack_X {j : Nat} {vs : List SV} {x : Value} {n : Nat} {Q : List Value → Shared → Prop} {E : Value → Shared → Prop} (ho : led[j]? = some (.tup vs) ∨ (led[j]? = some (.list vs) ∧ vs.length ≤ 100000)) (hx : Rep ρ (.loc j) x) (hn : n = vs.length) (F : Fr R.h₀ R.L s.heap m) (S : Sim R s.heap ρ led ex)
    (P : ∀ xs h' tk', RepL ρ vs xs → Fr R.h₀ R.L h' m → Sim R h' ρ led ex → Q xs { s with heap := h', toks := tk' }) : wpAny R.M R.A (unpackItems x n none) Q E s := by
  subst hn
  rcases ho with ho | ⟨ho, hz⟩
  · obtain ⟨a, xs, es', W, rfl, hrs, N, ht⟩ := tupAt S hx ho
    obtain ⟨es2, W2, d2, N2⟩ := S
    refine unpackItemsN_ F N2 ht rfl (by rw [hrs.length, List.size_toArray]) ?_
    intro h' F' N'
    exact P xs h' s.toks hrs F' ⟨es2, W2, d2, N'⟩
  · unfold unpackItems
    obtain ⟨a, ha, rfl⟩ := id hx
    obtain ⟨ob, es, W, ⟨xs, c, hr, rfl⟩, hm, N⟩ := S.obj ha ho
    refine wpAny_bind ?_
    unfold notIterableAtAll
    refine wpAny_bind (wpAny_specialOf (N.isList hm).typeIs PySem.F.slot_list_iter.lookup ?_)
    refine wpAny_pure ?_
    simp only [Bool.false_eq_true, if_false]
    refine wpAny_bind (wpAny_holding (srcList_X (target := .Name (Str.ofString "") default) rfl ho hx hz (K := fun items keep unf led' => items = vs ∧ unf led' = led ∧ led'.length = led.length) (fun ob => ⟨rfl, ?_, List.length_set⟩) F S ?_))
    · show (led.set j _).set j _ = led
      rw [List.set_set]
      refine List.ext_getElem? fun i => ?_
      rw [List.getElem?_set]
      split
      · rename_i e
        subst e
        rw [ho, if_pos (ltOfL ho)]
      · rfl
    · rintro items keep unf ρ1 led1 h1 tk1 I it fp Pv St ⟨rfl, hu, hul⟩ g1 F1 S1 hI X st kp back _
      obtain rfl : ρ1 = ρ := g1.eq (by rw [S1.length, hul, S.length])
      refine wpAny_bind (wpAny_holding (draw_X X hI items.length 0 _ it _ F1 S1 st (by omega) fun xs h2 tk2 it2 r2 F2 S2 st2 => ?_))
      rw [List.drop_zero, List.take_length] at r2
      rw [if_neg (by rw [← r2.length]; omega)]
      rw [Nat.zero_add] at st2
      refine wpAny_bind (wpAny_holding (X.next hI Grow.refl F2 S2 st2 (Nat.le_refl _) (fun _ h3 tk3 F3 S3 => ?_) fun v x h3 tk3 it3 hi3 hd rx F3 S3 st3 => by omega))
      simp only [Option.isSome_none, Bool.false_eq_true, if_false]
      have z := back ρ1 led1 h3 ex Grow.refl kp S3
      rw [hu] at z
      exact wpAny_pure (P xs h3 tk3 r2 F3 z)
theorem target_X {target : Expr} {v : SV} {y : Value} {K : Loc → Led → Prop} {Q : Unit → Shared → Prop} {E : Value → Shared → Prop} (h : xTarget cx target v loc led K) (hr : Rep ρ v y) (H : At R cx ρ led ex loc m s) (P : PostU R K ρ ex s Q) :
    wpAny R.M R.A (assign target R.env y) Q E s := by
  cases target with
  | Name x p => exact wpAny_assign_Name (store_X h H hr P)
  | Tuple es k p =>
    cases v with
    | loc j =>
      have ⟨vs, hvs, h⟩ : ∃ vs, (led[j]? = some (.tup vs) ∨ (led[j]? = some (.list vs) ∧ vs.length ≤ 100000)) ∧ xStores cx es vs loc led K := by
        unfold xTarget at h
        dsimp only at h
        split at h
        · rename_i ho; exact ⟨_, .inl ho, h⟩
        · rename_i ho; exact ⟨_, .inr ⟨ho, h.1⟩, h.2⟩
        · exact False.elim h
      obtain ⟨q1, q2, q3⟩ := stores_len (env := R.env) es h
      rw [assign_Tuple]
      refine wpAny_bind (wpAny_standAt ?_)
      unfold unpack
      rw [q3]
      refine wpAny_bind (wpAny_holding (unpack_X hvs hr (by rw [q2, q1]) H.fr H.sim ?_))
      intro xs h' tk' hrs F' S'
      exact stores_X es h hrs (H.st Grow.refl F' H.loc S' (tk' := tk')) fun loc3 led3 m3 h3 tk3 k3 F3 l3 S3 => P loc3 led3 m3 h3 tk3 k3 F3 l3 S3
    | _ => exact False.elim h
  | _ => exact False.elim h
set_option tactic.hygienic false in
theorem body_X (S : SndR r) {target : Expr} {body : List Stmt} {v : Value} {x : SV} {K : Fl → Loc → Led → Prop} {Q : Flow → Shared → Prop} {E E₁ : Value → Shared → Prop} (h : xBody r cx target body x loc led K) (hr : Rep ρ x v) (H : At R cx ρ led ex loc m s) (P : PostS R K ρ ex s Q) (hE : PassesOwn R.M R.A R.env E)
    (c : ∀ {α : Type} {t : Sem α} {Q' : α → Shared → Prop} {s' : Shared}, wpAny R.M R.A t Q' E s' → wpAny R.M R.A t Q' E₁ s') :
    wpAny R.M R.A (assign target R.env v) (fun _ s₂ => wpAny R.M R.A (execs body R.env) Q E₁ s₂) E₁ s := by
  refine c (target_X h hr H ?_)
  intro loc2 led2 m2 h2 tk2 k2 F2 l2 S2
  exact c (S.xs k2 (H.st Grow.refl F2 l2 S2) (fun f fl l ρ3 led3 m3 h3 tk3 k3 g3 r3 F3 l3 S3 => P f fl l ρ3 led3 m3 h3 tk3 k3 g3 r3 F3 l3 S3) hE)
set_option tactic.hygienic false in
theorem for_X (S : SndR r) {target iter : Expr} {body : List Stmt} {pos : Pos} {K : Fl → Loc → Led → Prop} {Q : Flow → Shared → Prop} {E : Value → Shared → Prop} (h : xFor r cx target iter body loc led K) (H : At R cx ρ led ex loc m s) (P : PostS R K ρ ex s Q) (hE : PassesOwn R.M R.A R.env E) :
    wpAny R.M R.A (exec (.For target iter body [] pos) R.env) Q E s := by
  have go : SrcPost R target (fun items keep unf led => forP led.length (xBody r cx target body) keep items loc led fun f loc led => K f loc (unf led)) ρ ex m s (fun it s₂ => codeAny R.M R.A (.forLoop target it body [] R.env) (fun r s' => match r with | .ok f => Q f s' | .error e => cameBackBy R.M R.A R.env E e s') s₂) := by
    intro items keep unf ρ1 led1 h1 tk1 I it fp Pv St k1 g1 F1 S1 hI X st kp back _
    refine forLoop_X X (Nat.le_of_eq S1.length) st hI kp ?_ k1 ⟨H.ok.mono g1, F1, S1, H.loc.mono g1⟩ ?_ hE
    · intro v x ρ3 led3 loc3 m3 s3 ex3 K3 Q3 E3 k3 r3 H3 P3 c
      exact body_X S k3 r3 H3 P3 hE c
    · rintro f fl l ρ2 led2 m2 h2 tk2 ⟨kp2, k2⟩ g2 r2 F2 l2 S2
      exact P f fl l ρ2 _ m2 h2 tk2 k2 (g1.trans g2) r2 F2 l2 (back ρ2 led2 h2 ex g2 kp2 S2)
  obtain ⟨q1, q2⟩ := src_X S h H.here go (E := E)
  exact wpAny_For q1 q2
end
end Mine
end
section
open PySem PySem.W PyProof.Rows PySem.Calls PyProof.V PySem.Spec
namespace Mine
noncomputable def isStarE : Expr → Bool
  | .Starred .. => true
  | _ => false
noncomputable def xSwap (cx : Cx) (ts vs : List Expr) : Option (Option (List Str)) :=
  match !(ts.length == 2 || ts.length == 3) || vs.length != ts.length with
  | true => some none
  | false => match vs.any isStarE with
    | true => some none
    | false =>
      let names := ts.filterMap fun
        | .Name id pos => if cx.kind id == some .local && pos.line == (ts.head?.map (·.pos.line)).getD 0 then some id else none
        | _ => none
      match names.length != ts.length || names.eraseDups.length != names.length with
      | true => some none
      | false => match vs.all (foldedForSure 8) with
        | true => some none
        | false => match vs.all (constantsAlone 8) with
          | true => none
          | false => some (some names)
noncomputable def xStoreN (cx : Cx) : List Str → List SV → Loc → Led → (Loc → Led → Prop) → Prop
  | [], [], loc, led, K => K loc led
  | x :: xs, v :: vs, loc, led, K => xstore cx x v loc led fun loc led => xStoreN cx xs vs loc led K
  | _, _, _, _, _ => False
noncomputable def xAssignT (r : Rec) (cx : Cx) (es : List Expr) (k : Nat) (p : Pos) (value : Expr) (loc : Loc) (led : Led) (K : Fl → Loc → Led → Prop) : Prop :=
  match value with
  | .Tuple vs _ _ => match xSwap cx es vs with
    | some none => r.ev cx value loc led fun v led => xTarget cx (.Tuple es k p) v loc led fun loc led => K .next loc led
    | some (some names) => r.ev cx value loc led fun v led => match v with
      | .loc j => match led[j]? with
        | some (.tup vs) => names.length = vs.length ∧ xStoreN cx names.reverse vs.reverse loc led fun loc led => K .next loc led
        | _ => False
      | _ => False
    | none => False
  | _ => r.ev cx value loc led fun v led => xTarget cx (.Tuple es k p) v loc led fun loc led => K .next loc led
section
variable {R : Rt} {cx : Cx} {ρ ρ' : List Addr} {led led' : Led} {ex : CbLed} {loc : Loc} {m : Str → Option Value} {s : Shared} {h' : Heap} {tk' : Nat} {r : Rec}
theorem swap_X {ts vs : List Expr} {k k2 : Nat} {p p2 : Pos} {o : Option (List Str)} (H : EnvOk R cx R.env ρ) (h : xSwap cx ts vs = some o) : swappedStores [.Tuple ts k p] (.Tuple vs k2 p2) R.env = pure o := by
  have hk : ∀ x, R.env.kindOf x = cx.kind x := H.kd
  have hb : (R.env.blockKind != .function) = false := by
    unfold Env.blockKind
    rw [H.kind]; rfl
  unfold xSwap at h
  unfold swappedStores
  dsimp only
  simp only [hk, hb, Bool.or_false]
  split at h
  · rename_i e; rw [if_pos e]; injection h with h; subst h; rfl
  · rename_i e
    rw [if_neg (by rw [e]; decide)]
    split at h
    · rename_i e2
      rw [if_pos (by exact e2)]; injection h with h; subst h; rfl
    · rename_i e2
      refine Eq.trans (if_neg ?_) ?_
      · exact fun z => Bool.false_ne_true (e2.symm.trans z)
      dsimp only at h
      split at h
      · rename_i e3; rw [if_pos (by exact e3)]; injection h with h; subst h; rfl
      · rename_i e3
        refine Eq.trans (if_neg ?_) ?_
        · exact fun z => Bool.false_ne_true (e3.symm.trans z)
        split at h
        · rename_i e4; rw [if_pos e4]; injection h with h; subst h; rfl
        · rename_i e4
          rw [if_neg (by rw [e4]; decide)]
          split at h
          · cases h
          · rename_i e5
            rw [if_neg (by rw [e5]; decide)]; injection h with h; subst h; rfl
set_option tactic.hygienic false in
theorem storeN_X {K : Loc → Led → Prop} {Q : Unit → Shared → Prop} {E : Value → Shared → Prop} : ∀ (ns : List Str) {vs : List SV} {xs : List Value} {led : Led} {loc : Loc} {m : Str → Option Value} {s : Shared}, xStoreN cx ns vs loc led K → RepL ρ vs xs → At R cx ρ led ex loc m s → PostU R K ρ ex s Q →
    wpAny R.M R.A (assignInOrder (ns.map fun n => bindName R.env n) xs) Q E s
  | [], [], [], led, loc, m, s, h, _, H, P => assignInOrder_nil (P loc led m s.heap s.toks h H.fr H.loc H.sim)
  | n :: ns, v :: vs, x :: xs, led, loc, m, s, h, hr, H, P => by
    refine assignInOrder_cons (wpAny_bindName (store_X h H hr.1 ?_))
    intro loc2 led2 m2 h2 tk2 k2 F2 l2 S2
    exact storeN_X ns k2 hr.2 (H.st Grow.refl F2 l2 S2) fun loc3 led3 m3 h3 tk3 k3 F3 l3 S3 => P loc3 led3 m3 h3 tk3 k3 F3 l3 S3
  | [], _ :: _, _, _, _, _, _, h, _, _, _ => False.elim h
  | _ :: _, [], _, _, _, _, _, h, _, _, _ => False.elim h
  | [], [], _ :: _, _, _, _, _, _, hr, _, _ => False.elim hr
  | _ :: _, _ :: _, [], _, _, _, _, _, hr, _, _ => False.elim hr
theorem AssignT_X (S : SndR r) {es : List Expr} {k : Nat} {p pos : Pos} {value : Expr} {K : Fl → Loc → Led → Prop} {Q : Flow → Shared → Prop} {E : Value → Shared → Prop} (h : xAssignT r cx es k p value loc led K) (H : At R cx ρ led ex loc m s) (P : PostS R K ρ ex s Q) :
    wpAny R.M R.A (exec (.Assign [.Tuple es k p] value pos) R.env) Q E s := by
  have h1 : swapsWithSole [.Tuple es k p] value pos.line R.env = pure false := by
    cases value <;> rfl
  have plain : swappedStores [.Tuple es k p] value R.env = pure none → (r.ev cx value loc led fun v led => xTarget cx (.Tuple es k p) v loc led fun loc led => K .next loc led) → wpAny R.M R.A (exec (.Assign [.Tuple es k p] value pos) R.env) Q E s := fun h2 h => by
    refine Assign_Tuple (S.ev h H.here ?_) h1 h2
    intro v y ρ1 led1 h1 tk1 k1 g1 r1 F1 S1
    refine target_X k1 r1 (H.go g1 F1 S1) ?_
    intro loc2 led2 m2 h2 tk2 k2 F2 l2 S2
    exact P .next .next loc2 ρ1 led2 m2 h2 tk2 k2 g1 rfl F2 l2 S2
  unfold xAssignT at h
  split at h
  · split at h
    · rename_i hs
      exact plain (swap_X H.ok hs) h
    · rename_i names hs
      refine Assign_Tuple_swapped (S.ev h H.here ?_) h1 (swap_X H.ok hs)
      intro v y ρ1 led1 h1 tk1 k1 g1 r1 F1 S1
      split at k1
      · split at k1
        · rename_i ho
          refine unpack_X (.inl ho) r1 k1.1 F1 S1 ?_
          intro xs h2 tk2 hrs F2 S2
          refine storeN_X _ k1.2 (RepL.rev hrs) (H.st g1 F2 (H.loc.mono g1) S2) ?_
          intro loc3 led3 m3 h3 tk3 k3 F3 l3 S3
          exact P .next .next loc3 ρ1 led3 m3 h3 tk3 k3 g1 rfl F3 l3 S3
        · exact False.elim k1
      · exact False.elim k1
    · exact False.elim h
  · refine plain ?_ h
    cases value <;> first | rfl | (rename_i hh; exact absurd rfl (hh _ _ _))
noncomputable def xExpr (r : Rec) (cx : Cx) (e : Expr) (loc : Loc) (led : Led) (K : Fl → Loc → Led → Prop) : Prop :=
  match isComp e with
  | false => r.ev cx e loc led fun _ led => K .next loc led
  | true => False
theorem Expr_X (S : SndR r) {e : Expr} {pos : Pos} {K : Fl → Loc → Led → Prop} {Q : Flow → Shared → Prop} {E : Value → Shared → Prop} (h : xExpr r cx e loc led K) (H : At R cx ρ led ex loc m s) (P : PostS R K ρ ex s Q) :
    wpAny R.M R.A (exec (.Expr e pos) R.env) Q E s := by
  unfold xExpr at h
  cases hc : isComp e with
  | true => rw [hc] at h; exact False.elim h
  | false =>
    rw [hc] at h
    dsimp only at h
    refine wpAny_Expr_any (S.ev h H.here ?_) ?_ (swaps_no hc)
    · intro v y ρ1 led1 h1 tk1 k1 g1 r1 F1 S1
      exact P .next .next loc ρ1 led1 m h1 tk1 k1 g1 rfl F1 (H.loc.mono g1) S1
    · show interactive R.env = false
      unfold interactive
      have := H.ok.ok.kind
      simp [this]
end
end Mine
end
section
open PySem PySem.W PyProof.Rows PySem.Calls PyProof.V PySem.Spec
namespace Mine
section
variable {prog : Program} {w : World} {A : Around} {E : Value → Shared → Prop} {s : Shared} {h₀ : Heap} {L : Addr} {m : Str → Option Value} {env : Env} {news : CbLed}
end
end Mine
end
section
open PySem PySem.W PyProof.Rows PySem.Calls PyProof.V PySem.Spec
namespace Mine
set_option tactic.hygienic false in
theorem jn_app (a b : Str) : (a ++ b).cps.toList = a.cps.toList ++ b.cps.toList := by
  show (a.cps ++ b.cps).toList = _
  exact Array.toList_append
set_option tactic.hygienic false in
theorem sjoin_cps : ∀ (zs : List Str), (PySem.Str.join (Str.ofString "") zs).cps.toList = zs.flatMap fun z => z.cps.toList
  | [] => rfl
  | [a] => by
    show a.cps.toList = _
    simp
  | a :: b :: r => by
    have ih := sjoin_cps (b :: r)
    have e : PySem.Str.join (Str.ofString "") (a :: b :: r) = a ++ Str.ofString "" ++ PySem.Str.join (Str.ofString "") (b :: r) := rfl
    rw [e, jn_app, jn_app, ih]
    have e1 : (Str.ofString "").cps.toList = [] := rfl
    rw [e1]
    simp
set_option tactic.hygienic false in
theorem join_cps (zs : List Str) : (Txt.join (Str.ofString "") zs).cps.toList = zs.flatMap fun z => z.cps.toList := by
  unfold Txt.join
  rw [StrLaws.glued_eq_join]
  exact sjoin_cps zs
set_option tactic.hygienic false in
theorem join_sum {α : Type} (f : α → Str) (k : Nat) : ∀ (cs : List α), (∀ c ∈ cs, (f c).length ≤ k) → ((cs.map f).map (·.length)).sum ≤ cs.length * k
  | [], _ => by simp
  | c :: cs, h => by
    have ih := join_sum f k cs fun d hd => h d (.tail _ hd)
    have h0 := h c (.head _)
    simp only [List.map_cons, List.sum_cons, List.length_cons]
    rw [Nat.add_mul]; omega
end Mine
end
section
open PySem PySem.W PyProof.Rows PySem.Calls PyProof.V PySem.Spec
namespace Mine
noncomputable def noStar (es : List Expr) : Bool := es.all fun e => !isStar e
noncomputable def okMeth (ov : SV) (name : Str) (led : Led) : Option String :=
  match ov with
  | .int _ => if name = Str.ofString "bit_length" then some "int.bit_length" else none
  | .str _ => if name = Str.ofString "join" then some "str.join" else if name = Str.ofString "split" then some "str.split" else if name = Str.ofString "find" then some "str.find" else none
  | .loc k => match led[k]? with
    | some (.list _) => if name = Str.ofString "append" then some "list.append" else if name = Str.ofString "reverse" then some "list.reverse" else if name = Str.ofString "pop" then some "list.pop" else none
    | _ => none
  | _ => none
noncomputable def xLen (v : SV) (led : Led) (K : SV → Led → Prop) : Prop :=
  match v with
  | .str l => l.length ≤ 16777216 ∧ K (.int l.length) led
  | .loc k => match led[k]? with
    | some (.list vs) => vs.length ≤ 100000 ∧ K (.int vs.length) led
    | _ => False
  | _ => False
noncomputable def xSum (v : SV) (led : Led) (K : SV → Led → Prop) : Prop :=
  match v with
  | .loc k => match led[k]? with
    | some (.list vs) => ∃ ns : List Int, vs = ns.map .int ∧ K (.int ns.sum) led
    | _ => False
  | _ => False
noncomputable def xJoin (sep : List Nat) (v : SV) (led : Led) (K : SV → Led → Prop) : Prop :=
  match v with
  | .loc k => match led[k]? with
    | some (.list vs) => sep = [] ∧ ∃ ls : List (List Nat), vs = ls.map .str ∧ ls.length ≤ 100000 ∧ (∀ l ∈ ls, l.length ≤ 100) ∧ K (.str ls.flatten) led
    | _ => False
  | _ => False
noncomputable def xAppend (o v : SV) (led : Led) (K : SV → Led → Prop) : Prop :=
  match o with
  | .loc k => match led[k]? with
    | some (.list vs) => vs.length ≤ 100000 ∧ K .none (led.set k (.list (vs ++ [v])))
    | _ => False
  | _ => False
noncomputable def xReverse (o : SV) (led : Led) (K : SV → Led → Prop) : Prop :=
  match o with
  | .loc k => match led[k]? with
    | some (.list vs) => vs.length ≤ 100000 ∧ K .none (led.set k (.list vs.reverse))
    | _ => False
  | _ => False
noncomputable def xDivmod (o v : SV) (led : Led) (K : SV → Led → Prop) : Prop :=
  match o with
  | .int a => match v with
    | .int b => b ≠ 0 ∧ Builtin.divisionGoesByPylong a b = false ∧ K (.loc led.length) (led ++ [.tup [.int (a.fdiv b), .int (a.fmod b)]])
    | _ => False
  | _ => False
noncomputable def xPop (o v : SV) (led : Led) (K : SV → Led → Prop) : Prop :=
  match o with
  | .loc k => match led[k]? with
    | some (.list (w :: vs)) => v = .int 0 ∧ vs.length ≤ 90000 ∧ K w (led.set k (.list vs))
    | _ => False
  | _ => False
noncomputable def xSplit (o v : SV) (led : Led) (K : SV → Led → Prop) : Prop :=
  match o with
  | .str l => match v with
    | .str sep => sep ≠ [] ∧ l.length ≤ 100000 ∧ K (.loc led.length) (led ++ [.list ((Txt.split (strOf l) (strOf sep)).map fun p => .str p.cps.toList)])
    | _ => False
  | _ => False
noncomputable def xFind (o v : SV) (led : Led) (K : SV → Led → Prop) : Prop :=
  match o with
  | .str l => match v with
    | .str z => K (.int (Txt.find (strOf l) (strOf z))) led
    | _ => False
  | _ => False
noncomputable def xBuiltin (id : String) (vs : List SV) (led : Led) (K : SV → Led → Prop) : Prop :=
  match vs with
  | [v] => if id = "len" then xLen v led K else if id = "sum" then xSum v led K
    else if id = "int.bit_length" then (match v with | .int z => K (.int (Builtin.Int.intBits z : Int)) led | _ => False)
    else if id = "list.reverse" then xReverse v led K
    else if id = "abs" then (match v with | .int z => K (.int (if z < 0 then -z else z)) led | _ => False)
    else if id = "chr" then (match v with | .int z => 0 ≤ z ∧ z ≤ 1114111 ∧ K (.str [z.toNat]) led | _ => False) else False
  | [o, v] => if id = "str.join" then (match o with | .str sep => xJoin sep v led K | _ => False)
    else if id = "list.append" then xAppend o v led K
    else if id = "divmod" then xDivmod o v led K
    else if id = "list.pop" then xPop o v led K else if id = "str.split" then xSplit o v led K else if id = "str.find" then xFind o v led K else False
  | _ => False
noncomputable def xType (t : String) (vs : List SV) (led : Led) (K : SV → Led → Prop) : Prop :=
  match vs with
  | [.int z] => if t = "str" then z.natAbs < 1000000000 ∧ K (.str (Str.ofString (toString z)).cps.toList) led else False
  | _ => False
noncomputable def xCall (r : Rec) (cx : Cx) (f : Str) (args : List Expr) (loc : Loc) (led : Led) (K : SV → Led → Prop) : Prop :=
  match okName f && noStar args && !args.isEmpty with
  | true => match xname cx f loc led with
    | some (.fn v) => match v with
      | .ref q => match cx.fn q with
        | some sp => r.ea cx args loc led fun vs led => sp vs led K
        | none => False
      | .builtin id => r.ea cx args loc led fun vs led => xBuiltin id vs led K
      | .type t => r.ea cx args loc led fun vs led => xType t vs led K
      | _ => False
    | _ => False
  | false => False
noncomputable def okBase : Expr → Bool
  | .Name _ _ => true
  | .Constant _ _ _ => true
  | .Subscript _ _ _ => true
  | .BinOp _ _ _ _ => true
  | .Attribute _ _ _ => true
  | .Call (.Attribute _ _ _) _ _ _ => true
  | .Call (.Name _ _) (_ :: _) _ _ => true
  | _ => false
section
variable {R : Rt} {cx : Cx} {env : Env} {ρ ρ' : List Addr} {led led' : Led} {ex : CbLed} {loc : Loc} {m : Str → Option Value} {s : Shared} {h' : Heap} {tk' : Nat} {r : Rec}
set_option tactic.hygienic false in
theorem ints_of {ρ : List Addr} : ∀ {ns : List Int} {xs : List Value}, RepL ρ (ns.map .int) xs → IntsAre xs ns
  | [], [], _ => .nil
  | n :: ns, x :: xs, h => by
    obtain ⟨⟨t, rfl⟩, h2⟩ := h
    exact .cons _ _ (ints_of h2)
  | [], _ :: _, h => h.elim
  | _ :: _, [], h => h.elim
set_option tactic.hygienic false in
theorem strs_ofL {ρ : List Addr} : ∀ {ls : List (List Nat)} {xs : List Value}, RepL ρ (ls.map .str) xs → StrsAre xs (ls.map strOf)
  | [], [], _ => .nil
  | n :: ns, x :: xs, h => by
    obtain ⟨⟨t, rfl⟩, h2⟩ := h
    exact .cons _ _ (strs_ofL h2)
  | [], _ :: _, h => h.elim
  | _ :: _, [], h => h.elim
set_option tactic.hygienic false in
theorem len_X {v : SV} {x : Value} {K : SV → Led → Prop} {Q E : Value → Shared → Prop} (k : xLen v led K) (hr : Rep ρ v x) (F : Fr R.h₀ R.L s.heap m) (S : Sim R s.heap ρ led ex) (P : PostE R K ρ ex m s Q) :
    wpAny R.M R.A (call (.builtin "len") [x]) Q E s := by
  cases v with
  | str l =>
    obtain ⟨t, rfl⟩ := hr
    have k1 := k.1
    refine SBL.len (by rw [strOf_len]; omega) ?_
    rw [strOf_len]
    exact P.same F S k.2 ⟨_, rfl⟩
  | loc i =>
    unfold xLen at k
    dsimp only at k
    cases ho : led[i]? with
    | none => rw [ho] at k; exact False.elim k
    | some o =>
      rw [ho] at k
      cases o with
      | list vs =>
        obtain ⟨a, xs, c, es, W, rfl, ha, hrs, hm, N, hl⟩ := led_list S hr ho
        have k1 := k.1
        refine KM.len_K (its := xs.toArray) (c := c) (n := vs.length) N hm (by rw [hrs.length]; simp) (by omega) ?_
        exact P.same F S k.2 ⟨_, rfl⟩
      | _ => exact False.elim k
  | _ => exact False.elim k
set_option tactic.hygienic false in
theorem sum_X {v : SV} {x : Value} {K : SV → Led → Prop} {Q E : Value → Shared → Prop} (k : xSum v led K) (hr : Rep ρ v x) (F : Fr R.h₀ R.L s.heap m) (S : Sim R s.heap ρ led ex) (P : PostE R K ρ ex m s Q) :
    wpAny R.M R.A (call (.builtin "sum") [x]) Q E s := by
  cases v with
  | loc i =>
    unfold xSum at k
    dsimp only at k
    cases ho : led[i]? with
    | none => rw [ho] at k; exact False.elim k
    | some o =>
      rw [ho] at k
      cases o with
      | list vs =>
        obtain ⟨ns, rfl, k⟩ := k
        obtain ⟨a, xs, c, _, _, rfl, ha, hrs, hm, _, hl⟩ := led_list S hr ho
        obtain ⟨es, W, d, N⟩ := S
        refine sumK rfl F N hl (ints_of hrs) fun h2 tk2 t2 F2 N2 => ?_
        exact P _ _ ρ led h2 tk2 k Grow.refl ⟨t2, rfl⟩ F2 ⟨es, W, d, N2⟩
      | _ => exact False.elim k
  | _ => exact False.elim k
set_option tactic.hygienic false in
theorem flat_strs : ∀ (ls : List (List Nat)), ((ls.map strOf).flatMap fun z => z.cps.toList) = ls.flatten
  | [] => rfl
  | l :: ls => by
    rw [List.map_cons, List.flatMap_cons, flat_strs ls, str_mk, List.flatten_cons]
set_option tactic.hygienic false in
theorem join_X {sep : List Nat} {v : SV} {x : Value} {t : Tok} {K : SV → Led → Prop} {Q E : Value → Shared → Prop} (k : xJoin sep v led K) (hr : Rep ρ v x) (F : Fr R.h₀ R.L s.heap m) (S : Sim R s.heap ρ led ex) (P : PostE R K ρ ex m s Q) :
    wpAny R.M R.A (call (.builtin "str.join") [.str (strOf sep) t, x]) Q E s := by
  cases v with
  | loc i =>
    unfold xJoin at k
    dsimp only at k
    cases ho : led[i]? with
    | none => rw [ho] at k; exact False.elim k
    | some o =>
      rw [ho] at k
      cases o with
      | list vs =>
        obtain ⟨rfl, ls, rfl, hn, hb, k⟩ := k
        obtain ⟨a, xs, c, _, _, rfl, ha, hrs, hm, _, hl⟩ := led_list S hr ho
        have z := join_sum strOf 100 ls (fun c hc => by rw [strOf_len]; exact hb c hc)
        have e0 : (strOf []).length = 0 := rfl
        refine join_list hl (strs_ofL hrs) (by rw [e0, Nat.mul_zero]; omega) ?_
        intro t' k'
        have e : Txt.join (strOf []) (ls.map strOf) = strOf ls.flatten := by
          have z := join_cps (ls.map strOf)
          rw [flat_strs] at z
          rw [← strOf_of (Txt.join (strOf []) (ls.map strOf))]
          exact congrArg strOf z
        rw [e]
        exact P.same F S k ⟨_, rfl⟩
      | _ => exact False.elim k
  | _ => exact False.elim k
theorem news_put {h h2 : Heap} {a : Addr} {ob ob' : Obj} {es r : CbLed} (N : News R.h₀ R.L h (es ++ r)) (hm : (a, ob) ∈ es) (hne : ∀ p ∈ r, p.1 ≠ a) (hs : Heap.SameBut a h h2) (hD : h2.get? a = some ob') : News R.h₀ R.L h2 (putE a ob' es ++ r) := by
  have hN := N (a, ob) (List.mem_append_left _ hm)
  intro p hp
  by_cases hpa : @Eq Nat p.1 a
  · have : p = (a, ob') := by
      rcases List.mem_append.mp hp with hp | hp
      · obtain ⟨q, hq, e⟩ := List.mem_map.mp hp
        by_cases h : @Eq Nat q.1 a
        · rw [if_pos h] at e
          rw [← e, show q.1 = a from h]
        · rw [if_neg h] at e
          exact absurd (show @Eq Nat q.1 a by rw [e]; exact hpa) h
      · exact absurd hpa (hne p hp)
    rw [this]
    exact ⟨hD, hN.2⟩
  · have hq : p ∈ es ++ r := by
      rcases List.mem_append.mp hp with hp | hp
      · obtain ⟨q, hq, e⟩ := List.mem_map.mp hp
        by_cases h : @Eq Nat q.1 a
        · rw [if_pos h] at e
          exact absurd (show @Eq Nat p.1 a by rw [← e]; exact h) hpa
        · rw [if_neg h] at e
          rw [← e]; exact List.mem_append_left _ hq
      · exact List.mem_append_right _ hp
    have z := N p hq
    exact ⟨(hs.2 p.1 (fun e => hpa e)).trans z.1, z.2⟩
set_option tactic.hygienic false in
theorem append_X {o v : SV} {x y : Value} {K : SV → Led → Prop} {Q E : Value → Shared → Prop} (k : xAppend o v led K) (hr : Rep ρ o x) (hv : Rep ρ v y) (F : Fr R.h₀ R.L s.heap m) (S : Sim R s.heap ρ led ex) (P : PostE R K ρ ex m s Q) :
    wpAny R.M R.A (call (.builtin "list.append") [x, y]) Q E s := by
  cases o with
  | loc i =>
    unfold xAppend at k
    dsimp only at k
    cases ho : led[i]? with
    | none => rw [ho] at k; exact False.elim k
    | some o =>
      rw [ho] at k
      cases o with
      | list vs =>
        obtain ⟨a, ha, rfl⟩ := hr
        obtain ⟨ob, es, r, ⟨xs, c, hrs, rfl⟩, N, hm, hnd, hne, up⟩ := S.upd ha ho
        have hN := N (a, lob xs c) (List.mem_append_left _ hm)
        refine append_at (its := xs.toArray) (n := c) hN.1 (fun h2 hs2 hD2 => ?_) (by rw [List.size_toArray, ← hrs.length]; exact size100 k.1)
        have e3 : ({ cls := .type "list", data := .seq (xs.toArray.push y) (c + 1) } : Obj) = lob (xs ++ [y]) (c + 1) := by simp
        rw [e3] at hD2
        refine P .none .none ρ _ h2 s.toks k.2 Grow.refl rfl (F.change hs2 hN.2.1 hN.2.2) (up (.list (vs ++ [v])) (lob (xs ++ [y]) (c + 1)) h2 (fun _ _ => True.intro) ⟨_, _, hrs.app (show RepL ρ [v] [y] from ⟨hv, trivial⟩), rfl⟩ (news_put N hm hne hs2 hD2))
      | _ => exact False.elim k
  | _ => exact False.elim k
set_option tactic.hygienic false in
theorem reverse_X {o : SV} {x : Value} {K : SV → Led → Prop} {Q E : Value → Shared → Prop} (k : xReverse o led K) (hr : Rep ρ o x) (F : Fr R.h₀ R.L s.heap m) (S : Sim R s.heap ρ led ex) (P : PostE R K ρ ex m s Q) :
    wpAny R.M R.A (call (.builtin "list.reverse") [x]) Q E s := by
  cases o with
  | loc i =>
    unfold xReverse at k
    dsimp only at k
    cases ho : led[i]? with
    | none => rw [ho] at k; exact False.elim k
    | some o =>
      rw [ho] at k
      cases o with
      | list vs =>
        obtain ⟨a, ha, rfl⟩ := hr
        obtain ⟨ob, es, r, ⟨xs, c, hrs, rfl⟩, N, hm, hnd, hne, up⟩ := S.upd ha ho
        refine reverse_lob (vs := xs) (n := c) F N (upd_put hnd hm hne) (by rw [← hrs.length]; exact k.1) fun h2 F2 N2 => ?_
        exact P .none .none ρ _ h2 s.toks k.2 Grow.refl rfl F2 (up (.list vs.reverse) (lob xs.reverse c) h2 (fun _ _ => True.intro) ⟨_, _, hrs.rev, rfl⟩ N2)
      | _ => exact False.elim k
  | _ => exact False.elim k
set_option tactic.hygienic false in
theorem divmod_X {o v : SV} {x y : Value} {K : SV → Led → Prop} {Q E : Value → Shared → Prop} (k : xDivmod o v led K) (hx : Rep ρ o x) (hy : Rep ρ v y) (F : Fr R.h₀ R.L s.heap m) (S : Sim R s.heap ρ led ex) (P : PostE R K ρ ex m s Q) :
    wpAny R.M R.A (call (.builtin "divmod") [x, y]) Q E s := by
  cases o with
  | int a =>
    obtain ⟨t, rfl⟩ := hx
    cases v with
    | int b =>
      obtain ⟨u, rfl⟩ := hy
      obtain ⟨es, W, d, N⟩ := S
      refine divmod_N F N k.1 (fun h' F' N' => ?_) (.inl k.2.1)
      exact P.new (o := .tup [.int (a.fdiv b), .int (a.fmod b)]) (ob := tob [.int (a.fdiv b) s.toks, .int (a.fmod b) (s.toks + 1)] 0) F' d N' (fun p hp => Heap.lt_size (N p hp).1) ⟨[.int (a.fdiv b) s.toks, .int (a.fmod b) (s.toks + 1)], 0, ⟨⟨_, rfl⟩, ⟨_, rfl⟩, trivial⟩, rfl⟩ k.2.2 True.intro
    | _ => exact False.elim k
  | _ => exact False.elim k
set_option tactic.hygienic false in
theorem pop0_at {D : Addr} {x : Value} {rest : List Value} {n : Nat} {t : Tok} {prog : Program} {w : World} {A : Around} {Q : Value → Shared → Prop} {E : Value → Shared → Prop} (ho : s.heap.get? D = some (lob (x :: rest) n))
    (h : ∀ h', Heap.SameBut D s.heap h' → h'.get? D = some (lob rest (n + 1)) → Q x { s with heap := h' }) (hz : (x :: rest).toArray.size ≤ sizeLine) : wpAny (model prog w) A (call (.builtin "list.pop") [.ref D, .int 0 t]) Q E s := by
  refine call_meets PySem.F.slot_list_pop ⟨_, ho, rfl⟩ PySem.F.entry_list_pop (PySem.F.args_list_pop_2 _ _) (PySem.MeetsSeq.list_pop_at D (x :: rest).toArray n 0 t 0 x rfl (by unfold seqIndex?; simp) (by simp) hz) ⟨ho, h _ (Heap.SameBut.update ..) ?_⟩
  have q := PySem.IsL.update ho (fun xs => xs.eraseIdxIfInBounds 0)
  have e : ((x :: rest).toArray).eraseIdxIfInBounds 0 = rest.toArray := kl_erase [] rest x
  rw [e, if_neg (by simp)] at q
  exact q
set_option tactic.hygienic false in
theorem pop_X {o v : SV} {x y : Value} {K : SV → Led → Prop} {Q E : Value → Shared → Prop} (k : xPop o v led K) (hr : Rep ρ o x) (hv : Rep ρ v y) (F : Fr R.h₀ R.L s.heap m) (S : Sim R s.heap ρ led ex) (P : PostE R K ρ ex m s Q) :
    wpAny R.M R.A (call (.builtin "list.pop") [x, y]) Q E s := by
  cases o with
  | loc i =>
    unfold xPop at k
    dsimp only at k
    cases ho : led[i]? with
    | none => rw [ho] at k; exact False.elim k
    | some o =>
      rw [ho] at k
      cases o with
      | list vs =>
        cases vs with
        | nil => exact False.elim k
        | cons w vs =>
          obtain ⟨rfl, k1, k2⟩ := k
          obtain ⟨a, ha, rfl⟩ := hr
          obtain ⟨t, rfl⟩ := hv
          obtain ⟨ob, es, r, ⟨xs, c, hrs, rfl⟩, N, hm, hnd, hne, up⟩ := S.upd ha ho
          cases xs with
          | nil => exact hrs.elim
          | cons x xs =>
            have hN := N (a, lob (x :: xs) c) (List.mem_append_left _ hm)
            refine pop0_at hN.1 (fun h2 hs2 hD2 => ?_) (by rw [List.size_toArray, List.length_cons, ← hrs.2.length]; exact size100 (by omega))
            exact P w x ρ _ h2 s.toks k2 Grow.refl hrs.1 (F.change hs2 hN.2.1 hN.2.2) (up (.list vs) (lob xs (c + 1)) h2 (fun _ _ => True.intro) ⟨_, _, hrs.2, rfl⟩ (news_put N hm hne hs2 hD2))
      | _ => exact False.elim k
  | _ => exact False.elim k
set_option tactic.hygienic false in
theorem vals_rep {ρ : List Addr} : ∀ l : List (Str × Tok), RepL ρ ((l.map (·.1)).map fun p => .str p.cps.toList) (strValues l)
  | [] => trivial
  | p :: l => ⟨⟨p.2, rfl⟩, vals_rep l⟩
set_option tactic.hygienic false in
theorem split_X {o v : SV} {x y : Value} {K : SV → Led → Prop} {Q E : Value → Shared → Prop} (k : xSplit o v led K) (hx : Rep ρ o x) (hy : Rep ρ v y) (F : Fr R.h₀ R.L s.heap m) (S : Sim R s.heap ρ led ex) (P : PostE R K ρ ex m s Q) :
    wpAny R.M R.A (call (.builtin "str.split") [x, y]) Q E s := by
  cases o with
  | str l =>
    obtain ⟨t, rfl⟩ := hx
    cases v with
    | str sep =>
      obtain ⟨u, rfl⟩ := hy
      obtain ⟨es, W, d, N⟩ := S
      obtain ⟨k1, k2, k3⟩ := k
      refine splitN1 F N (by rw [strOf_len, beq_eq_false_iff_ne]; exact fun e => k1 (List.eq_nil_of_length_eq_zero e)) (fun l' h' tk e F' N' => ?_) (by rw [strOf_len, sizeLine_eq]; omega)
      rw [← e] at k3
      exact P.new (o := .list _) (ob := lob (strValues l') 0) F' d N' (fun p hp => Heap.lt_size (N p hp).1) ⟨_, 0, vals_rep l', rfl⟩ k3 True.intro
    | _ => exact False.elim k
  | _ => exact False.elim k
set_option tactic.hygienic false in
theorem find_X {o v : SV} {x y : Value} {K : SV → Led → Prop} {Q E : Value → Shared → Prop} (k : xFind o v led K) (hx : Rep ρ o x) (hy : Rep ρ v y) (F : Fr R.h₀ R.L s.heap m) (S : Sim R s.heap ρ led ex) (P : PostE R K ρ ex m s Q) :
    wpAny R.M R.A (call (.builtin "str.find") [x, y]) Q E s := by
  cases o with
  | str l =>
    obtain ⟨t, rfl⟩ := hx
    cases v with
    | str z =>
      obtain ⟨u, rfl⟩ := hy
      exact SC.find (P.same F S k ⟨_, rfl⟩)
    | _ => exact False.elim k
  | _ => exact False.elim k
set_option tactic.hygienic false in
theorem builtin_X {id : String} {vs : List SV} {xs : List Value} {K : SV → Led → Prop} {Q E : Value → Shared → Prop} (k : xBuiltin id vs led K) (hr : RepL ρ vs xs) (F : Fr R.h₀ R.L s.heap m) (S : Sim R s.heap ρ led ex) (P : PostE R K ρ ex m s Q) :
    wpAny R.M R.A (call (.builtin id) xs) Q E s := by
  match vs, xs, k, hr with
  | [v], [x], k, hr =>
    unfold xBuiltin at k
    dsimp only at k
    by_cases h1 : id = "len"
    · subst h1; rw [if_pos rfl] at k; exact len_X k hr.1 F S P
    · rw [if_neg h1] at k
      by_cases h2 : id = "sum"
      · subst h2; rw [if_pos rfl] at k; exact sum_X k hr.1 F S P
      · rw [if_neg h2] at k
        by_cases h3 : id = "int.bit_length"
        · subst h3
          rw [if_pos rfl] at k
          cases v with
          | int z => obtain ⟨t, rfl⟩ := hr.1; exact call_int_bit_length (P.same F S k ⟨_, rfl⟩)
          | _ => exact False.elim k
        · rw [if_neg h3] at k
          by_cases h4 : id = "list.reverse"
          · subst h4; rw [if_pos rfl] at k; exact reverse_X k hr.1 F S P
          · rw [if_neg h4] at k
            by_cases h5 : id = "abs"
            · subst h5
              rw [if_pos rfl] at k
              cases v with
              | int z => obtain ⟨t, rfl⟩ := hr.1; exact call_abs_int fun u tk => P.same F S k ⟨_, rfl⟩
              | _ => exact False.elim k
            · rw [if_neg h5] at k
              by_cases h6 : id = "chr"
              · subst h6
                rw [if_pos rfl] at k
                cases v with
                | int z =>
                  obtain ⟨t, rfl⟩ := hr.1
                  obtain ⟨k1, k2, k3⟩ := k
                  exact PySem.P.chr_of_int (by rw [decide_eq_false (by omega), decide_eq_false (by omega)]; rfl) (P.same F S k3 ⟨_, rfl⟩)
                | _ => exact False.elim k
              · rw [if_neg h6] at k; exact False.elim k
  | [o, v], [x, y], k, hr =>
    unfold xBuiltin at k
    dsimp only at k
    by_cases h1 : id = "str.join"
    · subst h1
      rw [if_pos rfl] at k
      cases o with
      | str sep => obtain ⟨t, rfl⟩ := hr.1; exact join_X k hr.2.1 F S P
      | _ => exact False.elim k
    · rw [if_neg h1] at k
      by_cases h2 : id = "list.append"
      · subst h2; rw [if_pos rfl] at k; exact append_X k hr.1 hr.2.1 F S P
      · rw [if_neg h2] at k
        by_cases h3 : id = "divmod"
        · subst h3; rw [if_pos rfl] at k; exact divmod_X k hr.1 hr.2.1 F S P
        · rw [if_neg h3] at k
          by_cases h4 : id = "list.pop"
          · subst h4; rw [if_pos rfl] at k; exact pop_X k hr.1 hr.2.1 F S P
          · rw [if_neg h4] at k
            by_cases h5 : id = "str.split"
            · subst h5; rw [if_pos rfl] at k; exact split_X k hr.1 hr.2.1 F S P
            · rw [if_neg h5] at k
              by_cases h6 : id = "str.find"
              · subst h6; rw [if_pos rfl] at k; exact find_X k hr.1 hr.2.1 F S P
              · rw [if_neg h6] at k; exact False.elim k
  | [], _, k, _ => exact False.elim k
  | _ :: _ :: _ :: _, _, k, _ => exact False.elim k
  | [_], [], _, hr => exact False.elim hr
  | [_], _ :: _ :: _, _, hr => exact False.elim hr.2
  | [_, _], [], _, hr => exact False.elim hr
  | [_, _], [_], _, hr => exact False.elim hr.2
  | [_, _], _ :: _ :: _ :: _, _, hr => exact False.elim hr.2.2
theorem type_X {t : String} {vs : List SV} {xs : List Value} {K : SV → Led → Prop} {Q E : Value → Shared → Prop} (k : xType t vs led K) (hr : RepL ρ vs xs) (F : Fr R.h₀ R.L s.heap m) (S : Sim R s.heap ρ led ex) (PP : PostE R K ρ ex m s Q) :
    wpAny R.M R.A (call (.type t) xs) Q E s := by
  unfold xType at k
  split at k
  · rename_i z
    by_cases h : t = "str"
    · subst h
      rw [if_pos rfl] at k
      match xs, hr with
      | [x], hr =>
        obtain ⟨t, rfl⟩ := hr.1
        refine P.str_of_int ?_ (PP.same F S k.2 ⟨_, rfl⟩)
        have k1 := k.1
        by_cases hz : z.natAbs = 0
        · rw [hz]; decide
        · rw [Nat.log2_lt hz]
          exact Nat.lt_of_lt_of_le k1 (by decide +kernel)
      | [], hr => exact False.elim hr
      | _ :: _ :: _, hr => exact False.elim hr.2
    · rw [if_neg h] at k; exact False.elim k
  · exact False.elim k
set_option tactic.hygienic false in
theorem noStar_X : ∀ {es : List Expr} {pos : Pos}, noStar es = true → ((backTo pos (starEach es env)).any fun x => x.1) = false
  | [], _, _ => rfl
  | e :: es, pos, h => by
    have h1 : isStar e = false ∧ noStar es = true := by
      unfold noStar at h ⊢
      simpa using h
    rw [starEach_X h1.1]
    show (false || (backTo pos (starEach es env)).any fun x => x.1) = false
    rw [noStar_X h1.2]; rfl
theorem call_X (S : SndR r) {f : Str} {args : List Expr} {pf pos : Pos} {K : SV → Led → Prop} {Q E : Value → Shared → Prop} (h : xCall r cx f args loc led K) (H : Here R cx env ρ led ex loc m s) (P : PostE R K ρ ex m s Q) :
    wpAny R.M R.A (eval (.Call (.Name f pf) args [] pos) env) Q E s := by
  unfold xCall at h
  split at h
  · rename_i hc
    simp only [Bool.and_eq_true, Bool.not_eq_true'] at hc
    obtain ⟨⟨hok, hns⟩, hne⟩ := hc
    split at h
    · rename_i v hx
      refine Call_ (wpAny_Name (loadName_X H hx hok ?_) (by unfold okName at hok; simp at hok; exact beq_false_of_ne hok.1))
      intro y ry
      have ey : y = v := ry
      subst ey
      match args, hns, hne with
      | e :: es, hns, _ =>
        have h1 : isStar e = false ∧ noStar es = true := by
          unfold noStar at hns ⊢
          simpa using hns
        split at h
        · rename_i q
          split at h
          · rename_i sp hsp
            obtain ⟨ok, hfn⟩ := H.ok.fn q sp hsp
            refine callWith_F (hfn _ _ H.fr) (S.ea h H ?_) (starEach_X h1.1) (noStar_X h1.2)
            intro vs xs ρ1 led1 h1 tk1 k1 g1 r1 F1 S1
            refine ⟨hfn _ _ F1, ?_⟩
            exact wpAny_call (ok 0 (Nat.zero_le _) 0 (Nat.zero_le _) m _ ρ1 led1 ex vs xs K Q E k1 r1 F1 S1 (P.go g1))
          · exact False.elim h
        · refine PyProof.Rows.callWith_builtin1 (S.ea h H ?_) (starEach_X h1.1) (noStar_X h1.2)
          intro vs xs ρ1 led1 h1 tk1 k1 g1 r1 F1 S1
          exact builtin_X k1 r1 F1 S1 (P.go g1)
        · refine Pv.callWith_type1 (S.ea h H ?_) (starEach_X h1.1) (noStar_X h1.2)
          intro vs xs ρ1 led1 h1 tk1 k1 g1 r1 F1 S1
          exact type_X k1 r1 F1 S1 (P.go g1)
        · exact False.elim h
      | [], _, hne => cases hne
    · exact False.elim h
  · exact False.elim h
set_option maxRecDepth 100000 in
theorem getM_X {ov : SV} {x : Value} {name : Str} {id : String} {pl : Sem Bool} {Q : Value × List Value → Shared → Prop} {E : Value → Shared → Prop} (h : okMeth ov name led = some id) (hr : Rep ρ ov x) (S : Sim R s.heap ρ led ex) (q : Q (.builtin id, [x]) s) :
    wpAny R.M R.A (getMethod x name pl) Q E s := by
  cases ov with
  | int z =>
    obtain ⟨t, rfl⟩ := hr
    unfold okMeth at h
    dsimp only at h
    split at h
    · rename_i e; subst e; have h := Option.some.inj h; subst h; exact getMethod_int_bit_length q
    · cases h
  | str l =>
    obtain ⟨t, rfl⟩ := hr
    unfold okMeth at h
    dsimp only at h
    split at h
    · rename_i e; subst e; have h := Option.some.inj h; subst h; exact GM.join q
    · split at h
      · rename_i e; subst e; have h := Option.some.inj h; subst h; exact GM.split q
      · split at h
        · rename_i e; subst e; have h := Option.some.inj h; subst h; exact GM.find q
        · cases h
  | loc k =>
    unfold okMeth at h
    dsimp only at h
    cases ho : led[k]? with
    | none => rw [ho] at h; cases h
    | some o =>
      rw [ho] at h
      cases o with
      | list vs =>
        dsimp only at h
        obtain ⟨a, xs, c, es, W, rfl, ha, hrs, hm, N, hl⟩ := led_list S hr ho
        split at h
        · rename_i e; subst e; have h := Option.some.inj h; subst h
          exact getMethod_list_append (N.get hm) rfl rfl q
        · split at h
          · rename_i e; subst e; have h := Option.some.inj h; subst h
            exact getMethod_list_of PySem.F.slot_list_reverse (by rfl) hl ⟨_, N.get hm, rfl⟩ q
          · split at h
            · rename_i e; subst e; have h := Option.some.inj h; subst h
              exact getMethod_list_of PySem.F.slot_list_pop PySem.F.type_list_pop hl ⟨_, N.get hm, rfl⟩ q
            · cases h
      | _ => cases h
  | _ => cases h
set_option tactic.hygienic false in
theorem base_X {o : Expr} {name : Str} {whole : Sem Value} (h : okBase o = true) : attributeBase o name env whole = whole := by
  cases o with
  | Name x p => rfl
  | Constant c k p => rfl
  | Subscript a b p => rfl
  | BinOp a op b p => rfl
  | Attribute a n p => rfl
  | Call f args kws p =>
    cases f with
    | Attribute v n q => rfl
    | Name v q =>
      cases args with
      | nil => cases h
      | cons a as => rfl
    | _ => cases h
  | _ => cases h
theorem methEq {o : Expr} {name : Str} {args : List Expr} {pa pos : Pos} (hb : okBase o = true) (hns : noStar args = true) (hl : args.length < 30) (hp : (pa.endLine == pos.line) = true) :
    ∃ pl, eval (.Call (.Attribute o name pa) args [] pos) env = (do
      let ov ← eval o env
      standAt pa.atName
      let (f, first) ← holding [ov] (getMethod ov name pl)
      callWith pos f first (backTo pos (starEach args env)) []) := by
  refine ⟨(do return (← importBound o env).getD true), ?_⟩
  rw [arm_eval_Call, base_X hb]
  have hf : methodCallForm (args.length + ([] : List Keyword).length) (backTo pos (starEach args env)) (backToKw pos (keywordEach [] env)) = true := by
    unfold methodCallForm
    have h1 : ((backTo pos (starEach args env)).all fun x => !x.1) = true := by
      have z := noStar_X (env := env) (pos := pos) hns
      rw [List.all_eq_not_any_not]
      simpa using z
    rw [h1]
    have h2 : backToKw pos (keywordEach [] env) = [] := rfl
    rw [h2]
    simp
    omega
  congr 1
  funext ov
  congr 1
  funext _
  unfold methodCall
  rw [hf]
  have h3 : methodCallPos true o env pa pos = pure pos := by
    unfold methodCallPos
    rw [if_pos (by rw [hp]; rfl)]
  rw [h3]
  have h2 : backToKw pos (keywordEach [] env) = [] := rfl
  rw [h2]
  rfl
end
end Mine
end
section
open PySem PySem.W PyProof.Rows PySem.Calls PyProof.V PySem.Spec
namespace Mine
noncomputable def isSlice : Expr → Bool
  | .Slice _ _ _ _ => true
  | _ => false
noncomputable def xItem (o i : SV) (led : Led) (K : SV → Led → Prop) : Prop :=
  match i with
  | .int i => match o with
    | .str l => match l[i.toNat]? with
      | some c => 0 ≤ i ∧ i < 1000000000 ∧ K (.str [c]) led
      | none => False
    | .loc k => match led[k]? with
      | some (.list vs) => match vs[i.toNat]? with
        | some v => 0 ≤ i ∧ i < 1000000000 ∧ K v led
        | none => False
      | some (.tup vs) => match vs[i.toNat]? with
        | some v => 0 ≤ i ∧ i < 1000000000 ∧ K v led
        | none => False
      | _ => False
    | _ => False
  | _ => False
noncomputable def xPart (r : Rec) (cx : Cx) (e : Option Expr) (loc : Loc) (led : Led) (K : Option Int → Led → Prop) : Prop :=
  match e with
  | none => K none led
  | some e => r.ev cx e loc led fun v led => match v with
    | .int z => K (some z) led
    | _ => False
noncomputable def pickS (vs : List SV) (lo hi st : Option Int) : List SV :=
  (sliceRange (sliceBounds lo hi st vs.length).1 (sliceBounds lo hi st vs.length).2.1 (sliceBounds lo hi st vs.length).2.2).filterMap (vs[·]?)
noncomputable def xSlice (o : SV) (lo hi st : Option Int) (led : Led) (K : SV → Led → Prop) : Prop :=
  match o with
  | .str l => match st with
    | none => l.length ≤ 16777216 ∧ K (.str (Txt.slice (strOf l) lo hi).cps.toList) led
    | some _ => False
  | .loc k => match led[k]? with
    | some (.list vs) => st ≠ some 0 ∧ vs.length ≤ 100000 ∧ K (.loc led.length) (led ++ [.list (pickS vs lo hi st)])
    | _ => False
  | _ => False
set_option tactic.hygienic false in
theorem rep_ints {ρ : List Addr} {ns : List Int} {xs : List Value} (h : IntsAre xs ns) : RepL ρ (ns.map .int) xs := by
  induction h with
  | nil => trivial
  | cons n t _ ih => exact ⟨⟨t, rfl⟩, ih⟩
noncomputable def xSliceC (cx : Cx) (o : SV) (lo hi st : Option Int) (led : Led) (K : SV → Led → Prop) : Prop :=
  match o with
  | .fn v => match cx.lst with
    | some (a, ns) => v = .ref a ∧ st ≠ some 0 ∧ ns.length ≤ 100000 ∧ K (.loc led.length) (led ++ [.list (pickS (ns.map .int) lo hi st)])
    | none => False
  | o => xSlice o lo hi st led K
noncomputable def lastIx : Expr → Bool
  | .UnaryOp .USub _ _ => true
  | _ => false
noncomputable def xLastI (o i : SV) (led : Led) (K : SV → Led → Prop) : Prop :=
  match o with
  | .loc k => match led[k]? with
    | some (.list vs) => match vs[vs.length - 1]? with
      | some v => i = .int (-1) ∧ K v led
      | none => False
    | _ => False
  | _ => False
noncomputable def xSub (r : Rec) (cx : Cx) (e sl : Expr) (loc : Loc) (led : Led) (K : SV → Led → Prop) : Prop :=
  match sl with
  | .Slice lo hi st _ => r.ev cx e loc led fun o led => xPart r cx lo loc led fun lo led => xPart r cx hi loc led fun hi led => xPart r cx st loc led fun st led => xSliceC cx o lo hi st led K
  | sl => match lastIx sl with
    | true => r.ev cx e loc led fun o led => r.ev cx sl loc led fun i led => xLastI o i led K
    | false => r.ev cx e loc led fun o led => r.ev cx sl loc led fun i led => xItem o i led K
set_option tactic.hygienic false in
theorem tempStr {value : Expr} {x : Str} {t : Tok} (r : Value) : letTemporaryGo value (.str x t) r = pure () := by cases value <;> rfl
section
variable {R : Rt} {cx : Cx} {env : Env} {ρ ρ' : List Addr} {led led' : Led} {ex : CbLed} {loc : Loc} {m : Str → Option Value} {s : Shared} {h' : Heap} {tk' : Nat} {r : Rec}
theorem item_X {value slice : Expr} {o i : SV} {x y : Value} {K : SV → Led → Prop} {Q E : Value → Shared → Prop} (k : xItem o i led K) (hs : isSlice slice = false) (hx : Rep ρ o x) (hy : Rep ρ i y) (F : Fr R.h₀ R.L s.heap m) (S : Sim R s.heap ρ led ex) (P : PostE R K ρ ex m s Q) :
    wpAny R.M R.A (subscriptTail value slice x y) Q E s := by
  have sub : ∀ o i, subscripted slice false o i = operate [o, i] (getItem o i) := by
    intro o i
    cases slice <;> first | rfl | cases hs
  cases i with
  | int i =>
    obtain ⟨u, rfl⟩ := hy
    cases o with
    | str l =>
      obtain ⟨t, rfl⟩ := hx
      unfold xItem at k
      dsimp only at k
      split at k
      · rename_i c hc
        have hi : i.toNat < l.length := (List.getElem?_eq_some_iff.mp hc).1
        have k1 := k.1
        have k2 := k.2.1
        refine item_str ?_ (by rw [strOf_len]; omega) (by rw [strOf_len]; omega) (fun _ => ?_) (sub _ _) tempStr
        · exact fitsSsize_of (N := 9223372036854775808) (by omega) (by omega) (Int.le_refl _)
        · obtain ⟨c', e1, e2⟩ := item_nat (strOf l) i.toNat (by rw [strOf_len]; exact hi)
          rw [str_mk, hc] at e1
          injection e1 with e1
          subst e1
          have e3 : ((i.toNat : Nat) : Int) = i := by omega
          rw [e3] at e2
          rw [e2]
          exact P.same F S k.2.2 ⟨_, rfl⟩
      · exact False.elim k
    | loc j =>
      unfold xItem at k
      dsimp only at k
      cases ho : led[j]? with
      | none => rw [ho] at k; exact False.elim k
      | some o =>
        rw [ho] at k
        cases o with
        | list vs =>
          dsimp only at k
          obtain ⟨a, xs, c, es, W, rfl, ha, hrs, hm, N, hl⟩ := led_list S hx ho
          split at k
          · rename_i v hv
            obtain ⟨z, hz, rz⟩ := hrs.get hv
            have k2 := k.2.1
            refine tail_any hl.typeIs slot_list_getitem.lookup (wpAny_getItem_list hl k.1 (by omega) (x := z) (by simpa using hz) ?_) (sub _ _)
            exact P v z ρ led s.heap s.toks k.2.2 Grow.refl rz F S
          · exact False.elim k
        | tup vs =>
          dsimp only at k
          obtain ⟨a, xs, es, W, rfl, hrs, N, ht⟩ := tupAt S hx ho
          split at k
          · rename_i v hv
            obtain ⟨z, hz, rz⟩ := hrs.get hv
            have k1 := k.1
            have k2 := k.2.1
            have hlt : i.toNat < xs.length := (List.getElem?_eq_some_iff.mp hz).1
            refine tail_any ht.typeIs slot_tuple_getitem.lookup (getItem_tuple ht (by omega) (by omega) (j := i.toNat) (StrLaws.seqIndex_nonneg k1 (by rw [List.size_toArray]; omega)) (x := z) (by simpa using hz) ?_) (sub _ _)
            exact P v z ρ led s.heap s.toks k.2.2 Grow.refl rz F S
          · exact False.elim k
        | _ => exact False.elim k
    | _ => exact False.elim k
  | _ => exact False.elim k
set_option tactic.hygienic false in
theorem part_X (S : SndR r) {e : Option Expr} {K : Option Int → Led → Prop} {Q E : Value → Shared → Prop} (h : xPart r cx e loc led K) (H : Here R cx env ρ led ex loc m s)
    (P : ∀ z y ρ' led' h' tk', K z led' → (e = none ↔ z = none) → IsPart y z → Grow ρ ρ' → Fr R.h₀ R.L h' m → Sim R h' ρ' led' ex → Q y { s with heap := h', toks := tk' }) : wpAny R.M R.A (evalPart e env) Q E s := by
  cases e with
  | none => exact evalPart_none_step (P none .none ρ led s.heap s.toks h ⟨fun _ => rfl, fun _ => rfl⟩ .none Grow.refl H.fr H.sim)
  | some e =>
    refine evalPart_some_step (S.ev h H ?_)
    intro v y ρ1 led1 h1 tk1 k1 g1 r1 F1 S1
    cases v with
    | int z => obtain ⟨t, rfl⟩ := r1; exact P (some z) _ ρ1 led1 h1 tk1 k1 ⟨(fun e => nomatch e), (fun e => nomatch e)⟩ (.int z t) g1 F1 S1
    | _ => exact False.elim k1
theorem pick_rep {ρ : List Addr} {vs : List SV} {xs : List Value} (h : RepL ρ vs xs) (is : List Nat) : RepL ρ (is.filterMap (vs[·]?)) (is.filterMap (xs[·]?)) := by
  induction is with
  | nil => trivial
  | cons i is ih =>
    rw [List.filterMap_cons, List.filterMap_cons]
    cases hv : vs[i]? with
    | none =>
      have : xs[i]? = none := by
        rw [List.getElem?_eq_none_iff] at hv ⊢
        rw [← h.length]; exact hv
      rw [this]; exact ih
    | some v =>
      obtain ⟨x, hx, rx⟩ := h.get hv
      rw [hx]; exact ⟨rx, ih⟩
set_option tactic.hygienic false in
theorem sliceL_X {e1 e2 e3 : Option Expr} {p : Pos} {value : Expr} {a : Addr} {vs : List SV} {xs : List Value} {lo hi st : Option Int} {vl vu vk : Value} {K : SV → Led → Prop} {Q E : Value → Shared → Prop}
    (k : st ≠ some 0 ∧ vs.length ≤ 100000 ∧ K (.loc led.length) (led ++ [.list (pickS vs lo hi st)])) (hrs : RepL ρ vs xs) (hl : s.heap.IsList a xs.toArray) (pl : IsPart vl lo) (pu : IsPart vu hi) (pk : IsPart vk st) (F : Fr R.h₀ R.L s.heap m) (S : Sim R s.heap ρ led ex) (P : PostE R K ρ ex m s Q) :
    wpAny R.M R.A (subscriptTail value (.Slice e1 e2 e3 p) (.ref a) (.ref s.heap.objs.size)) Q E { s with heap := s.heap.push { cls := .type "slice", data := .fields #[vl, vu, vk] } } := by
  obtain ⟨es, W, d, N⟩ := S
  have hz : xs.toArray.size ≤ sizeLine := by rw [List.size_toArray, ← hrs.length]; exact size100 k.2.1
  have hsub : ∃ ops, subscripted (.Slice e1 e2 e3 p) false (.ref a) (.ref s.heap.objs.size) = operate ops (getItem (.ref a) (.ref s.heap.objs.size)) := by
    cases e3 <;> exact ⟨_, rfl⟩
  obtain ⟨ops, hsub⟩ := hsub
  refine tail_any (Heap.IsList.typeIs (s := { s with heap := s.heap.push { cls := .type "slice", data := .fields #[vl, vu, vk] } }) (hl.push _)) list_getitem_lookup
    (wpAny_getItem_list_slice (hl.push _) (Heap.IsSliceOf.new ..) pl pu pk k.1 ?_ hz) hsub
  have F1 := F.push { cls := .type "slice", data := .fields #[vl, vu, vk] }
  have N1 : News R.h₀ R.L (s.heap.push { cls := .type "slice", data := .fields #[vl, vu, vk] }) (es ++ (ex ++ W)) := N.grown fun _ _ e => Heap.get?_push_of_some _ e
  have N2 := N1.push F1 { cls := .type "list", data := .seq (slicePick xs.toArray lo hi st) }
  have e : pickS vs lo hi st = (sliceRange (sliceBounds lo hi st xs.toArray.size).1 (sliceBounds lo hi st xs.toArray.size).2.1 (sliceBounds lo hi st xs.toArray.size).2.2).filterMap (vs[·]?) := by
    unfold pickS
    rw [List.size_toArray, hrs.length]
  refine P.new (o := .list (pickS vs lo hi st)) (F1.push _) d N2 (fun p hp => Heap.lt_size (N1 p hp).1) ⟨(slicePick xs.toArray lo hi st).toList, 0, ?_, ?_⟩ k.2.2 True.intro
  · have e2 : (slicePick xs.toArray lo hi st).toList = (sliceRange (sliceBounds lo hi st xs.toArray.size).1 (sliceBounds lo hi st xs.toArray.size).2.1 (sliceBounds lo hi st xs.toArray.size).2.2).filterMap (xs[·]?) := by
      unfold slicePick
      simp
    rw [e, e2]
    exact (pick_rep hrs _).mono Grow.app
  · show ({ cls := .type "list", data := .seq (slicePick xs.toArray lo hi st) } : Obj) = lob (slicePick xs.toArray lo hi st).toList 0
    simp
set_option tactic.hygienic false in
theorem slice_X {e1 e2 e3 : Option Expr} {p : Pos} {value : Expr} {o : SV} {x : Value} {lo hi st : Option Int} {vl vu vk : Value} {K : SV → Led → Prop} {Q E : Value → Shared → Prop}
    (k : xSlice o lo hi st led K) (hx : Rep ρ o x) (pl : IsPart vl lo) (pu : IsPart vu hi) (pk : IsPart vk st) (he3 : e3 = none ↔ st = none) (F : Fr R.h₀ R.L s.heap m) (S : Sim R s.heap ρ led ex) (P : PostE R K ρ ex m s Q) :
    wpAny R.M R.A (subscriptTail value (.Slice e1 e2 e3 p) x (.ref s.heap.objs.size)) Q E { s with heap := s.heap.push { cls := .type "slice", data := .fields #[vl, vu, vk] } } := by
  cases o with
  | loc j =>
    unfold xSlice at k
    dsimp only at k
    cases ho : led[j]? with
    | none => rw [ho] at k; exact False.elim k
    | some o =>
      rw [ho] at k
      cases o with
      | list vs =>
        obtain ⟨a, xs, c, _, _, rfl, _, hrs, _, _, hl⟩ := led_list S hx ho
        exact sliceL_X k hrs hl pl pu pk F S P
      | _ => exact False.elim k
  | str l =>
    obtain ⟨t, rfl⟩ := hx
    unfold xSlice at k
    dsimp only at k
    cases st with
    | some z => exact False.elim k
    | none =>
      have e3n : e3 = none := he3.mpr rfl
      subst e3n
      cases pk
      obtain ⟨es, W, d, N⟩ := S
      have hz : (strOf l).length ≤ sizeLine := by rw [strOf_len, sizeLine_eq]; exact k.1
      have fin : ∀ (h' : Heap) (t' : Tok) (tk : Nat), Fr R.h₀ R.L h' m → News R.h₀ R.L h' (es ++ (ex ++ W)) → Q (.str (Txt.slice (strOf l) lo hi) t') { s with heap := h', toks := tk } :=
        fun h' t' tk F' N' => P _ _ ρ led h' tk k.2 Grow.refl ⟨t', rfl⟩ F' ⟨es, W, d, N'⟩
      cases pl with
      | none =>
        cases pu with
        | none => exact slice_strN_nn_len (s := s) F N (fun h' t' tk F' N' _ => fin h' t' tk F' N') rfl tempStr hz
        | int j tj => exact slice_strN_ns_len (s := s) F N (fun h' t' tk F' N' _ => fin h' t' tk F' N') rfl tempStr hz
      | int i ti =>
        cases pu with
        | none => exact slice_strN_sn_len (s := s) F N (fun h' t' tk F' N' _ => fin h' t' tk F' N') rfl tempStr hz
        | int j tj => exact slice_strN_ss_len (s := s) F N (fun h' t' tk F' N' _ => fin h' t' tk F' N') rfl tempStr hz
  | _ => exact False.elim k
theorem sliceC_X {e1 e2 e3 : Option Expr} {p : Pos} {value : Expr} {o : SV} {x : Value} {lo hi st : Option Int} {vl vu vk : Value} {K : SV → Led → Prop} {Q E : Value → Shared → Prop} (H : EnvOk R cx env ρ)
    (k : xSliceC cx o lo hi st led K) (hx : Rep ρ o x) (pl : IsPart vl lo) (pu : IsPart vu hi) (pk : IsPart vk st) (he3 : e3 = none ↔ st = none) (F : Fr R.h₀ R.L s.heap m) (S : Sim R s.heap ρ led ex) (P : PostE R K ρ ex m s Q) :
    wpAny R.M R.A (subscriptTail value (.Slice e1 e2 e3 p) x (.ref s.heap.objs.size)) Q E { s with heap := s.heap.push { cls := .type "slice", data := .fields #[vl, vu, vk] } } := by
  cases o with
  | fn v =>
    unfold xSliceC at k
    dsimp only at k
    split at k
    · rename_i a ns hc
      obtain ⟨rfl, k⟩ := k
      obtain ⟨vs, hl, hi⟩ := H.lst a ns hc
      obtain rfl : x = .ref a := hx
      refine sliceL_X ?_ (rep_ints hi) (hl.at fun o e => F.keep _ o e) pl pu pk F S P
      rw [List.length_map]
      exact k
    · exact k.elim
  | none => exact slice_X (o := .none) k hx pl pu pk he3 F S P
  | bool b => exact slice_X (o := .bool b) k hx pl pu pk he3 F S P
  | int z => exact slice_X (o := .int z) k hx pl pu pk he3 F S P
  | str t => exact slice_X (o := .str t) k hx pl pu pk he3 F S P
  | loc j => exact slice_X (o := .loc j) k hx pl pu pk he3 F S P
theorem last_X {value slice : Expr} {o i : SV} {x y : Value} {K : SV → Led → Prop} {Q E : Value → Shared → Prop} (k : xLastI o i led K) (hs : isSlice slice = false) (hx : Rep ρ o x) (hy : Rep ρ i y) (F : Fr R.h₀ R.L s.heap m) (S : Sim R s.heap ρ led ex) (P : PostE R K ρ ex m s Q) :
    wpAny R.M R.A (subscriptTail value slice x y) Q E s := by
  have sub : ∀ o i, subscripted slice false o i = operate [o, i] (getItem o i) := by
    intro o i
    cases slice <;> first | rfl | cases hs
  cases o with
  | loc j =>
    unfold xLastI at k
    dsimp only at k
    cases ho : led[j]? with
    | none => rw [ho] at k; exact False.elim k
    | some o =>
      rw [ho] at k
      cases o with
      | list vs =>
        dsimp only at k
        obtain ⟨a, xs, c, es, W, rfl, ha, hrs, hm, N, hl⟩ := led_list S hx ho
        split at k
        · rename_i v hv
          obtain ⟨rfl, k⟩ := k
          obtain ⟨u, rfl⟩ := hy
          obtain ⟨z, hz, rz⟩ := hrs.get hv
          have hlt := (List.getElem?_eq_some_iff.mp hv).1
          have hle := hrs.length
          refine tail_any hl.typeIs slot_list_getitem.lookup (PySem.wpAny_getItem_list_neg hl (by decide) (by rw [List.size_toArray]; omega) (by decide) (x := z) ?_ ?_) (sub _ _)
          · rw [List.size_toArray, show ((-1 : Int) + (xs.length : Int)).toNat = vs.length - 1 by omega]
            simpa using hz
          · exact P v z ρ led s.heap s.toks k Grow.refl rz F S
        · exact False.elim k
      | _ => exact False.elim k
  | _ => exact False.elim k
set_option tactic.hygienic false in
theorem sub_X (S : SndR r) {e sl : Expr} {pos : Pos} {K : SV → Led → Prop} {Q E : Value → Shared → Prop} (h : xSub r cx e sl loc led K) (H : Here R cx env ρ led ex loc m s) (P : PostE R K ρ ex m s Q) :
    wpAny R.M R.A (eval (.Subscript e sl pos) env) Q E s := by
  cases hs : isSlice sl with
  | false =>
    have h' : match lastIx sl with
      | true => r.ev cx e loc led fun o led => r.ev cx sl loc led fun i led => xLastI o i led K
      | false => r.ev cx e loc led fun o led => r.ev cx sl loc led fun i led => xItem o i led K := by
      unfold xSub at h
      cases sl <;> first | exact h | cases hs
    split at h'
    · refine Subscript_ (S.ev h' H ?_)
      intro o x ρ1 led1 h1 tk1 k1 g1 r1 F1 S1
      refine S.ev k1 (H.go g1 F1 S1) ?_
      intro i y ρ2 led2 h2 tk2 k2 g2 r2 F2 S2
      exact last_X k2 hs (r1.mono g2) r2 F2 S2 (P.go (g1.trans g2))
    · refine Subscript_ (S.ev h' H ?_)
      intro o x ρ1 led1 h1 tk1 k1 g1 r1 F1 S1
      refine S.ev k1 (H.go g1 F1 S1) ?_
      intro i y ρ2 led2 h2 tk2 k2 g2 r2 F2 S2
      exact item_X k2 hs (r1.mono g2) r2 F2 S2 (P.go (g1.trans g2))
  | true =>
    cases sl with
    | Slice e1 e2 e3 p =>
      refine Subscript_ (S.ev (show r.ev cx e loc led _ from h) H ?_)
      intro o x ρ1 led1 h1 tk1 k1 g1 r1 F1 S1
      refine wpAny_Slice (part_X S k1 (H.go g1 F1 S1) ?_)
      intro lo vl ρ2 led2 h2 tk2 k2 _ pl g2 F2 S2
      refine part_X S k2 (H.go (g1.trans g2) F2 S2) ?_
      intro hi vu ρ3 led3 h3 tk3 k3 _ pu g3 F3 S3
      refine part_X S k3 (H.go ((g1.trans g2).trans g3) F3 S3) ?_
      intro st vk ρ4 led4 h4 tk4 k4 he pk g4 F4 S4
      exact sliceC_X (s := { s with heap := h4, toks := tk4 }) (((H.ok.mono g1).mono g2 |>.mono g3).mono g4) k4 (((r1.mono g2).mono g3).mono g4) pl pu pk he F4 S4 (P.go (((g1.trans g2).trans g3).trans g4))
    | _ => cases hs
end
end Mine
end
section
open PySem PySem.W PyProof.Rows PySem.Calls PyProof.V PySem.Spec
namespace Mine
noncomputable def TrimC (n : Nat) (loc : Loc) (acc : List SV) (led led₂ : Led) (loc₂ : Loc) : Prop := (∃ j, loc₂ = loc.take j) ∧ (led₂ = led ∨ (n ≤ led.length ∧ (∀ o ∈ led.take n, cO n o) ∧ cLoc n loc₂ ∧ cL n acc ∧ led₂ = led.take n))
noncomputable abbrev KC := Loc → List SV → Led → Prop
noncomputable def compP (tn : Nat) (turn : SV → Loc → List SV → Led → KC → Prop) (keep : Led → Prop) : List SV → Loc → List SV → Led → KC → Prop
  | [], loc, acc, led, K => K loc acc led
  | v :: vs, loc, acc, led, K => turn v loc acc led fun loc acc led => keep led ∧ ∃ led₂ loc₂, TrimC tn loc acc led led₂ loc₂ ∧ keep led₂ ∧ compP tn turn keep vs loc₂ acc led₂ K
noncomputable def xIfs (r : Rec) (cx : Cx) (loc : Loc) : List Expr → Led → (Bool → Led → Prop) → Prop
  | [], led, K => K true led
  | c :: cs, led, K => r.et cx c loc led fun b led => match b with
    | true => xIfs r cx loc cs led K
    | false => K false led
noncomputable def xTurn (r : Rec) (cx : Cx) (g : Comprehension) (rest : Loc → List SV → Led → KC → Prop) (v : SV) (loc : Loc) (acc : List SV) (led : Led) (K : KC) : Prop :=
  xTarget cx g.target v loc led fun loc led => xIfs r cx loc g.ifs led fun b led => match b with
    | true => rest loc acc led K
    | false => K loc acc led
noncomputable def xGens (r : Rec) (cx : Cx) (elt : Expr) : List Comprehension → Loc → List SV → Led → KC → Prop
  | [], loc, acc, led, K => r.ev cx elt loc led fun v led => acc.length ≤ 100000 ∧ K loc (acc ++ [v]) led
  | g :: gs, loc, acc, led, K => xSrc r cx g.target g.iter loc led fun items keep unf led =>
      compP led.length (xTurn r cx g (xGens r cx elt gs)) keep items loc acc led fun loc acc led => K loc acc (unf led)
noncomputable def closX (cel : List (Str × Nat)) : List (Str × NameKind) → List (Str × Nat) → Option (List (Str × Nat))
  | [], acc => some acc
  | (n, k) :: r, acc => if k == .free then (match cel.lookup n with
    | some i => closX cel r ((n, i) :: acc)
    | none => none) else closX cel r acc
noncomputable def kindX (cx : Cx) (scope : Scope) (x : Str) : Option NameKind :=
  (scope.names.map fun (n, k) => if (k == .free && cx.kind n == some .cell) then (n, .cell) else (n, k)).lookup x
noncomputable def cIdx (k : Nat) : List (Str × NameKind) → List (Str × Nat) → List (Str × Nat)
  | [], acc => acc
  | (n, kd) :: r, acc => if kd == .cell then cIdx (k + 1) r ((n, k) :: acc) else cIdx k r acc
noncomputable def cNew : List (Str × NameKind) → Led
  | [] => []
  | (_, kd) :: r => if kd == .cell then .cell none :: cNew r else cNew r
noncomputable def cxIn (cx : Cx) (scope : Scope) (l : List (Str × Nat)) : Cx := { kind := kindX cx scope, cel := l, glob := cx.glob, fn := cx.fn, room := cx.room, tab := none, lst := cx.lst }
noncomputable def okScope (scope : Scope) : Bool :=
  (scope.kind == .function) && (scope.names.all fun y => y.2 != .local || scope.names.lookup y.1 == some .local)
noncomputable def xComp (r : Rec) (cx : Cx) (elt : Expr) (gens : List Comprehension) (scope : Scope) (loc : Loc) (led : Led) (K : List SV → Led → Prop) : Prop :=
  match gens with
  | [] => False
  | g :: gs => (((g :: gs).all fun g => g.is_async == 0) && okScope scope) = true ∧ match closX cx.cel scope.names [] with
    | some l => xSrc r cx g.target g.iter loc led fun items keep unf led => keep (led ++ cNew scope.names) ∧
        compP (led.length + (cNew scope.names).length) (xTurn r (cxIn cx scope (cIdx led.length scope.names l)) g (xGens r (cxIn cx scope (cIdx led.length scope.names l)) elt gs)) keep items [] [] (led ++ cNew scope.names)
          fun _ acc led2 => ∃ led₂, TrimC led.length [] acc (unf led2) led₂ [] ∧ K acc led₂
    | none => False
section
variable {R : Rt} {cx : Cx} {env : Env} {ρ ρ' : List Addr} {led led' : Led} {ex ex0 : CbLed} {loc : Loc} {m : Str → Option Value} {s : Shared} {h' : Heap} {tk' : Nat} {r : Rec} {C D : Addr}
set_option tactic.hygienic false in
theorem nsObj_code {o : Obj} {m₂ : Str → Option Value} (n : LCg.NsObj o m₂) : ∀ W, CodeOb W o := fun W => by
  obtain ⟨es, ep, e, _⟩ := n
  unfold CodeOb; rw [e]; exact True.intro
structure AtC (R : Rt) (cx : Cx) (env : Env) (ρ : List Addr) (led : Led) (ex0 : CbLed) (C : Addr) (loc : Loc) (m : Str → Option Value) (s : Shared) : Prop where
  ok : EnvOk R cx env ρ
  lc : env.locals = C
  fr : Fr R.h₀ R.L s.heap m
  off : AllNe C ex0
  st : ∃ oC m₂, LCg.NsObj oC m₂ ∧ FrR ρ loc m₂ ∧ Sim R s.heap ρ led ((C, oC) :: ex0)
set_option tactic.hygienic false in
theorem AtC.here (H : AtC R cx env ρ led ex0 C loc m s) : ∃ oC m₂, Here R cx env ρ led ((C, oC) :: ex0) loc m s ∧ LCg.NsObj oC m₂ ∧ FrR ρ loc m₂ := by
  obtain ⟨oC, m₂, n, f, S⟩ := H.st
  exact ⟨oC, m₂, ⟨H.ok, H.fr, S, .comp oC m₂ (by rw [H.lc]; exact .head _) n f⟩, n, f⟩
set_option tactic.hygienic false in
theorem AtC.go {oC : Obj} {m₂ : Str → Option Value} (H : AtC R cx env ρ led ex0 C loc m s) (n : LCg.NsObj oC m₂) (f : FrR ρ loc m₂) (g : Grow ρ ρ') (F : Fr R.h₀ R.L h' m) (S : Sim R h' ρ' led' ((C, oC) :: ex0)) :
    AtC R cx env ρ' led' ex0 C loc m { s with heap := h', toks := tk' } :=
  ⟨H.ok.mono g, H.lc, F, H.off, oC, m₂, n, f.mono g, S⟩
noncomputable def PostC (R : Rt) (cx : Cx) (env : Env) (ρ : List Addr) (ex0 : CbLed) (C : Addr) (m : Str → Option Value) (s : Shared) (K : Loc → Led → Prop) (Q : Unit → Shared → Prop) : Prop :=
  ∀ loc' led' h' tk', K loc' led' → AtC R cx env ρ led' ex0 C loc' m { s with heap := h', toks := tk' } → Q () { s with heap := h', toks := tk' }
set_option tactic.hygienic false in
theorem store_C {x : Str} {v : SV} {y : Value} {K : Loc → Led → Prop} {Q : Unit → Shared → Prop} {E : Value → Shared → Prop} (h : xstore cx x v loc led K) (H : AtC R cx env ρ led ex0 C loc m s) (hr : Rep ρ v y) (P : PostC R cx env ρ ex0 C m s K Q) :
    wpAny R.M R.A (storeName env x y) Q E s := by
  have hkd := H.ok.kd x
  have hk1 := H.ok.kind
  obtain ⟨oC, m₂, n, f, S⟩ := H.st
  unfold xstore at h
  cases hk : cx.kind x with
  | none => rw [hk] at h; exact False.elim h
  | some kd =>
    rw [hk] at h hkd
    cases kd with
    | «local» =>
      have z := S.exGet (.head _)
      refine wpAny_storeName_local hkd (by rw [H.lc]; exact n.ns z.1) (fun h' hn hs => ?_) (by rw [hk1]; rfl)
      rw [H.lc] at hn hs
      obtain ⟨oC', e1, n'⟩ := LCg.ns_obj hn
      exact P _ led h' _ h ⟨H.ok, H.lc, H.fr.change hs z.2.1 z.2.2, H.off, oC', _, n', f.set hr, S.iter H.off (fun b o hb e => hs.extBut b o (fun q => hb (by rw [q]; exact .head _)) e) e1 (nsObj_code n')⟩
    | cell =>
      cases hc : cx.cel.lookup x with
      | none => simp only [hc] at h
      | some k =>
        simp only [hc] at h
        cases ho : led[k]? with
        | none => simp only [ho] at h
        | some o =>
          simp only [ho] at h
          cases o with
          | cell w =>
            obtain ⟨c, q1, q2⟩ := H.ok.cel x k hc
            obtain ⟨ob, es, rr, hro, N, hm, hnd, hne, up⟩ := S.upd q2 ho
            have hdat : ∃ v₀, ob.data = .cell v₀ := by
              cases w with
              | none => exact ⟨_, hro⟩
              | some w => obtain ⟨z, _, e⟩ := hro; exact ⟨_, e⟩
            obtain ⟨v₀, hdat⟩ := hdat
            have hN := N (c, ob) (List.mem_append_left _ hm)
            refine wpAny_storeName_cell hk1 hkd q1 ⟨ob, hN.1, hdat⟩ (fun h' hv hs => ?_)
            obtain ⟨o', e1, e2⟩ := hv
            exact P loc _ h' s.toks h ⟨H.ok, H.lc, H.fr.change hs hN.2.1 hN.2.2, H.off, oC, m₂, n, f, up (.cell (some v)) o' h' (fun _ _ => .of e2) ⟨y, hr, e2⟩ (news_put N hm hne hs e1)⟩
          | _ => exact False.elim h
    | _ => exact False.elim h
set_option tactic.hygienic false in
theorem stores_C {K : Loc → Led → Prop} {Q : Unit → Shared → Prop} {E : Value → Shared → Prop} (es : List Expr) : ∀ {vs : List SV} {xs : List Value} {led : Led} {loc : Loc} {s : Shared}, xStores cx es vs loc led K → RepL ρ vs xs → AtC R cx env ρ led ex0 C loc m s → PostC R cx env ρ ex0 C m s K Q →
    wpAny R.M R.A (assignInOrder ((assignEach es env).map (·.2)) xs) Q E s := by
  induction es with
  | nil =>
    intro vs xs led loc s h hr H P
    cases vs with
    | nil => exact assignInOrder_nil (P loc led s.heap s.toks h H)
    | cons v vs => exact False.elim h
  | cons e es ih =>
    intro vs xs led loc s h hr H P
    obtain ⟨x, p, v, vs', rfl, rfl, h⟩ := xStores_inv h
    cases xs with
    | nil => exact False.elim hr
    | cons y ys =>
      show wpAny R.M R.A (assignInOrder (assign (.Name x p) env :: (assignEach es env).map (·.2)) (y :: ys)) Q E s
      refine assignInOrder_cons (wpAny_assign_Name (store_C h H hr.1 ?_))
      intro loc2 led2 h2 tk2 k2 H2
      exact ih k2 hr.2 H2 fun loc3 led3 h3 tk3 k3 H3 => P loc3 led3 h3 tk3 k3 H3
theorem target_C {target : Expr} {v : SV} {y : Value} {K : Loc → Led → Prop} {Q : Unit → Shared → Prop} {E : Value → Shared → Prop} (h : xTarget cx target v loc led K) (hr : Rep ρ v y) (H : AtC R cx env ρ led ex0 C loc m s) (P : PostC R cx env ρ ex0 C m s K Q) :
    wpAny R.M R.A (assign target env y) Q E s := by
  cases target with
  | Name x p => exact wpAny_assign_Name (store_C h H hr P)
  | Tuple es k p =>
    cases v with
    | loc j =>
      have ⟨vs, hvs, h⟩ : ∃ vs, (led[j]? = some (.tup vs) ∨ (led[j]? = some (.list vs) ∧ vs.length ≤ 100000)) ∧ xStores cx es vs loc led K := by
        unfold xTarget at h
        dsimp only at h
        split at h
        · rename_i ho; exact ⟨_, .inl ho, h⟩
        · rename_i ho; exact ⟨_, .inr ⟨ho, h.1⟩, h.2⟩
        · exact False.elim h
      obtain ⟨q1, q2, q3⟩ := stores_len (env := env) es h
      rw [assign_Tuple]
      refine wpAny_bind (wpAny_standAt ?_)
      unfold unpack
      rw [q3]
      obtain ⟨oC, m₂, n, f, S⟩ := H.st
      refine wpAny_bind (wpAny_holding (unpack_X hvs hr (by rw [q2, q1]) H.fr S ?_))
      intro xs h' tk' hrs F' S'
      exact stores_C es h hrs (H.go n f Grow.refl F' S' (tk' := tk')) fun loc3 led3 h3 tk3 k3 H3 => P loc3 led3 h3 tk3 k3 H3
    | _ => exact False.elim h
  | _ => exact False.elim h
set_option tactic.hygienic false in
theorem tests_no {M : Model} {A : Around} {env : Env} {Q : Bool → Shared → Prop} {E : Value → Shared → Prop} : ∀ (cs : List Expr), Q false s →
    wpAny M A (forIn cs false fun c r => if r = true then do let ok ← PySem.isTrue c env (eval c env); pure (ForInStep.yield ok) else pure (ForInStep.yield r)) Q E s
  | [], h => wpAny_pure h
  | c :: cs, h => by
    rw [List.forIn_cons]
    exact wpAny_bind (wpAny_pure (tests_no cs h))
set_option tactic.hygienic false in
theorem ifs_C (S : SndR r) {Q : Bool → Shared → Prop} {E : Value → Shared → Prop} {K : Bool → Led → Prop} : ∀ {cs : List Expr} {ρ : List Addr} {led : Led} {s : Shared}, xIfs r cx loc cs led K → AtC R cx env ρ led ex0 C loc m s →
    (∀ b ρ' led' h' tk', K b led' → Grow ρ ρ' → AtC R cx env ρ' led' ex0 C loc m { s with heap := h', toks := tk' } → Q b { s with heap := h', toks := tk' }) →
    wpAny R.M R.A (forIn cs true fun c r => if r = true then do let ok ← PySem.isTrue c env (eval c env); pure (ForInStep.yield ok) else pure (ForInStep.yield r)) Q E s
  | [], ρ, led, s, h, H, P => wpAny_pure (P true ρ led s.heap s.toks h Grow.refl H)
  | c :: cs, ρ, led, s, h, H, P => by
    rw [List.forIn_cons]
    obtain ⟨oC, m₂, HH, n, f⟩ := H.here
    refine wpAny_bind ?_
    rw [if_pos rfl]
    refine wpAny_bind (S.et h HH ?_)
    intro b ρ1 led1 h1 tk1 k1 g1 F1 S1
    refine wpAny_pure ?_
    have H1 := H.go n f g1 F1 S1 (tk' := tk1)
    cases b with
    | true => exact ifs_C S k1 H1 fun b ρ2 led2 h2 tk2 k2 g2 H2 => P b ρ2 led2 h2 tk2 k2 (g1.trans g2) H2
    | false => exact tests_no cs (P false ρ1 led1 h1 tk1 k1 g1 H1)
end
end Mine
end
section
open PySem PySem.W PyProof.Rows PySem.Calls PyProof.V PySem.Spec
namespace Mine
noncomputable def innerT (elt : Expr) (e : Expr) (nx : Option Comprehension) (d : Nat) (acc : Value) (env : Env) : Sem PUnit := match nx with
  | some g' => do
    let x ← eval g'.iter env
    standAt g'.iter.pos
    let x ← foldedSetIterable g'.iter env x
    let _ ← runOwn (.compStart e (d + 1) (← holding [x] (pyIter x)) acc env) env
    pure ()
  | none => do let _ ← call (.builtin "list.append") [acc, ← eval elt env]
section
variable {R : Rt} {cx : Cx} {env : Env} {ρ ρ' : List Addr} {led led' : Led} {ex ex0 : CbLed} {loc : Loc} {m : Str → Option Value} {s : Shared} {h' : Heap} {tk' : Nat} {r : Rec} {C D : Addr}
set_option tactic.hygienic false in
theorem turn_W {M : Model} {A : Around} {elt : Expr} {gens : List Comprehension} {scope : Scope} {pos : Pos} {d : Nat} {g : Comprehension} {it acc : Value} {Q : Fin → Shared → Prop} {E : Value → Shared → Prop}
    (hg : gens[d]? = some g) (h0 : g.is_async = 0) (h1 : ∀ g', gens[d + 1]? = some g' → g'.is_async = 0)
    (h : wpAny M A (pyNext it) (fun o s₁ => match o with
      | none => Q (.done .next) s₁
      | some v => wpAny M A (letOwnedTupleGo g.target it v) (fun _ s₂ => wpAny M A (assign g.target env v) (fun _ s₃ =>
          wpAny M A (forIn g.ifs true fun c r => if r = true then do let ok ← PySem.isTrue c env (eval c env); pure (ForInStep.yield ok) else pure (ForInStep.yield r)) (fun ok s₄ =>
            if ok = true then wpAny M A (innerT elt (.ListComp elt gens scope pos) gens[d + 1]? d acc env) (fun _ s₅ => Q (.again (.compLoop (.ListComp elt gens scope pos) d it acc env)) s₅) E s₄
            else Q (.again (.compLoop (.ListComp elt gens scope pos) d it acc env)) s₄) E s₃) E s₂) E s₁) E s) :
    wpAny M A (compTurn (.ListComp elt gens scope pos) d it acc env) Q E s := by
  unfold compTurn
  dsimp only
  rw [hg]
  dsimp only
  rw [h0]
  refine wpAny_bind (wpAny_standAt (wpAny_bind ?_))
  refine wpAny_mono h (fun o s₁ h₁ => ?_) fun _ _ e => e
  cases o with
  | none => exact wpAny_pure h₁
  | some v =>
    refine wpAny_bind (wpAny_mono h₁ (fun _ s₂ h₂ => wpAny_bind (wpAny_mono h₂ (fun _ s₃ h₃ => wpAny_bind (wpAny_mono h₃ (fun ok s₄ h₄ => ?_) fun _ _ e => e)) fun _ _ e => e)) fun _ _ e => e)
    cases ok with
    | false => exact wpAny_pure h₄
    | true =>
      have h₄ : wpAny M A (innerT elt (.ListComp elt gens scope pos) gens[d + 1]? d acc env) (fun _ s₅ => Q (.again (.compLoop (.ListComp elt gens scope pos) d it acc env)) s₅) E s₄ := h₄
      rw [if_pos rfl]
      unfold innerT at h₄
      cases hn : gens[d + 1]? with
      | none =>
        rw [hn] at h₄
        exact wpAny_bind (wpAny_mono h₄ (fun _ _ q => wpAny_pure q) fun _ _ e => e)
      | some g' =>
        rw [hn] at h₄
        have e : ∀ {α β : Type} {t : Sem α} {f : α → Sem PUnit} {g : Sem β} {Q : β → Shared → Prop} {s : Shared}, wpAny M A (t >>= f) (fun _ s₅ => wpAny M A g Q E s₅) E s → wpAny M A (t >>= fun x => f x >>= fun _ => g) Q E s := fun {α β t f g Q s} h => by
          have h2 := wpAny_bind h
          simpa only [bind_assoc] using h2
        have h5 := e (g := again (.compLoop (.ListComp elt gens scope pos) d it acc env)) (wpAny_mono h₄ (fun _ _ q => wpAny_pure q) fun _ _ e => e)
        simp only [bind_assoc, pure_bind] at h5
        simp only [h1 g' hn, bne_self_eq_false, Bool.false_eq_true, if_false]
        exact h5
set_option tactic.hygienic false in
theorem start_C {elt : Expr} {gens : List Comprehension} {scope : Scope} {pos : Pos} {d : Nat} {g : Comprehension} {it acc : Value} {RR : Result → Shared → Prop} (hg : gens[d]? = some g) (h0 : g.is_async = 0)
    (h : codeAny R.M R.A (.compLoop (.ListComp elt gens scope pos) d it acc env) RR s)
    (hs : ∀ (Q : Value → Shared → Prop) (E : Value → Shared → Prop), Q it s → wpAny R.M R.A (pyIter it) Q E s) :
    codeAny R.M R.A (.compStart (.ListComp elt gens scope pos) d it acc env) RR s := by
  refine codeAny_of_tree ?_
  show wpAny _ R.A ((compStart (.ListComp elt gens scope pos) d it acc env).onRaise (fun x => do noteFrame x env; standAt theWindowsPlace)) _ _ s
  refine wpAny_notedAt ?_
  unfold compStart
  have e : clausesOf (.ListComp elt gens scope pos) = gens := rfl
  rw [e, hg]
  simp only [Option.elim_some, h0, bne_self_eq_false, Bool.false_eq_true, if_false]
  refine wpAny_bind (wpAny_askSetting (wpAny_ite ?_))
  split
  · exact wpAny_bind (wpAny_pure (wpAny_pure (And.intro rfl h)))
  · exact wpAny_bind (wpAny_rule (wpAny_bind (wpAny_standAt (wpAny_bind (hs _ _ (wpAny_pure (And.intro rfl h)))))))
set_option tactic.hygienic false in
theorem mem_abc {α : Type} {a b c p : α} {l : List α} (h : p ∈ a :: b :: c :: l) : p ∈ c :: a :: b :: l := by
  rcases List.mem_cons.mp h with rfl | h
  · exact .tail _ (.head _)
  rcases List.mem_cons.mp h with rfl | h
  · exact .tail _ (.tail _ (.head _))
  rcases List.mem_cons.mp h with rfl | h
  · exact .head _
  · exact .tail _ (.tail _ (.tail _ h))
set_option tactic.hygienic false in
theorem mem_cab {α : Type} {a b c p : α} {l : List α} (h : p ∈ c :: a :: b :: l) : p ∈ a :: b :: c :: l := mem_abc (mem_abc h)
set_option tactic.hygienic false in
theorem mem_ba {α : Type} {a b p : α} {l : List α} (h : p ∈ a :: b :: l) : p ∈ b :: a :: l := by
  rcases List.mem_cons.mp h with rfl | h
  · exact .tail _ (.head _)
  rcases List.mem_cons.mp h with rfl | h
  · exact .head _
  · exact .tail _ (.tail _ h)
noncomputable def RestC (R : Rt) (cx : Cx) (env : Env) (C D : Addr) (m : Str → Option Value) (body : Sem PUnit) (rest : Loc → List SV → Led → KC → Prop) : Prop :=
  ∀ ⦃ρ led ex0 loc acc ys s K Q E⦄, rest loc acc led K → AtC R cx env ρ led ((D, LCg.lst ys) :: ex0) C loc m s → AllNe D ex0 → RepL ρ acc ys →
    (∀ ρ' led' loc' acc' ys' h' tk', K loc' acc' led' → Grow ρ ρ' → RepL ρ' acc' ys' → AtC R cx env ρ' led' ((D, LCg.lst ys') :: ex0) C loc' m { s with heap := h', toks := tk' } → Q PUnit.unit { s with heap := h', toks := tk' }) → wpAny R.M R.A body Q E s
set_option tactic.hygienic false in
theorem elt_C (S : SndR r) {elt e : Expr} {d : Nat} : RestC R cx env C D m (innerT elt e none d (.ref D) env) (xGens r cx elt []) := by
  intro ρ led ex0 loc acc ys s K Q E h H hD hr P
  obtain ⟨oC, m₂, HH, n, f⟩ := H.here
  refine wpAny_bind (S.ev h HH ?_)
  intro v x ρ1 led1 h1 tk1 ⟨hl, k1⟩ g1 r1 F1 S1
  have z := S1.exGet (.tail _ (.head _))
  refine wpAny_bind (append_at z.1 (fun h2 hs2 hD2 => ?_) (by rw [List.size_toArray, ← hr.length]; exact size100 hl))
  rw [LCg.lst_snoc] at hD2
  have hDC : AllNe D ((C, oC) :: ex0) := fun p hp => by
    rcases List.mem_cons.mp hp with rfl | hp
    · exact Ne.symm (H.off _ (.head _))
    · exact hD p hp
  have S2 := ((S1.sub (ex' := (D, LCg.lst ys) :: (C, oC) :: ex0) fun p hp => mem_ba hp).iter (it₂ := LCg.lst (ys ++ [x])) hDC (fun b o hb e => hs2.extBut b o (fun q => hb (by rw [q]; exact .head _)) e) hD2 (fun _ => True.intro)).sub (ex' := (C, oC) :: (D, LCg.lst (ys ++ [x])) :: ex0) fun p hp => mem_ba hp
  refine wpAny_pure (P ρ1 led1 loc (acc ++ [v]) (ys ++ [x]) h2 tk1 k1 g1 ((hr.mono g1).app (show RepL ρ1 [v] [x] from ⟨r1, True.intro⟩)) ⟨H.ok.mono g1, H.lc, F1.change hs2 z.2.1 z.2.2, fun p hp => ?_, oC, m₂, n, f.mono g1, S2⟩)
  rcases List.mem_cons.mp hp with rfl | hp
  · exact H.off (D, LCg.lst ys) (.head _)
  · exact H.off _ (.tail _ hp)
inductive LoopI (R : Rt) (cx : Cx) (env : Env) (ρ : List Addr) (ex0 : CbLed) (C D : Addr) (m : Str → Option Value) (s : Shared) (keep : Led → Prop) (I : Addr) (items : List SV) (St : Nat → Heap → Prop) (P : Nat → Loc → List SV → Led → Prop) (k : Nat) (s' : Shared) : Prop
  | mk (i : Nat) (ρ₁ : List Addr) (led₁ : Led) (loc₁ : Loc) (acc₁ : List SV) (ys₁ : List Value) (h₁ : Heap) (tk₁ : Nat) (it₁ : Obj) (e : s' = { s with heap := h₁, toks := tk₁ }) (hi : i ≤ items.length) (hk : k = items.length - i) (st : St i h₁) (g : Grow ρ ρ₁) (hr : RepL ρ₁ acc₁ ys₁)
      (H : AtC R cx env ρ₁ led₁ ((D, LCg.lst ys₁) :: (I, it₁) :: ex0) C loc₁ m s') (kp : keep led₁) (h : P i loc₁ acc₁ led₁)
set_option tactic.hygienic false in
theorem LoopI.again {keep : Led → Prop} {I : Addr} {items : List SV} {St : Nat → Heap → Prop} {P : Nat → Loc → List SV → Led → Prop} {tn i : Nat} {loc₃ : Loc} {acc₃ : List SV} {led₃ : Led} {ρ₃ : List Addr} {ys₃ : List Value} {h₃ : Heap} {tk₃ : Nat} {it₂ : Obj} (ok : EnvOk R cx env ρ') (htn : ρ'.length ≤ tn) (hi : i + 1 ≤ items.length) (g : Grow ρ' ρ₃) (hr : RepL ρ₃ acc₃ ys₃)
    (H : AtC R cx env ρ₃ led₃ ((D, LCg.lst ys₃) :: (I, it₂) :: ex0) C loc₃ m { s with heap := h₃, toks := tk₃ }) (st : keep led₃ → St (i + 1) h₃) (z : keep led₃ ∧ ∃ led₂ loc₂, TrimC tn loc₃ acc₃ led₃ led₂ loc₂ ∧ keep led₂ ∧ P (i + 1) loc₂ acc₃ led₂) :
    ∃ mm, mm < items.length - i ∧ LoopI R cx env ρ' ex0 C D m s keep I items St P mm { s with heap := h₃, toks := tk₃ } := by
  obtain ⟨kp₃, led₂, loc₂, ⟨⟨j, rfl⟩, ht⟩, kp₂, z⟩ := z
  obtain ⟨oC₃, m₃, n₃, f₃, S₃⟩ := H.st
  refine ⟨_, Nat.sub_succ_lt_self _ _ hi, ?_⟩
  rcases ht with rfl | ⟨t1, t2, t3, t4, rfl⟩
  · exact ⟨i + 1, ρ₃, _, _, acc₃, ys₃, h₃, tk₃, it₂, rfl, hi, rfl, st kp₃, g, hr, ⟨H.ok, H.lc, H.fr, H.off, oC₃, m₃, n₃, f₃.takeL, S₃⟩, kp₂, z⟩
  · exact ⟨i + 1, ρ₃.take tn, _, _, acc₃, ys₃, h₃, tk₃, it₂, rfl, hi, rfl, st kp₃, g.take htn, hr.take t4, ⟨ok.mono (g.take htn), H.lc, H.fr, H.off, oC₃, m₃, n₃, f₃.takeL.take t3, S₃.take t2⟩, kp₂, z⟩
theorem loop_C (S : SndR r) {elt : Expr} {gens : List Comprehension} {scope : Scope} {pos : Pos} {d tn : Nat} {g : Comprehension} {rest : Loc → List SV → Led → KC → Prop} {keep : Led → Prop} {I : Addr} {it : Obj} {items acc : List SV} {fp : List Addr} {Pv : Nat → Value → Prop} {St : Nat → Heap → Prop} {ys : List Value} {K : KC} {RR : Result → Shared → Prop}
    (hg : gens[d]? = some g) (h0 : g.is_async = 0) (h1 : ∀ g', gens[d + 1]? = some g' → g'.is_async = 0)
    (hrest : RestC R cx env C D m (innerT elt (.ListComp elt gens scope pos) gens[d + 1]? d (.ref D) env) rest)
    (X : Src R ρ keep g.target I items fp Pv St) (htn : ρ'.length ≤ tn) (gr : Grow ρ ρ') (st : St 0 s.heap) (kp : keep led) (h : compP tn (xTurn r cx g rest) keep items loc acc led K)
    (H : AtC R cx env ρ' led ((D, LCg.lst ys) :: (I, it) :: ex0) C loc m s) (hD : AllNe D ((I, it) :: ex0)) (hI : AllNe I ex0) (hr : RepL ρ' acc ys)
    (fin : ∀ ρ₂ led₂ loc₂ acc₂ ys₂ h₂ tk₂, keep led₂ → K loc₂ acc₂ led₂ → Grow ρ' ρ₂ → RepL ρ₂ acc₂ ys₂ → AtC R cx env ρ₂ led₂ ((D, LCg.lst ys₂) :: ex0) C loc₂ m { s with heap := h₂, toks := tk₂ } → RR (.ok .next) { s with heap := h₂, toks := tk₂ }) :
    codeAny R.M R.A (.compLoop (.ListComp elt gens scope pos) d (.ref I) (.ref D) env) RR s := by
  have hID : I ≠ D := hD _ (.head _)
  have hIC : I ≠ C := H.off _ (.tail _ (.head _))
  have hDC : D ≠ C := H.off _ (.head _)
  have hIall : ∀ {oC : Obj} {ys : List Value}, AllNe I ((C, oC) :: (D, LCg.lst ys) :: ex0) := fun {oC ys} p hp => by
    rcases List.mem_cons.mp hp with rfl | hp
    · exact Ne.symm hIC
    rcases List.mem_cons.mp hp with rfl | hp
    · exact Ne.symm hID
    · exact hI p hp
  have offs : ∀ {it : Obj} {ys : List Value}, AllNe C ((D, LCg.lst ys) :: (I, it) :: ex0) := fun {it ys} p hp => by
    rcases List.mem_cons.mp hp with rfl | hp
    · exact hDC
    rcases List.mem_cons.mp hp with rfl | hp
    · exact hIC
    · exact H.off p (.tail _ (.tail _ hp))
  have hDs : ∀ {it : Obj}, AllNe D ((I, it) :: ex0) := fun {it} p hp => by
    rcases List.mem_cons.mp hp with rfl | hp
    · exact hID
    · exact hD p (.tail _ hp)
  refine codeAny_loop rfl (LoopI R cx env ρ' ex0 C D m s keep I items St fun i loc acc led => compP tn (xTurn r cx g rest) keep (items.drop i) loc acc led K) ?_ items.length
    ⟨0, ρ', led, loc, acc, ys, s.heap, s.toks, it, rfl, Nat.zero_le _, rfl, st, Grow.refl, hr, H, kp, h⟩
  rintro k s' ⟨i, ρ₁, led₁, loc₁, acc₁, ys₁, h₁, tk₁, it₁, rfl, hi, rfl, st₁, g₁, hr₁, H₁, kp₁, hP⟩
  show wpAny _ R.A ((compTurn (.ListComp elt gens scope pos) d (.ref I) (.ref D) env).onRaise (fun x => do noteFrame x env; theTreesLotGoes x)) _ _ _
  refine wpAny_noted (turn_W hg h0 h1 ?_)
  obtain ⟨oC, m₂, n, f, S₁⟩ := H₁.st
  refine X.next hIall (gr.trans g₁) H₁.fr (S₁.sub (ex' := (I, it₁) :: (C, oC) :: (D, LCg.lst ys₁) :: ex0) fun p hp => mem_cab hp) st₁ hi (fun hd h₂ tk₂ F₂ S₂ => ?_) fun v x h₂ tk₂ it₂ hi2 hd rx F₂ S₂ st₂ => ?_
  · rw [hd] at hP
    exact fin ρ₁ led₁ loc₁ acc₁ ys₁ h₂ tk₂ kp₁ hP g₁ hr₁ ⟨H₁.ok, H₁.lc, F₂, fun p hp => by
      rcases List.mem_cons.mp hp with rfl | hp
      · exact hDC
      · exact H.off p (.tail _ (.tail _ hp)), oC, m₂, n, f, S₂⟩
  · rw [hd] at hP
    dsimp only
    refine X.go (i + 1) v _ _ _ st₂ ?_
    have S₂' := S₂.sub (ex' := (C, oC) :: (D, LCg.lst ys₁) :: (I, it₂) :: ex0) fun p hp => mem_abc hp
    have H₂ : AtC R cx env ρ₁ led₁ ((D, LCg.lst ys₁) :: (I, it₂) :: ex0) C loc₁ m { s with heap := h₂, toks := tk₂ } := ⟨H₁.ok, H₁.lc, F₂, offs, oC, m₂, n, f, S₂'⟩
    have again : ∀ (loc₃ : Loc) (acc₃ : List SV) (led₃ : Led) (ρ₃ : List Addr) (ys₃ : List Value) (h₃ : Heap) (tk₃ : Nat), Grow ρ₁ ρ₃ → RepL ρ₃ acc₃ ys₃ → AtC R cx env ρ₃ led₃ ((D, LCg.lst ys₃) :: (I, it₂) :: ex0) C loc₃ m { s with heap := h₃, toks := tk₃ } →
        (keep led₃ ∧ ∃ led₂ loc₂, TrimC tn loc₃ acc₃ led₃ led₂ loc₂ ∧ keep led₂ ∧ compP tn (xTurn r cx g rest) keep (items.drop (i + 1)) loc₂ acc₃ led₂ K) →
        (Code.compLoop (.ListComp elt gens scope pos) d (.ref I) (.ref D) env = Code.compLoop (.ListComp elt gens scope pos) d (.ref I) (.ref D) env) ∧ ∃ mm, mm < items.length - i ∧ LoopI R cx env ρ' ex0 C D m s keep I items St (fun i loc acc led => compP tn (xTurn r cx g rest) keep (items.drop i) loc acc led K) mm { s with heap := h₃, toks := tk₃ } := by
      intro loc₃ acc₃ led₃ ρ₃ ys₃ h₃ tk₃ g₃ hr₃ H₃ z
      refine ⟨rfl, LoopI.again (P := fun i loc acc led => compP tn (xTurn r cx g rest) keep (items.drop i) loc acc led K) H.ok htn hi2 (g₁.trans g₃) hr₃ H₃ (fun hk => ?_) z⟩
      obtain ⟨oC₃, m₃, n₃, f₃, S₃⟩ := H₃.st
      exact X.kept st₂ S₂ (.head _) (gr.trans g₁) kp₁ S₃ (.tail _ (.tail _ (.head _))) ((gr.trans g₁).trans g₃) hk
    refine target_C hP rx H₂ ?_
    intro loc₃ led₃ h₃ tk₃ k₃ H₃
    refine ifs_C S k₃ H₃ ?_
    intro b ρ₄ led₄ h₄ tk₄ k₄ g₄ H₄
    cases b with
    | false =>
      rw [if_neg Bool.false_ne_true]
      exact again _ _ _ _ _ h₄ tk₄ g₄ (hr₁.mono g₄) H₄ k₄
    | true =>
      rw [if_pos rfl]
      refine hrest k₄ H₄ hDs (hr₁.mono g₄) ?_
      intro ρ₅ led₅ loc₅ acc₅ ys₅ h₅ tk₅ k₅ g₅ r₅ H₅
      exact again _ _ _ _ _ h₅ tk₅ (g₄.trans g₅) r₅ H₅ k₅
end
end Mine
end
section
open PySem PySem.W PyProof.Rows PySem.Calls PyProof.V PySem.Spec
namespace Mine
section
variable {R : Rt} {cx : Cx} {env : Env} {ρ ρ' : List Addr} {led led' : Led} {ex ex0 : CbLed} {loc : Loc} {m : Str → Option Value} {s : Shared} {h' : Heap} {tk' : Nat} {r : Rec} {C D : Addr}
set_option tactic.hygienic false in
theorem drop_at {α : Type} {l : List α} {i : Nat} : l.drop i = match l[i]? with | some x => x :: l.drop (i + 1) | none => [] := by
  by_cases h : i < l.length
  · rw [List.drop_eq_getElem_cons h, List.getElem?_eq_getElem h]
  · rw [List.drop_eq_nil_of_le (by omega), List.getElem?_eq_none (by omega)]
theorem gens_C (S : SndR r) {elt : Expr} {gens : List Comprehension} {scope : Scope} {pos : Pos} (hall : ∀ g ∈ gens, g.is_async = 0) : ∀ (gs : List Comprehension) (d : Nat), gens.drop (d + 1) = gs →
    RestC R cx env C D m (innerT elt (.ListComp elt gens scope pos) gens[d + 1]? d (.ref D) env) (xGens r cx elt gs)
  | [], d, hd => by
    rw [drop_at] at hd
    split at hd
    · cases hd
    · rename_i hn
      rw [hn]
      exact elt_C S
  | g :: gs, d, hd => by
    rw [drop_at] at hd
    split at hd
    · rename_i g' hg
      injection hd with e1 e2
      subst e1
      rw [hg]
      intro ρ led ex0 loc acc ys s K Q E h H hD hr P
      obtain ⟨oC, m₂, HH, n, f⟩ := H.here
      have go : SrcPost R g'.target (fun items keep unf led => compP led.length (xTurn r cx g' (xGens r cx elt gs)) keep items loc acc led fun loc acc led => K loc acc (unf led)) ρ ((C, oC) :: (D, LCg.lst ys) :: ex0) m s
          (fun it s₂ => wpAny R.M R.A (runOwn (.compStart (.ListComp elt gens scope pos) (d + 1) it (.ref D) env) env >>= fun _ => pure PUnit.unit) Q E s₂) := by
        intro items keep unf ρ1 led1 h1 tk1 I it fp Pv St k1 g1 F1 S1 hI X st kp back _
        have hIC : I ≠ C := Ne.symm (hI _ (.head _))
        have hID : I ≠ D := Ne.symm (hI _ (.tail _ (.head _)))
        refine wpAny_bind (wpAny_runOwn (h := none) (show codeAny R.M R.A _ _ _ from start_C hg (hall _ (List.mem_of_getElem? hg)) (loop_C S hg (hall _ (List.mem_of_getElem? hg)) (fun g' h => hall _ (List.mem_of_getElem? h)) (gens_C S hall gs (d + 1) e2) X (Nat.le_of_eq S1.length) Grow.refl st kp k1
          ⟨H.ok.mono g1, H.lc, F1, fun p hp => ?_, oC, m₂, n, f.mono g1, S1.sub fun p hp => mem_abc hp⟩ (fun p hp => ?_) (fun p hp => hI p (.tail _ (.tail _ hp))) (hr.mono g1) ?_) ?_))
        · rcases List.mem_cons.mp hp with rfl | hp
          · exact H.off _ (.head _)
          rcases List.mem_cons.mp hp with rfl | hp
          · exact hIC
          · exact H.off p (.tail _ hp)
        · rcases List.mem_cons.mp hp with rfl | hp
          · exact hID
          · exact hD p hp
        · intro ρ₂ led₂ loc₂ acc₂ ys₂ h₂ tk₂ kp₂ k₂ g₂ hr₂ H₂
          obtain ⟨oC₂, m₃, n₂, f₂, S₂⟩ := H₂.st
          exact wpAny_pure (P ρ₂ _ loc₂ acc₂ ys₂ h₂ tk₂ k₂ (g1.trans g₂) hr₂ ⟨H₂.ok, H₂.lc, H₂.fr, H₂.off, oC₂, m₃, n₂, f₂, back _ _ _ _ g₂ kp₂ S₂⟩)
        · intro Q E q
          exact X.W.self 0 _ Q E st q
      obtain ⟨q1, q2⟩ := src_X S h HH go (E := E)
      refine wpAny_bind (wpAny_mono q1 (fun x s₁ h₁ => ?_) fun _ _ e => e)
      exact wpAny_bind (wpAny_standAt (wpAny_bind (wpAny_of_eq (q2 x) (wpAny_bind (wpAny_holding h₁)))))
    · cases hd
set_option tactic.hygienic false in
theorem Sim.own {h : Heap} {D : Addr} {ob : Obj} {o : SO} (S : Sim R h ρ led ((D, ob) :: ex)) (hD : AllNe D ex) (ho : RepO (ρ ++ [D]) o ob) : Sim R h (ρ ++ [D]) (led ++ [o]) ex := by
  obtain ⟨es, W, d, N⟩ := S
  exact ⟨_, W, (d.sub fun q hq => .tail _ hq).new (d.head hD) ho (d.co _ (List.mem_append_right _ (.head _))), fun p hp => N p (by
    rw [List.append_assoc] at hp
    rcases List.mem_append.mp hp with hp | hp
    · exact List.mem_append_left _ hp
    rcases List.mem_cons.mp hp with rfl | hp
    · exact List.mem_append_right _ (.head _)
    · exact List.mem_append_right _ (.tail _ hp))⟩
set_option tactic.hygienic false in
theorem layCells_C : ∀ (names : List (Str × NameKind)) (h : Heap) (ρ : List Addr) (led : Led) (acc : List (Str × Addr)) (accN : List (Str × Nat)), Fr R.h₀ R.L h m → Sim R h ρ led ex → (∀ x k, accN.lookup x = some k → ∃ c, acc.lookup x = some c ∧ ρ[k]? = some c) →
    ∃ ρ', Grow ρ ρ' ∧ Fr R.h₀ R.L (pushCells h names) m ∧ Sim R (pushCells h names) ρ' (led ++ cNew names) ex ∧ (∀ x k, (cIdx led.length names accN).lookup x = some k → ∃ c, (cellsFrom h.objs.size names acc).lookup x = some c ∧ ρ'[k]? = some c)
  | [], h, ρ, led, acc, accN, F, S, hh => ⟨ρ, Grow.refl, F, by rw [show cNew [] = [] from rfl, List.append_nil]; exact S, hh⟩
  | (n, kd) :: r, h, ρ, led, acc, accN, F, S, hh => by
    unfold pushCells cellsFrom cNew cIdx
    by_cases hk : (kd == .cell) = true
    · rw [if_pos hk, if_pos hk, if_pos hk, if_pos hk]
      obtain ⟨S1, hex⟩ := S.push F { cls := .type "cell", data := .cell none } rfl (fun _ => True.intro)
      have S2 := S1.own (o := .cell none) hex rfl
      have hl := S.length
      obtain ⟨ρ', g, F', S', c'⟩ := layCells_C r (h.push { cls := .type "cell", data := .cell none }) (ρ ++ [h.objs.size]) (led ++ [.cell none]) ((n, h.objs.size) :: acc) ((n, led.length) :: accN) (F.push _) S2 (by
        intro x k hx
        rw [List.lookup_cons] at hx ⊢
        cases hxn : x == n with
        | true =>
          rw [hxn] at hx
          injection hx with hx
          subst hx
          exact ⟨_, rfl, by rw [← hl]; simp⟩
        | false =>
          rw [hxn] at hx
          obtain ⟨c, q1, q2⟩ := hh x k hx
          exact ⟨c, q1, Grow.app _ _ q2⟩)
      rw [List.length_append, List.length_singleton, Heap.size_push] at c'
      rw [List.append_assoc] at S'
      exact ⟨ρ', Grow.app.trans g, F', S', c'⟩
    · rw [if_neg hk, if_neg hk, if_neg hk, if_neg hk]
      exact layCells_C r h ρ led acc accN F S hh
set_option tactic.hygienic false in
theorem newEnv_C {scope : Scope} {globals : Addr} {cl : List (Str × Addr)} {l : List (Str × Nat)} {qual : Str} {outer : Env} {Q : Env → Shared → Prop} {E : Value → Shared → Prop} (F : Fr R.h₀ R.L s.heap m) (S : Sim R s.heap ρ led ex) (hcl : ∀ x k, l.lookup x = some k → ∃ c, cl.lookup x = some c ∧ ρ[k]? = some c)
    (P : ∀ C oC ρ' h' cells, Grow ρ ρ' → Fr R.h₀ R.L h' m → Sim R h' ρ' (led ++ cNew scope.names) ((C, oC) :: ex) → AllNe C ex → LCg.NsObj oC (fun _ => none) → (∀ x k, (cIdx led.length scope.names l).lookup x = some k → ∃ c, cells.lookup x = some c ∧ ρ'[k]? = some c) →
      Q (newEnv scope C globals cells qual none .none (some outer) builtinsNs) { s with heap := h' }) :
    wpAny R.M R.A (newFunctionEnv scope globals cl [] qual none .none (some outer)) Q E s := by
  simp only [newFunctionEnv, Option.isSome_some, if_true]
  refine wpAny_bind (wpAny_alloc ?_)
  refine wpAny_bind (wpAny_layCells _ (fun name kind cells => by cases hkc : kind == NameKind.cell <;> simp [hkc]) _ _ _ _ ?_)
  obtain ⟨S1, hex⟩ := S.push F { cls := .type "dict", data := .dict #[] } rfl (fun _ => True.intro)
  obtain ⟨ρ', g, F', S', c'⟩ := layCells_C scope.names _ ρ led cl l (F.push _) S1 hcl
  refine wpAny_bind (wpAny_pure (wpAny_pure ?_))
  exact P s.heap.objs.size _ ρ' _ _ g F' S' hex ⟨#[], 0, rfl, fun e he => absurd he (Array.not_mem_empty _), fun _ => rfl⟩ c'
end
end Mine
end
section
open PySem PySem.W PyProof.Rows PySem.Calls PyProof.V PySem.Spec
namespace Mine
section
variable {R : Rt} {cx : Cx} {env : Env} {ρ ρ' : List Addr} {led led' : Led} {ex ex0 : CbLed} {loc : Loc} {m : Str → Option Value} {s : Shared} {h' : Heap} {tk' : Nat} {r : Rec} {C D : Addr}
set_option tactic.hygienic false in
theorem closure_X {cel : List (Str × Nat)} {f : Nat → Addr} (hc : ∀ x k, cel.lookup x = some k → env.cells.lookup x = some (f k)) : ∀ (names : List (Str × NameKind)) (acc l : List (Str × Nat)), closX cel names acc = some l →
    (forIn names (acc.map fun p => (p.1, f p.2)) (fun (x : Str × NameKind) (cs : List (Str × Addr)) => (if x.2 == .free then (do let a ← cellOf env x.1; pure (ForInStep.yield ((x.1, a) :: cs))) else pure (ForInStep.yield cs) : Sem (ForInStep (List (Str × Addr))))) : Sem (List (Str × Addr))) = pure (l.map fun p => (p.1, f p.2))
  | [], acc, l, h => by
    injection h with h
    subst h
    rfl
  | (n, k) :: names, acc, l, h => by
    rw [List.forIn_cons]
    unfold closX at h
    by_cases hk : (k == .free) = true
    · rw [if_pos hk] at h
      cases ho : cel.lookup n with
      | none => rw [ho] at h; cases h
      | some i =>
        rw [ho] at h
        have z := closure_X hc names ((n, i) :: acc) l h
        have e : cellOf env n = pure (f i) := by
          unfold cellOf
          rw [hc n i ho]
        dsimp only
        rw [if_pos hk, e]
        exact z
    · rw [if_neg hk] at h
      have z := closure_X hc names acc l h
      dsimp only
      rw [if_neg hk]
      exact z
set_option tactic.hygienic false in
theorem closureFor_X {scope : Scope} {l : List (Str × Nat)} {f : Nat → Addr} (hc : ∀ x k, cx.cel.lookup x = some k → env.cells.lookup x = some (f k)) (h : closX cx.cel scope.names [] = some l) : closureFor scope env = pure (l.map fun p => (p.1, f p.2)) := by
  have z := closure_X hc scope.names [] l h
  unfold closureFor
  have e : ∀ (t : Sem (List (Str × Addr))), (t >>= fun cs => pure cs) = t := fun t => bind_pure t
  simp only [List.map_nil] at z
  exact z ▸ (by
    refine Eq.trans ?_ (e _)
    congr 1)
theorem closX_mem {cel : List (Str × Nat)} : ∀ {names : List (Str × NameKind)} {acc l : List (Str × Nat)}, closX cel names acc = some l → ∀ p ∈ l, p ∈ acc ∨ cel.lookup p.1 = some p.2
  | [], acc, l, h, p, hp => by
    injection h with h
    subst h
    exact .inl hp
  | (n, k) :: names, acc, l, h, p, hp => by
    unfold closX at h
    split at h
    · split at h
      · rename_i i ho
        rcases closX_mem h p hp with hh | hh
        · rcases List.mem_cons.mp hh with rfl | hh
          · exact .inr ho
          · exact .inl hh
        · exact .inr hh
      · cases h
    · exact closX_mem h p hp
theorem envIn_X {scope : Scope} {l : List (Str × Nat)} {cells : List (Str × Addr)} {C : Addr} {ρ₀ : List Addr} (H : EnvOk R cx env ρ₀) (hk : scope.kind = .function) (hc : ∀ x k, l.lookup x = some k → ∃ c, cells.lookup x = some c ∧ ρ[k]? = some c) : EnvOk R (cxIn cx scope l) (compEnvC scope cells C env) ρ := by
  refine ⟨H.ok, hk, ?_, hc, H.glob, H.globs, H.fn, (fun t e => nomatch e), H.lst⟩
  intro x
  show (relabel scope env).names.lookup x = kindX cx scope x
  unfold relabel kindX
  have e : (fun (y : Str × NameKind) => match y with | (n, k) => if (k == NameKind.free && env.scope.kind == ScopeKind.function && env.kindOf n == some NameKind.cell) = true then (n, NameKind.cell) else (n, k)) = fun (y : Str × NameKind) => match y with | (n, k) => if (k == NameKind.free && cx.kind n == some NameKind.cell) = true then (n, NameKind.cell) else (n, k) := by
    funext y
    obtain ⟨n, k⟩ := y
    have e1 : (env.scope.kind == ScopeKind.function) = true := by rw [H.kind]; rfl
    dsimp only
    rw [e1, H.kd n, Bool.and_true]
  show (scope.names.map _).lookup x = _
  exact congrArg (fun g => (scope.names.map g).lookup x) e
set_option tactic.hygienic false in
theorem FrR.nil {m₂ : Str → Option Value} : FrR ρ [] m₂ := fun _ _ h => by cases h
theorem comp_C (S : SndR r) {elt : Expr} {gens : List Comprehension} {scope : Scope} {pos ppos : Pos} {use : Option (Value → Sem Unit)} {K : List SV → Led → Prop} {Q E : Value → Shared → Prop} (h : xComp r cx elt gens scope loc led K) (H : Here R cx env ρ led ex loc m s)
    (P : ∀ acc ys ρ' led' h' tk' C oC D, K acc led' → Grow ρ ρ' → RepL ρ' acc ys → Fr R.h₀ R.L h' m → Sim R h' ρ' led' ((C, oC) :: (D, LCg.lst ys) :: ex) → AllNe C ((D, LCg.lst ys) :: ex) → AllNe D ex → (∃ m₂, LCg.NsObj oC m₂) → compPost R.M R.A E use Q (.ref D) C (.ok .next) { s with heap := h', toks := tk' }) :
    wpAny R.M R.A (comprehension (.ListComp elt gens scope pos) scope env ppos (newList []) (firstAsync gens) (firstIter gens env) use) Q E s := by
  unfold xComp at h
  cases gens with
  | nil => exact False.elim h
  | cons g gs =>
    obtain ⟨hc, h⟩ := h
    rw [Bool.and_eq_true] at hc
    obtain ⟨hall, hok⟩ := hc
    have hall : ∀ g' ∈ g :: gs, g'.is_async = 0 := fun g' hg => eq_of_beq (List.all_eq_true.mp hall g' hg)
    unfold okScope at hok
    simp only [Bool.and_eq_true, List.all_eq_true, Bool.or_eq_true] at hok
    obtain ⟨hkind, hnames⟩ := hok
    have hkind : scope.kind = .function := eq_of_beq hkind
    have hnames : ∀ y ∈ scope.names, y.2 = .local → scope.names.lookup y.1 = some .local := fun y hy e => by
      rcases hnames y hy with z | z
      · rw [e] at z
        exact absurd z (by decide)
      · exact eq_of_beq z
    split at h
    · rename_i l hl
      have hclos : closureFor scope env = pure (l.map fun p => (p.1, (ρ[p.2]?).getD 0)) := closureFor_X (cx := cx) (f := fun i => (ρ[i]?).getD 0) (fun x k hx => by
        obtain ⟨c, h1, h2⟩ := H.ok.cel x k hx
        rw [h1, h2]; rfl) hl
      have hcl : ∀ ρ₁, Grow ρ ρ₁ → ∀ x k, l.lookup x = some k → ∃ c, (l.map fun p => (p.1, (ρ[p.2]?).getD 0)).lookup x = some c ∧ ρ₁[k]? = some c := by
        intro ρ₁ g x k hx
        have hcx : cx.cel.lookup x = some k := (closX_mem hl _ (lookup_memX hx)).resolve_left (fun h => nomatch h)
        obtain ⟨c, _, h2⟩ := H.ok.cel x k hcx
        refine ⟨c, ?_, g _ _ h2⟩
        rw [lookup_mapX (f := fun i => (ρ[i]?).getD 0), hx]
        simp [h2]
      have go : SrcPost R g.target (fun items keep unf led => keep (led ++ cNew scope.names) ∧
        compP (led.length + (cNew scope.names).length) (xTurn r (cxIn cx scope (cIdx led.length scope.names l)) g (xGens r (cxIn cx scope (cIdx led.length scope.names l)) elt gs)) keep items [] [] (led ++ cNew scope.names)
          fun _ acc led2 => ∃ led₂, TrimC led.length [] acc (unf led2) led₂ [] ∧ K acc led₂) ρ ex m s
          (fun it s₂ => wpAny R.M R.A (newList []) (fun acc s₃ => wpAny R.M R.A (newFunctionEnv scope env.globals (l.map fun p => (p.1, (ρ[p.2]?).getD 0)) [] env.qual none .none (some env)) (fun cenv s₄ =>
            codeAny R.M R.A (.compStart (.ListComp elt (g :: gs) scope pos) 0 it acc { cenv with scope := relabel scope env }) (compPost R.M R.A E use Q acc cenv.locals) s₄) E s₃) E s₂) := by
        intro items keep unf ρ1 led1 h1 tk1 I it fp Pv St k1 g1 F1 S1 hI X st kp back _
        refine wpAny_newObj_type ?_
        obtain ⟨S2, hD⟩ := S1.push F1 { cls := .type "list", dict := none, data := .seq ([] : List Value).toArray } rfl (fun _ => True.intro)
        refine newEnv_C (s := { s with heap := h1.push { cls := .type "list", dict := none, data := .seq ([] : List Value).toArray }, toks := tk1 }) (F1.push _) S2 (hcl ρ1 g1) ?_
        intro C oC ρ2 h2 cells g2 F2 S3 hC n hcells
        have hg : (g :: gs)[0]? = some g := rfl
        have h0 := hall _ (List.mem_of_getElem? hg)
        have st2 : St 0 h2 := X.kept (ex₂ := (I, it) :: ex) st S1 (.head _) Grow.refl kp S3 (.tail _ (.tail _ (.head _))) g2 k1.1
        refine start_C hg h0 (loop_C S hg h0 (fun g' h => hall _ (List.mem_of_getElem? h)) (gens_C S hall gs 0 rfl) X (Nat.le_of_eq (by rw [S3.length, List.length_append])) g2 st2 k1.1 k1.2
          (show AtC R (cxIn cx scope (cIdx led1.length scope.names l)) (compEnvC scope cells C env) ρ2 (led1 ++ cNew scope.names) ((h1.objs.size, LCg.lst []) :: (I, it) :: ex) C [] m _ from ⟨envIn_X H.ok hkind hcells, rfl, F2, hC, oC, _, n, FrR.nil, S3⟩) hD hI True.intro ?_) (fun Q E q => X.W.self 0 _ Q E st2 q)
        intro ρ₃ led₃ loc₃ acc₃ ys₃ h₃ tk₃ kp₃ ⟨led₄, ⟨_, ht⟩, k₃⟩ g₃ hr₃ H₃
        obtain ⟨oC₃, m₃, n₃, f₃, S₃⟩ := H₃.st
        have S₄ := back _ _ _ _ (g2.trans g₃) kp₃ S₃
        rcases ht with rfl | ⟨t1, t2, t3, t4, rfl⟩
        · exact P acc₃ ys₃ ρ₃ _ h₃ tk₃ C oC₃ _ k₃ ((g1.trans g2).trans g₃) hr₃ H₃.fr S₄ H₃.off (fun p hp => hD p (.tail _ hp)) ⟨m₃, n₃⟩
        · exact P acc₃ ys₃ (ρ₃.take led1.length) _ h₃ tk₃ C oC₃ _ k₃ (g1.trans ((g2.trans g₃).take (Nat.le_of_eq S1.length))) (hr₃.take t4) H₃.fr (S₄.take t2) H₃.off (fun p hp => hD p (.tail _ hp)) ⟨m₃, n₃⟩
      obtain ⟨q1, q2⟩ := src_X S h H go (E := E)
      have hf : firstAsync (g :: gs) = false := by
        obtain ⟨t, it, ifs, a⟩ := g
        have : a = 0 := hall _ (.head _)
        subst this; rfl
      have hi : firstIter (g :: gs) env = eval g.iter env := by cases g; rfl
      rw [hf, hi]
      exact wpAny_comprehension_free (g := g) (gs := gs) rfl q2 hclos hkind hnames q1
    · exact False.elim h
set_option tactic.hygienic false in
theorem Sim.letGo {h h' : Heap} {oC : Obj} (S : Sim R h ρ led ((C, oC) :: ex)) (hC : AllNe C ex) (hs : Heap.SameBut C h h') : Sim R h' ρ led ex := by
  obtain ⟨es, W, d, N⟩ := S
  have hne := d.head hC
  refine ⟨es, W, d.sub fun q hq => .tail _ hq, fun q hq => ?_⟩
  have z := N q ((List.mem_append.mp hq).elim (List.mem_append_left _) fun h => List.mem_append_right _ (.tail _ h))
  exact ⟨hs.extBut _ _ (hne q hq) z.1, z.2⟩
set_option tactic.hygienic false in
theorem lst_rep {acc : List SV} {ys : List Value} (h : RepL ρ acc ys) {D : Addr} : RepO (ρ ++ [D]) (.list acc) (LCg.lst ys) := ⟨ys, _, h.mono Grow.app, rfl⟩
set_option tactic.hygienic false in
theorem own_last {ob : Obj} {h : Heap} (S : Sim R h ρ led ((D, ob) :: ex)) : (ρ ++ [D])[led.length]? = some D := by
  rw [← S.length]; simp
set_option tactic.hygienic false in
theorem compE_X (S : SndR r) {elt : Expr} {gens : List Comprehension} {scope : Scope} {pos : Pos} {K : SV → Led → Prop} {Q E : Value → Shared → Prop} (h : xComp r cx elt gens scope loc led fun acc led => K (.loc led.length) (led ++ [.list acc])) (H : Here R cx env ρ led ex loc m s) (P : PostE R K ρ ex m s Q) :
    wpAny R.M R.A (eval (.ListComp elt gens scope pos) env) Q E s := by
  rw [eval_ListComp]
  refine comp_C S h H ?_
  intro acc ys ρ' led' h' tk' C oC D k g hr F S' hC hD ⟨m₂, n⟩
  have z := S'.exGet (.head _)
  refine ⟨m₂, n.ns z.1, fun h₂ hs => ?_⟩
  have S₂ := S'.letGo hC hs
  exact P (.loc led'.length) (.ref D) (ρ' ++ [D]) _ h₂ tk' k (g.trans Grow.app) ⟨D, own_last S₂, rfl⟩ (F.change hs z.2.1 z.2.2) (S₂.own hD (lst_rep hr))
theorem assignC_X (S : SndR r) {elt : Expr} {gens : List Comprehension} {scope : Scope} {x : Str} {px pos spos : Pos} {K : Fl → Loc → Led → Prop} {Q : Flow → Shared → Prop} {E : Value → Shared → Prop}
    (h : xComp r cx elt gens scope loc led fun acc led => xstore cx x (.loc led.length) loc (led ++ [.list acc]) fun loc led => K .next loc led) (hsw : swapsWith (.ListComp elt gens scope pos) (some (.Name x px)) spos.line R.env = pure true) (H : At R cx ρ led ex loc m s) (P : PostS R K ρ ex s Q) :
    wpAny R.M R.A (exec (.Assign [.Name x px] (.ListComp elt gens scope pos) spos) R.env) Q E s := by
  rw [exec_Assign_Name_used _ _ _ _ hsw]
  refine wpAny_bind (wpAny_standAt (wpAny_bind ?_))
  show wpAny _ R.A (do let _ ← comprehension (.ListComp elt gens scope pos) scope R.env _ (newList []) (firstAsync gens) (firstIter gens R.env) (some (assign (.Name x px) R.env))) _ _ s
  refine wpAny_bind (wpAny_mono (comp_C (Q := fun _ s' => Q .next s') S h H.here ?_) (fun _ _ q => wpAny_pure (wpAny_pure q)) fun _ _ e => e)
  intro acc ys ρ' led' h' tk' C oC D k g hr F S' hC hD ⟨m₂, n⟩
  have hDC : D ≠ C := hC _ (.head _)
  have S₁ : Sim R h' (ρ' ++ [D]) (led' ++ [.list acc]) ((C, oC) :: ex) := (S'.sub (ex' := (D, LCg.lst ys) :: (C, oC) :: ex) fun p hp => mem_ba hp).own (fun p hp => by
    rcases List.mem_cons.mp hp with rfl | hp
    · exact Ne.symm hDC
    · exact hD p hp) (lst_rep hr)
  refine wpAny_assign_Name (store_X (s := { s with heap := h', toks := tk' }) k ⟨H.ok.mono (g.trans Grow.app), F, S₁, H.loc.mono (g.trans Grow.app)⟩ ⟨D, own_last (S'.sub (ex' := (D, LCg.lst ys) :: ex) fun p hp => .tail _ hp), rfl⟩ ?_)
  intro loc2 led2 m2 h2 tk2 k2 F2 l2 S2
  have z := S2.exGet (.head _)
  refine ⟨m₂, n.ns z.1, fun h₃ hs => ?_⟩
  exact P .next .next loc2 (ρ' ++ [D]) led2 m2 h₃ tk2 k2 (g.trans Grow.app) rfl (F2.change hs z.2.1 z.2.2) l2 (S2.letGo (fun p hp => hC p (.tail _ hp)) hs)
end
end Mine
end
section
open PySem PySem.W PyProof.Rows PySem.Calls PyProof.V PySem.Spec
namespace Mine
noncomputable def bindLoc (scope : Scope) : List Str → List SV → Option Loc
  | [], [] => some []
  | x :: xs, v :: vs => (bindLoc scope xs vs).map fun l => if scope.names.lookup x = some .local then (x, v) :: l else l
  | _, _ => none
set_option tactic.hygienic false in
theorem zip_fst {ps : List Str} {xs : List Value} : ∀ p ∈ ps.zip xs, p.1 ∈ ps := fun p hp => (List.of_mem_zip hp).1
set_option tactic.hygienic false in
theorem bindLoc_len {scope : Scope} (ps : List Str) : ∀ {vs : List SV} {loc : Loc}, bindLoc scope ps vs = some loc → ps.length = vs.length := by
  induction ps with
  | nil => intro vs loc h; cases vs with
    | nil => rfl
    | cons v vs => cases h
  | cons p ps ih => intro vs loc h; cases vs with
    | nil => cases h
    | cons v vs =>
      unfold bindLoc at h
      cases hb2 : bindLoc scope ps vs with
      | none => rw [hb2] at h; cases h
      | some l => rw [List.length_cons, List.length_cons, ih hb2]
noncomputable def bodyK (K : SV → Led → Prop) : Fl → Loc → Led → Prop := fun fl _ led => match fl with
  | .ret v => K v led
  | .next => K .none led
  | _ => False
noncomputable def bodyL : FuncBody → List Stmt
  | .stmts b => b
  | _ => []
noncomputable def isStmts : FuncBody → Bool
  | .stmts _ => true
  | _ => false
noncomputable def BindOk (d : CloD) (ps : List Str) : Prop := ∀ fd : FuncData, fd.params = d.params → fd.defaults = .none → fd.kwdefaults = .none → ∀ xs : List Value, xs.length = ps.length → bindArgs fd ⟨xs, []⟩ = pure (ps.zip xs)
noncomputable def plainNames (scope : Scope) (ps : List Str) : Bool :=
  (scope.names.all fun y => y.2 != .cell) && (ps.all fun p => scope.names.lookup p == some .local) && (scope.kind == .function) && !scope.isCoroutine && !scope.isGenerator && decide ps.Nodup
noncomputable def cxClo (cx : Cx) (k : Nat) (d : CloD) (cells : List (Str × Nat)) : Cx := { kind := fun x => d.scope.names.lookup x, cel := cells, glob := cx.glob, fn := fun _ => none, room := k, tab := none }
structure xClo (r : Rec) (cx : Cx) (d : CloD) (cells : List (Str × Nat)) (vs : List SV) (led : Led) (K : SV → Led → Prop) : Prop where
  out : match cx.room with
  | 0 => False
  | k + 1 => ∃ ps, BindOk d ps ∧ (isStmts d.body && plainNames d.scope ps) = true ∧ match bindLoc d.scope ps vs with
    | some loc => r.xs (cxClo cx k d cells) (bodyL d.body) loc led (bodyK K)
    | none => False
section
variable {R : Rt} {cx : Cx} {env : Env} {ρ ρ' : List Addr} {led led' : Led} {ex : CbLed} {loc : Loc} {m : Str → Option Value} {s : Shared} {h' : Heap} {tk' : Nat} {r : Rec}
theorem leave_X (S : SndR r) {R' : Rt} {cx : Cx} {body : List Stmt} {m' : Str → Option Value} {RR : Result → Shared → Prop} {K : SV → Led → Prop} {Q EE : Value → Shared → Prop} {h₁ : Heap} {tk : Nat} (hRR : ∀ v s, Q v s → RR (.ok (.ret v)) s)
    (P : PostE R K ρ ex m s Q) (g : Grow ρ ρ') (hs : r.xs cx body loc led (bodyK K)) (H : At R' cx ρ' led ex loc m' { s with heap := h₁, toks := tk }) (hE : PassesOwn R'.M R'.A R'.env EE) :
    wpAny R'.M R'.A (execs body R'.env) (fun fl s' => LeaveK R.h₀ R.L m R'.h₀ RR (match fl with | .ret v => v | _ => .none) s') EE { s with heap := h₁, toks := tk } := by
  refine S.xs hs H ?_ hE
  intro fl flv loc' ρ2 led' m2 h' tk' k' g' rf F2 l2 S2
  obtain ⟨es', W', d2, N2⟩ := S2
  cases fl with
  | ret v =>
    obtain ⟨y, ry, rfl⟩ := rf
    exact ⟨R'.L, m2, _, F2, N2, fun F3 N3 => hRR _ _ (P v y ρ2 led' h' tk' k' (g.trans g') ry F3 ⟨es', W', d2, N3⟩)⟩
  | next =>
    have e : flv = .next := rf
    subst e
    exact ⟨R'.L, m2, _, F2, N2, fun F3 N3 => hRR _ _ (P .none .none ρ2 led' h' tk' k' (g.trans g') rfl F3 ⟨es', W', d2, N3⟩)⟩
  | _ => exact False.elim k'
set_option tactic.hygienic false in
theorem zip_rep {ρ : List Addr} {scope : Scope} (ps : List Str) : ∀ {vs : List SV} {xs : List Value} {loc : Loc} {acc : List (Str × Value)}, bindLoc scope ps vs = some loc → RepL ρ vs xs → ps.Nodup → (∀ p ∈ ps, acc.lookup p = none) → FrR ρ loc (fun y => ((ps.zip xs).reverse ++ acc).lookup y) := by
  induction ps with
  | nil =>
    intro vs xs loc acc h hr _ _
    cases vs with
    | nil =>
      injection h with h
      subst h
      intro x v e; cases e
    | cons v vs => cases h
  | cons p ps ih =>
    intro vs xs loc acc h hr hn hacc
    cases vs with
    | nil => cases h
    | cons v vs =>
      cases xs with
      | nil => exact hr.elim
      | cons y ys =>
        unfold bindLoc at h
        cases hb : bindLoc scope ps vs with
        | none => rw [hb] at h; cases h
        | some l =>
          rw [hb] at h
          injection h with h
          have hn1 := List.nodup_cons.mp hn
          rw [List.zip_cons_cons, List.reverse_cons, List.append_assoc]
          have go := ih (acc := (p, y) :: acc) hb hr.2 hn1.2 (fun q hq => by
            rw [List.lookup_cons, beq_false_of_ne (fun e => hn1.1 (by rw [← e]; exact hq))]
            exact hacc q (.tail _ hq))
          by_cases hp : scope.names.lookup p = some .local
          · simp only [if_pos hp] at h
            subst h
            intro x w e
            rw [List.lookup_cons] at e
            cases hx : x == p with
            | false => rw [hx] at e; exact go x w e
            | true =>
              rw [hx] at e
              injection e with e
              subst e
              refine ⟨y, ?_, hr.1⟩
              have exp : x = p := eq_of_beq hx
              subst exp
              show ((ps.zip ys).reverse ++ (x, y) :: acc).lookup x = some y
              have hnone : (ps.zip ys).reverse.lookup x = none := by
                rw [List.lookup_eq_none_iff]
                intro q hq
                have z := zip_fst q (List.mem_reverse.mp hq)
                have hne : x ≠ q.1 := fun e => hn1.1 (by rw [e]; exact z)
                simp [hne]
              rw [List.lookup_append, hnone, List.lookup_cons, beq_self_eq_true]; rfl
          · simp only [if_neg hp] at h
            subst h
            exact go
set_option tactic.hygienic false in
theorem clo_X (S : SndR r) {k : Nat} {d : CloD} {cells : List (Str × Nat)} {c : Addr} {vs : List SV} {x : Value} {xs : List Value} {K : SV → Led → Prop} {Q E : Value → Shared → Prop}
    (h : xClo r cx d cells vs led K) (ho : led[k]? = some (.clo d cells c none)) (hx : Rep ρ (.loc k) x) (hr : RepL ρ vs xs) (H : Here R cx env ρ led ex loc m s) (P : PostE R K ρ ex m s Q) : wpAny R.M R.A (call x xs) Q E s := by
  replace h := h.out
  cases hroom : cx.room with
  | zero => rw [hroom] at h; exact h.elim
  | succ n =>
    rw [hroom] at h
    obtain ⟨ps, hb, hp, h⟩ := h
    cases hbind : bindLoc d.scope ps vs with
    | none => rw [hbind] at h; exact h.elim
    | some loc2 =>
      rw [hbind] at h
      dsimp only at h
      obtain ⟨a, ha, rfl⟩ := hx
      obtain ⟨es, W, dd, N⟩ := H.sim
      obtain ⟨ob, hm, doc, pm, ctv, od, hcl, hod, rfl⟩ := dd.e.get ha ho
      have hod : od = none := hod
      subst hod
      have hcode := dd.co _ (List.mem_append_left _ hm)
      obtain ⟨c', hc', oc, hocm, ⟨vv, tq, hd1, hd2⟩, _⟩ := hcode
      have hc' : Value.ref c = Value.ref c' := hc'
      injection hc' with hc'
      subst hc'
      have hR := H.ok.ok
      rw [hroom] at hR
      obtain ⟨name, qual, params, body, scope⟩ := d
      unfold plainNames at hp
      simp only [Bool.and_eq_true, decide_eq_true_eq, Bool.not_eq_true'] at hp
      obtain ⟨hst, ⟨⟨⟨⟨hp1, hp2⟩, hp3⟩, hp4⟩, hp5⟩, hp6⟩ := hp
      cases body with
      | stmts body =>
        have hpl := bindLoc_len ps hbind
        have hlen : xs.length = ps.length := by rw [← hr.length, hpl]
        have hloc : ∀ p ∈ ps.zip xs, scope.names.lookup p.1 = some .local := fun p hp => eq_of_beq (List.all_eq_true.mp hp2 p.1 (zip_fst p hp))
        have hm' : (a, cloOb ⟨name, qual, params, .stmts body, scope⟩ (cellsOf ρ cells) doc pm c ctv none) ∈ es ++ (ex ++ W) := List.mem_append_left _ hm
        refine wpAny_call (kdv_code (K := hd.heap_39 R.w.params) (binds := ps.zip xs) hR.below H.fr hR.inn N hR.top rfl rfl hR.kind hm' ⟨c, oc, vv, tq, rfl, (N _ (List.mem_append_right _ (List.mem_append_right _ hocm))).1, hd1, hd2⟩
          (by have := hR.dep; show R.dp < _; omega) (BindsTo.of_eq (hb _ rfl rfl rfl xs hlen)) hloc ?_ hp4 hp5 (eq_of_beq hp3) ?_)
        · intro g L' h₁ FG F' N' B' X' T'
          let R' : Rt := ⟨R.w, R.mean, R.mg, R.mb, R.loose, R.dp + 1, R.un + 3, R.gd, qual, scope, a, .ref c, cellsOf ρ cells, R.env :: R.outer, R.A, R.base, g, L'⟩
          have hR' : R'.Ok n (3 * n + 100) := ⟨B', X', T', hR.code, eq_of_beq hp3, by have := hR.dep; show R.dp + 1 + n < _; omega, by have := hR.uni; show R.un + 3 + (3 * n + 100) < _; omega⟩
          have F2 : FrR ρ loc2 (fun y => (ps.zip xs).reverse.lookup y) := by
            have z := zip_rep (acc := []) ps hbind hr hp6 (fun _ _ => rfl)
            simpa using z
          refine leave_X (R := R) (R' := R') S (fun v s q => q) P Grow.refl h ⟨⟨hR', eq_of_beq hp3, fun _ => rfl, ?_, fun x v e m s Q E F q => H.ok.globs R' (hR'.mono (Nat.zero_le _) (Nat.zero_le _)) x v e m s Q E F q, H.ok.globs, (fun q sp e => nomatch e), (fun t e => nomatch e), (fun _ _ e => nomatch e)⟩, F', ⟨es, W, dd, N'⟩, F2⟩ (by passes_own)
          · intro x i hx
            have hx : cells.lookup x = some i := hx
            have hmem := lookup_memX hx
            refine ⟨(ρ[i]?).getD 0, ?_, ?_⟩
            · show (cellsOf ρ cells).lookup x = _
              unfold cellsOf
              rw [lookup_mapX (f := fun i => (ρ[i]?).getD 0), hx]; rfl
            · rw [List.getElem?_eq_getElem (hcl _ hmem)]; rfl
        · intro y hy e
          have z := List.all_eq_true.mp hp1 y hy
          rw [e] at z
          exact absurd z (by decide)
      | _ => cases hst
end
end Mine
end
section
open PySem PySem.W PyProof.Rows PySem.Calls PyProof.V PySem.Spec
namespace Mine
noncomputable def specOk (t : TabD) (pos : Pos) (qual : Str) : Bool :=
  t.specs.any (fun s => s.1 == (pos.line : Int) && s.2.1 == (pos.col : Int) && s.2.2 == qual) && t.specs.all (fun s => !(s.1 == (pos.line : Int) && s.2.1 == (pos.col : Int)) || s.2.2 == qual)
noncomputable def xDef (cx : Cx) (name : Str) (params : Arguments) (body : List Stmt) (scope : Scope) (bind : Str) (pos : Pos) (loc : Loc) (led : Led) (K : Fl → Loc → Led → Prop) : Prop :=
  match cx.tab with
  | some t => match closX cx.cel scope.names [] with
    | some l => (name == bind && params.defaults.isEmpty && params.kw_defaults.isEmpty && cx.kind name != some .globalExplicit && specOk t pos (t.qn ++ ".<locals>." ++ name)) = true ∧ (∀ env, annTrees params none env = []) ∧
        ∀ c, xstore cx name (.loc led.length) loc (led ++ [.clo ⟨name, t.qn ++ ".<locals>." ++ name, params, .stmts body, scope⟩ l c none]) fun loc led => K .next loc led
    | none => False
  | none => False
section
variable {R : Rt} {cx : Cx} {ρ ρ' : List Addr} {led led' : Led} {ex : CbLed} {loc : Loc} {m : Str → Option Value} {s : Shared} {h' : Heap} {tk' : Nat} {r : Rec}
theorem Dat.grow {es W W1 : CbLed} (d : Dat ρ led ex es W) (tb : TabsM W1) (keep : ∀ c q, CodeAt W c q → CodeAt W1 c q) (aw : Ap (es ++ ex) W1) : Dat ρ led ex es W1 :=
  ⟨d.e, d.nd, d.ap, tb, aw, fun p hp => by
    have z := d.co p hp
    unfold CodeOb at z ⊢
    split
    · rename_i fd hfd
      rw [hfd] at z
      obtain ⟨c, h1, h2⟩ := z
      exact ⟨c, h1, keep _ _ h2⟩
    · exact True.intro⟩
set_option tactic.hygienic false in
theorem make_X {name qual : Str} {params : Arguments} {body : FuncBody} {scope : Scope} {pos : Pos} {fl : Nat} {t : TabD} {l : List (Str × Nat)} {K : SV → Led → Prop} {Q E : Value → Shared → Prop}
    {env : Env} (H : Here R cx env ρ led ex loc m s) (ht : cx.tab = some t) (hl : closX cx.cel scope.names [] = some l) (hs : specOk t pos qual = true) (k : ∀ c, K (.loc led.length) (led ++ [.clo ⟨name, qual, params, body, scope⟩ l c none])) (P : PostE R K ρ ex m s Q) :
    wpAny R.M R.A (makeFunction name qual params body scope env [] [] [] pos fl) Q E s := by
  obtain ⟨htm, hccd, hcn, rfl⟩ := H.ok.tab t ht
  have hclos : closureFor scope R.env = pure (cellsOf ρ l) := closureFor_X (cx := cx) (f := fun i => (ρ[i]?).getD 0) (fun x k hx => by
    obtain ⟨c, h1, h2⟩ := H.ok.cel x k hx
    rw [h1, h2]; rfl) hl
  have hcells : ∀ p ∈ l, p.2 < ρ.length := fun p hp => by
    obtain ⟨c, _, h2⟩ := H.ok.cel p.1 p.2 ((closX_mem hl _ hp).resolve_left (fun h => nomatch h))
    exact ltOf h2
  unfold specOk at hs
  rw [Bool.and_eq_true, List.any_eq_true, List.all_eq_true] at hs
  obtain ⟨⟨sp, hsp, hsp2⟩, hall⟩ := hs
  rw [Bool.and_eq_true, Bool.and_eq_true, beq_iff_eq, beq_iff_eq, beq_iff_eq] at hsp2
  obtain ⟨⟨e1, e2⟩, e3⟩ := hsp2
  obtain ⟨es, W, d, N⟩ := H.sim
  obtain ⟨made, hm, hmade⟩ := d.tb.tab t htm
  have C : CodeHd R.h₀ t.C t.P := (H.ok.ok.code t htm).keeps H.ok.ok.below.stays
  rw [makeFunction_eq]
  simp only [List.zip_nil_right, List.filterMap_nil, List.isEmpty_nil, if_true, pure_bind]
  have N2 : News R.h₀ R.L s.heap (W ++ (es ++ ex)) := cb_drop N fun p hp => by
    rcases List.mem_append.mp hp with hp | hp
    · exact List.mem_append_right _ (List.mem_append_right _ hp)
    · rw [← List.append_assoc]; exact List.mem_append_left _ hp
  have hgr : Grow ρ (ρ ++ [0]) := Grow.app
  have rep : ∀ (D c : Addr) (doc pm ctv : Value), RepO (ρ ++ [D]) (.clo ⟨name, qual, params, body, scope⟩ l c none) (cloOb ⟨name, qual, params, body, scope⟩ (cellsOf ρ l) doc pm c ctv none) := fun D c doc pm ctv =>
    ⟨doc, pm, ctv, none, fun p hp => Nat.lt_of_lt_of_le (hcells p hp) (by rw [List.length_append]; exact Nat.le_add_right _ _), rfl, by rw [(Grow.app (ρ := ρ) (a := [D])).mv.cells (n := ρ.length) hcells hcells]⟩
  cases hf : codeAmong pos (flatM made) with
  | none =>
    refine kdv_nest (ps := (flatM made).toArray) H.fr N2 H.ok.ok.top C hccd (updF_put d.tb.nd hm fun p hp e => d.aw p hp _ hm e.symm) (flatM_ok made) hf hclos ?_
    intro f c' oc vs tq ctv doc h' tk F' N' hd1 hd2 hlt hcf
    have hlt3 : ∀ p ∈ es ++ (ex ++ W), @LT.lt Nat _ p.1 c' := fun p hp => hlt p (by
      rw [← List.append_assoc] at hp
      exact (List.mem_append.mp hp).elim (List.mem_append_right _) (List.mem_append_left _))
    obtain ⟨tb, keep⟩ := d.tb.more (x := ⟨sp.1, sp.2.1, sp.2.2, c'⟩) (oc := oc) htm hm hmade (by rw [e3]; exact ⟨vs, tq, hd1, hd2⟩) hsp (fun p hp => hlt3 p (List.mem_append_right _ (List.mem_append_right _ hp)))
    have ep : (flatM made).toArray ++ #[rawInt pos.line, rawInt pos.col, Value.ref c'] = (flatM (made ++ [⟨sp.1, sp.2.1, sp.2.2, c'⟩])).toArray := by
      rw [flatM_app, e1, e2]; simp
    rw [ep] at N'
    have hcode : CodeAt ((c', oc) :: putE t.P (tabObj (flatM (made ++ [⟨sp.1, sp.2.1, sp.2.2, c'⟩])).toArray) W) c' qual := ⟨oc, .head _, ⟨vs, tq, hd1, hd2⟩, fun t₂ ht₂ => by
      obtain ⟨_, h2, _⟩ := d.tb.tab t₂ ht₂
      exact Nat.ne_of_gt (hlt3 _ (List.mem_append_right _ (List.mem_append_right _ h2)))⟩
    have d1 : Dat ρ led ex es ((c', oc) :: putE t.P (tabObj (flatM (made ++ [⟨sp.1, sp.2.1, sp.2.2, c'⟩])).toArray) W) := d.grow tb keep fun p hp q hq => by
      have hp2 : p ∈ es ++ (ex ++ W) := by rw [← List.append_assoc]; exact List.mem_append_left _ hp
      rcases List.mem_cons.mp hq with rfl | hq
      · exact Nat.ne_of_gt (hlt3 p hp2)
      · have hf : q.1 ∈ (putE t.P (tabObj (flatM (made ++ [⟨sp.1, sp.2.1, sp.2.2, c'⟩])).toArray) W).map Prod.fst := List.mem_map.mpr ⟨q, hq, rfl⟩
        rw [putE_fst] at hf
        obtain ⟨q2, hq2, e⟩ := List.mem_map.mp hf
        rw [← e]
        exact d.aw p hp q2 hq2
    have hlt4 : ∀ p ∈ es ++ (ex ++ ((c', oc) :: putE t.P (tabObj (flatM (made ++ [⟨sp.1, sp.2.1, sp.2.2, c'⟩])).toArray) W)), @LT.lt Nat _ p.1 f := fun p hp => by
      have key : ∃ q ∈ es ++ (ex ++ W), q.1 = p.1 ∨ p.1 = c' := by
        rcases List.mem_append.mp hp with hp | hp
        · exact ⟨p, List.mem_append_left _ hp, .inl rfl⟩
        rcases List.mem_append.mp hp with hp | hp
        · exact ⟨p, List.mem_append_right _ (List.mem_append_left _ hp), .inl rfl⟩
        rcases List.mem_cons.mp hp with rfl | hp
        · exact ⟨_, List.mem_append_right _ (List.mem_append_right _ hm), .inr rfl⟩
        · have hf : p.1 ∈ (putE t.P (tabObj (flatM (made ++ [⟨sp.1, sp.2.1, sp.2.2, c'⟩])).toArray) W).map Prod.fst := List.mem_map.mpr ⟨p, hp, rfl⟩
          rw [putE_fst] at hf
          obtain ⟨q2, hq2, e⟩ := List.mem_map.mp hf
          exact ⟨q2, List.mem_append_right _ (List.mem_append_right _ hq2), .inl e⟩
      obtain ⟨q, hq, e | e⟩ := key
      · rw [← e]; exact Nat.lt_trans (hlt3 q hq) hcf
      · rw [e]; exact hcf
    refine P.new (o := .clo ⟨name, qual, params, body, scope⟩ l c' none) F' d1 (cb_drop N' fun p hp => ?_) hlt4 (rep f c' doc ((R.mg "__name__").getD .none) ctv) (k c') (hc := ⟨c', rfl, hcode⟩)
    rcases List.mem_cons.mp hp with rfl | hp
    · exact .head _
    rcases List.mem_append.mp hp with hp | hp
    · exact .tail _ (.tail _ (List.mem_append_right _ (List.mem_append_left _ hp)))
    rcases List.mem_append.mp hp with hp | hp
    · exact .tail _ (.tail _ (List.mem_append_right _ (List.mem_append_right _ hp)))
    rcases List.mem_cons.mp hp with rfl | hp
    · exact .tail _ (.head _)
    · exact .tail _ (.tail _ (List.mem_append_left _ hp))
  | some v =>
    obtain ⟨mk, hmk, rfl, q1, q2⟩ := flatM_hit hf
    obtain ⟨hcode, hspec⟩ := hmade mk hmk
    have eq : mk.qual = qual := by
      have z := hall _ hspec
      rw [q1, q2] at z
      simpa using z
    refine kdv_hit (ps := (flatM made).toArray) H.fr N H.ok.ok.top C hccd (List.mem_append_right _ (List.mem_append_right _ hm)) (flatM_ok made) hf hclos ?_
    intro f ctv doc h' tk F' N' hlt
    exact P.new (o := .clo ⟨name, qual, params, body, scope⟩ l mk.c none) F' d N' hlt (rep f mk.c doc _ ctv) (k mk.c) (hc := ⟨mk.c, rfl, by rw [← eq]; exact hcode⟩)
end
end Mine
end
section
open PySem PySem.W PyProof.Rows PySem.Calls PyProof.V
open PySem.Builtin PySem.Builtin.ObjectAttr
namespace Mine
set_option tactic.hygienic false in
theorem store_function : StoreFacts "function" [.type "function", .type "object"] "object.__setattr__" "object" where
  mro := by kernel_rfl
  slot := .of (owner := "object") (n := "__setattr__") (by rw [typeLookup_type, builtinLookup_eq_fast]; kernel_rfl) (by decide +kernel) (by decide +kernel) (by decide +kernel)
    (by first | exact .inl (by decide +kernel) | exact .inr (by decide +kernel)) (by rw [isSubtype_type]; kernel_rfl)
  entry := PySem.F.entry_object_sa
  kind := by decide +kernel
  split := by decide +kernel
  hasOwner := by decide +kernel
  args := fun a b c => by unfold argsOk; kernel_rfl
  passes := fun self => by kernel_rfl
set_option tactic.hygienic false in
theorem fn_no_read : typeLookup (.type "function") (Str.ofString "read") = pure none := by rw [typeLookup_type, builtinLookup_eq_fast]; kernel_rfl
noncomputable def rdOb (ha : Int) (u : Tok) (v : Value) : Obj := { cls := .type "dict", data := .dict #[⟨ha, .str (Str.ofString "read") u, v⟩] 1 }
set_option tactic.hygienic false in
theorem put_read (ha : Int) (u : Tok) (v : Value) : Obj.putName (Str.ofString "read") ha (.str (Str.ofString "read") u) v emptyDict = rdOb ha u v := by
  unfold Obj.putName emptyDict
  rfl
theorem fn_set {prog : Program} {w : World} {A : Around} {E : Value → Shared → Prop} {Q : Unit → Shared → Prop} {s : Shared} {h₀ : Heap} {L f : Addr} {m : Str → Option Value} {pre post : CbLed} {o : Obj} {v : Value}
    (F : Fr h₀ L s.heap m) (N : News h₀ L s.heap (pre ++ (f, o) :: post)) (hc : o.cls = .type "function") (hd : o.dict = none) (hdat : ∃ fd, o.data = .func fd) (h1 : ∀ p ∈ pre, p.1 ≠ f) (h2 : ∀ p ∈ post, p.1 ≠ f)
    (h : ∀ d ha u h' tk, Fr h₀ L h' m → News h₀ L h' ((d, rdOb ha u v) :: (pre ++ (f, { o with dict := some d }) :: post)) → (∀ p ∈ pre ++ (f, o) :: post, p.1 < d) → Q () { s with heap := h', toks := tk }) :
    wpAny (model prog w) A (setAttr (.ref f) (Str.ofString "read") v) Q E s := by
  obtain ⟨hh, g, dr, t, os⟩ := s
  have hx := (N (f, o) (by simp)).1
  dsimp only at hx F N
  have tof : Looks (model prog w) hh (typeOf (.ref f)) (.type "function") := (Looks.ld hx).andThen (by rw [hc]; exact .now)
  have SF := store_function
  have sub : Looks (model prog w) hh (isInstance (.ref f) (.type "object")) true := tof.andThen (Looks.of_pure (by rw [isSubtype_type]; kernel_rfl))
  refine wpAny_bind (wpAny_mkText (wpAny_bind (wpAny_bind (wpAny_bind (tof.here ((Looks.of_pure SF.slot.lookup).here (wpAny_holding ?_)))))))
  rw [SF.slot.bind]
  refine wpAny_bind (wpAny_pure (wpAny_bind (wpAny_call ?_)))
  refine codeAny_call_builtin SF.slot.plain SF.entry (@check_slot (model prog w) _ _ _ "object.__setattr__" "object" "__setattr__" (.ref f) [.str _ t, v] [] _ SF.kind SF.split sub (SF.args (.ref f) (.str _ t) v) ?_)
  show wpAny (model prog w) A.in1 («object.__setattr__» ⟨[.ref f, .str (Str.ofString "read") t, v], []⟩) _ _ _
  rw [osa_eq, refuse_eq]
  refine wpAny_bind (wpAny_bind (tof.here (wpAny_bind ?_)))
  rw [SF.mro]
  refine wpAny_pure ?_
  rw [SF.passes]
  refine wpAny_pure (wpAny_bind (tof.here (wpAny_bind ((Looks.of_pure fn_no_read).here (wpAny_bind (wpAny_pure ?_))))))
  show wpAny (model prog w) A.in1 (storeInOwnDict (.ref f) (.type "function") (.str (Str.ofString "read") t) (Str.ofString "read") v false) _ _ _
  refine wpAny_bind (wpAny_pure (wpAny_bind (wpAny_bind (wpAny_loadPart hx ?_))))
  obtain ⟨oc, odi, oda, osl⟩ := o
  obtain ⟨fd, hdat⟩ := hdat
  dsimp only at hc hd hdat
  subst hc hd hdat
  dsimp only
  rw [if_neg (by decide +kernel)]
  have hx₁ : (hh.push emptyDict).get? f = some (⟨.type "function", none, .func fd, osl⟩ : Obj) := Heap.get?_push_of_some _ hx
  refine wpAny_bind (wpAny_alloc' (wpAny_bind (wpAny_update' hx₁ ?_)))
  have F1 := F.push emptyDict
  have N1 := N.push F emptyDict
  obtain ⟨U1, U2⟩ := news_upd (f := fun o => { cls := o.cls, dict := some hh.objs.size, data := o.data, slots := o.slots }) (pre := (hh.objs.size, emptyDict) :: pre) F1 N1 (fun p hp => by
    rcases List.mem_cons.mp hp with rfl | hp
    · exact Nat.ne_of_gt (Heap.lt_size hx)
    · exact h1 p hp) h2 rfl rfl
  have hdm : ∀ d, dictMade (.type "function") f d = pure (some d) := fun _ => rfl
  rw [hdm]
  refine wpAny_pure ?_
  show wpAny _ _ (storeInDict hh.objs.size (.str (Str.ofString "read") t) (Str.ofString "read") v) _ _ _
  unfold storeInDict newKeyGuard
  have D := (U2 (hh.objs.size, emptyDict) (.head _)).1
  refine wpAny_bind (wpAny_pure (wpAny_bind ?_))
  obtain ⟨V1, V2⟩ := news_upd (f := Obj.putName (Str.ofString "read") (PyData.keyHash w.params (Str.ofString "read")) (.str (Str.ofString "read") (t + 1)) v) (pre := []) U1 U2 (fun _ h => nomatch h) (fun p hp => by
    have : p.1 < hh.objs.size := by
      rcases List.mem_append.mp hp with hp | hp
      · exact Heap.lt_size (N p (List.mem_append_left _ hp)).1
      · rcases List.mem_cons.mp hp with rfl | hp
        · exact Heap.lt_size hx
        · exact Heap.lt_size (N p (List.mem_append_right _ (.tail _ hp))).1
    exact Nat.ne_of_lt this) (put_read _ _ _) rfl
  have D' := (V2 (hh.objs.size, rdOb _ _ _) (.head _)).1
  unfold nsSet
  refine wpAny_bind (wpAny_bind (wpAny_askSetting (wpAny_pure (wpAny_bind (wpAny_mkText (wpAny_bind (wpAny_loadPart D ?_)))))))
  dsimp only
  have c : (!(#[] : Array DictEntry).any (·.key.isStr (Str.ofString "read")) && (#[] : Array DictEntry).any (·.refKey)) = false := by simp
  rw [aRefKeyMayBeTheName_at, c]
  refine wpAny_updatePart D ?_
  refine wpAny_bind (wpAny_lookBehind D' (by exact pastItsLine_dict (by rw [sizeLine_eq]; show 1 ≤ _; decide)) ?_)
  refine wpAny_pure (wpAny_pure (wpAny_pure ?_))
  exact h _ _ _ _ _ V1 V2 fun p hp => Heap.lt_size (N p hp).1
end Mine
end
section
open PySem PySem.W PyProof.Rows PySem.Calls PyProof.V PySem.Spec
namespace Mine
set_option maxRecDepth 100000
noncomputable def attrL : List Str := [Str.ofString "lineno", Str.ofString "instream", Str.ofString "whitespace", Str.ofString "pushback"]
noncomputable def methL : List (Str × Addr) := [(Str.ofString "_read_char", 42), (Str.ofString "get_token", 49), (Str.ofString "push_token", 56)]
set_option tactic.hygienic false in
theorem attr_facts (w : World) : ∀ x ∈ attrL, (plainGet (hd.heap_39 w.params) 59 x = true ∧ takerIn (hd.heap_39 w.params) 59 x = some none) ∧ findIn (hd.heap_39 w.params) (.ref 59) x = some none := by
  intro x hx
  simp only [attrL, List.mem_cons, List.not_mem_nil, or_false] at hx
  rcases hx with rfl | rfl | rfl | rfl <;> exact ⟨⟨by kernel_rfl, by kernel_rfl⟩, by kernel_rfl⟩
set_option tactic.hygienic false in
theorem cls_facts (w : World) : (hasDictIn (hd.heap_39 w.params) 59 = true ∧ plainOver (hd.heap_39 w.params) 59 = true) ∧ findIn (hd.heap_39 w.params) (.ref 59) "__setattr__" = some (some (.builtin "object.__setattr__")) :=
  ⟨⟨by kernel_rfl, by kernel_rfl⟩, by kernel_rfl⟩
set_option tactic.hygienic false in
theorem meth_facts (w : World) : ∀ p ∈ methL, ((plainGet (hd.heap_39 w.params) 59 p.1 = true ∧ isFn (hd.heap_39 w.params) (.ref p.2) = true) ∧ takesIn (hd.heap_39 w.params) (.ref p.2) = some false ∧ copiedNames.contains p.1 = false ∧ fnIn (hd.heap_39 w.params) p.2 = true) ∧
    findIn (hd.heap_39 w.params) (.ref 59) p.1 = some (some (.ref p.2)) ∧ specialIn (hd.heap_39 w.params) (.ref p.2) "__get__" = some (some (.builtin "function.__get__")) := by
  intro p hp
  simp only [methL, List.mem_cons, List.not_mem_nil, or_false] at hp
  rcases hp with rfl | rfl | rfl <;> exact ⟨⟨⟨by kernel_rfl, by kernel_rfl⟩, by kernel_rfl, by decide +kernel, by kernel_rfl⟩, by kernel_rfl, by kernel_rfl⟩
noncomputable def isFnV : SV → Bool
  | .fn _ => true
  | _ => false
noncomputable def nsOf (ov : SV) (led : Led) : Option (List (Str × SV)) :=
  match ov with
  | .loc k => match led[k]? with
    | some (.inst d) => match led[d]? with
      | some (.ns l) => some l
      | _ => none
    | _ => none
  | _ => none
noncomputable def xGetA (ov : SV) (name : Str) (led : Led) (K : SV → Led → Prop) : Prop :=
  match nsOf ov led with
  | some l => match attrL.contains name with
    | true => match l.lookup name with
      | some v => isFnV v = false ∧ K v led
      | none => False
    | false => match methL.lookup name with
      | some f => match ov with
        | .loc k => l.lookup name = none ∧ K (.loc led.length) (led ++ [.meth f k])
        | _ => False
      | none => False
  | none => False
noncomputable def xSetA (ov : SV) (name : Str) (v : SV) (led : Led) (K : Led → Prop) : Prop :=
  match ov with
  | .loc k => match led[k]? with
    | some (.inst d) => match led[d]? with
      | some (.ns l) => match attrL.contains name with
        | true => l.length ≤ 900 ∧ K (led.set d (.ns (setL name v l)))
        | false => False
      | _ => False
    | some (.clo dd cells c none) => match name == Str.ofString "read" with
      | true => K (led.set k (.clo dd cells c (some led.length)) ++ [.ns [(Str.ofString "read", v)]])
      | false => False
    | _ => False
  | _ => False
section
variable {R : Rt} {cx : Cx} {env : Env} {ρ ρ' : List Addr} {led led' : Led} {ex : CbLed} {loc : Loc} {m : Str → Option Value} {s : Shared} {h' : Heap} {tk' : Nat} {r : Rec}
set_option tactic.hygienic false in
theorem lookup_memV : ∀ {l : List (Str × Addr)} {x : Str} {v : Addr}, l.lookup x = some v → (x, v) ∈ l
  | [], _, _, h => by cases h
  | (n, i) :: l, x, k, h => by
    rw [List.lookup_cons] at h
    cases hx : x == n with
    | true =>
      rw [hx] at h
      injection h with h
      rw [← h, show x = n from eq_of_beq hx]
      exact .head _
    | false => rw [hx] at h; exact .tail _ (lookup_memV h)
set_option tactic.hygienic false in
theorem isStr_eq {x name : Str} {u : Tok} : Value.isStr (.str x u) name = (name == x) := by
  show (x == name) = (name == x)
  rw [Bool.eq_iff_iff, beq_iff_eq, beq_iff_eq]
  exact eq_comm
set_option tactic.hygienic false in
theorem getL_rep {ρ : List Addr} {name : Str} : ∀ {l : List (Str × SV)} {es : List DictEntry}, RepN ρ l es → match l.lookup name with | some v => ∃ y, getL name es = some (some y) ∧ Rep ρ v y | none => getL name es = some none
  | [], [], _ => rfl
  | p :: l, e :: es, ⟨⟨u, hk⟩, hv, hr⟩ => by
    have z := getL_rep (name := name) hr
    have hi : e.key.isStr name = (name == p.1) := by rw [hk]; exact isStr_eq
    have hrk : e.refKey = false := by unfold DictEntry.refKey; rw [hk]
    rw [List.lookup_cons]
    unfold getL at z ⊢
    rw [List.find?_cons, List.any_cons, hrk, Bool.false_or, hi]
    cases hn : name == p.1 with
    | true => exact ⟨_, rfl, hv⟩
    | false => exact z
  | [], _ :: _, h => h.elim
  | _ :: _, [], h => h.elim
set_option tactic.hygienic false in
theorem putL_rep {ρ : List Addr} {name : Str} {v : SV} {y : Value} {hsh : Int} {u : Tok} (hv : Rep ρ v y) : ∀ {l : List (Str × SV)} {es : List DictEntry}, RepN ρ l es → RepN ρ (setL name v l) (putL name hsh (.str name u) y es)
  | [], [], _ => ⟨⟨u, rfl⟩, hv, True.intro⟩
  | p :: l, e :: es, ⟨⟨t, hk⟩, hw, hr⟩ => by
    have hi : e.key.isStr name = (name == p.1) := by rw [hk]; exact isStr_eq
    show RepN ρ (if p.1 = name then (p.1, v) :: l else p :: setL name v l) (if e.key.isStr name then ⟨e.hash, e.key, y⟩ :: es else e :: putL name hsh (.str name u) y es)
    rw [hi]
    by_cases hn : p.1 = name
    · rw [if_pos hn, hn, beq_self_eq_true, if_pos rfl]
      exact ⟨⟨t, by rw [← hn]; exact hk⟩, hv, hr⟩
    · rw [if_neg hn, beq_false_of_ne (Ne.symm hn), if_neg Bool.false_ne_true]
      exact ⟨⟨t, hk⟩, hw, putL_rep hv hr⟩
  | [], _ :: _, h => h.elim
  | _ :: _, [], h => h.elim
set_option tactic.hygienic false in
theorem RepN.length {ρ : List Addr} : ∀ {l : List (Str × SV)} {es : List DictEntry}, RepN ρ l es → es.length = l.length
  | [], [], _ => rfl
  | _ :: _, _ :: _, h => congrArg (· + 1) (RepN.length h.2.2)
  | [], _ :: _, h => h.elim
  | _ :: _, [], h => h.elim
set_option tactic.hygienic false in
theorem putL_len {name : Str} {hsh : Int} {key v : Value} : ∀ {es : List DictEntry}, (putL name hsh key v es).length ≤ es.length + 1
  | [] => Nat.le_refl _
  | e :: es => by
    unfold putL
    split
    · exact Nat.le_succ _
    · exact Nat.succ_le_succ putL_len
set_option tactic.hygienic false in
theorem handed {ρ : List Addr} {v : SV} {y : Value} (h : Rep ρ v y) (hf : isFnV v = false) : handedIn y = true := by
  cases v with
  | fn _ => cases hf
  | none => rw [show y = .none from h]; rfl
  | bool b => rw [show y = .bool b from h]; rfl
  | int z => obtain ⟨t, rfl⟩ := h; rfl
  | str z => obtain ⟨t, rfl⟩ := h; rfl
  | loc k => obtain ⟨a, _, rfl⟩ := h; rfl
theorem nsOf_inv {ov : SV} {l : List (Str × SV)} (h : nsOf ov led = some l) : ∃ k d, ov = .loc k ∧ led[k]? = some (.inst d) ∧ led[d]? = some (.ns l) := by
  unfold nsOf at h
  split at h
  · rename_i k
    split at h
    · rename_i d hk
      split at h
      · rename_i l' hd
        injection h with h
        subst h
        exact ⟨k, d, rfl, hk, hd⟩
      · cases h
    · cases h
  · cases h
inductive InstX (h : Heap) (ρ : List Addr) (led : Led) (ov : SV) (x : Value) (l : List (Str × SV)) : Prop
  | mk (k : Nat) (a : Addr) (d : Nat) (dx : Addr) (es : List DictEntry) (n : Nat) (e1 : ov = .loc k) (ha : ρ[k]? = some a) (e2 : x = .ref a) (hk : led[k]? = some (.inst d)) (hd : led[d]? = some (.ns l)) (hdx : ρ[d]? = some dx) (hr : RepN ρ l es) (I : InstAt h a (instObj 59 dx) 59 (some (dictOf es n)))
set_option tactic.hygienic false in
theorem inst_X {ov : SV} {x : Value} {l : List (Str × SV)} (h : nsOf ov led = some l) (hx : Rep ρ ov x) (S : Sim R s.heap ρ led ex) :
    InstX s.heap ρ led ov x l := by
  obtain ⟨k, d, rfl, hk, hd⟩ := nsOf_inv h
  obtain ⟨a, ha, rfl⟩ := hx
  obtain ⟨es, W, dd, N⟩ := S
  obtain ⟨ob, hm, dx, hdx, rfl⟩ := dd.e.get ha hk
  obtain ⟨ob2, hm2, ens, n, hr, rfl⟩ := dd.e.get hdx hd
  exact ⟨k, a, d, dx, ens, n, rfl, ha, rfl, hk, hd, hdx, hr, InstAt.of_news (sl := #[]) N (List.mem_append_left _ hm) (List.mem_append_left _ hm2)⟩
theorem getA_X {ov : SV} {x : Value} {name : Str} {b : Bool} {K : SV → Led → Prop} {Q E : Value → Shared → Prop} (h : xGetA ov name led K) (hR : (hd.heap_39 R.w.params).In R.h₀) (hx : Rep ρ ov x) (F : Fr R.h₀ R.L s.heap m) (S : Sim R s.heap ρ led ex) (P : PostE R K ρ ex m s Q) :
    wpAny R.M R.A (getAttr x name b) Q E s := by
  unfold xGetA at h
  split at h
  · rename_i l hl
    obtain ⟨k, a, d, dx, es, n, rfl, ha, rfl, hk, hd, hdx, hr, I⟩ := inst_X hl hx S
    obtain ⟨⟨c1, c2⟩, c3⟩ := cls_facts R.w
    have gl := getL_rep (name := name) hr
    split at h
    · rename_i hc
      have hmem : name ∈ attrL := by simpa using hc
      obtain ⟨⟨f1, f2⟩, f3⟩ := attr_facts R.w name hmem
      split at h
      · rename_i v hv
        rw [hv] at gl
        obtain ⟨y, g1, g2⟩ := gl
        exact get_own F hR I f1 c1 f3 rfl g1 (handed g2 h.1) (P.same F S h.2 g2)
      · exact False.elim h
    · split at h
      · rename_i f hf
        obtain ⟨⟨⟨q1, q2⟩, q3, q4, q5⟩, q6, q7⟩ := meth_facts R.w (name, f) (lookup_memV hf)
        dsimp only at h
        rw [h.1] at gl
        obtain ⟨es2, W, dd, N⟩ := S
        refine kbm_bound F hR N I q1 c1 q6 q2 q7 q3 q4 gl ?_
        intro q h2 F2 N2 hlt
        exact P.new (o := .meth f k) F2 dd N2 hlt ⟨a, Grow.app _ _ ha, rfl⟩ h.2 True.intro
      · exact False.elim h
  · exact False.elim h
theorem setA_X {ov v : SV} {x y : Value} {name : Str} {K : Led → Prop} {Q : Unit → Shared → Prop} {E : Value → Shared → Prop} (h : xSetA ov name v led K) (hR : (hd.heap_39 R.w.params).In R.h₀) (hx : Rep ρ ov x) (hy : Rep ρ v y) (F : Fr R.h₀ R.L s.heap m) (S : Sim R s.heap ρ led ex)
    (P : ∀ led' ρ' h' tk', K led' → Grow ρ ρ' → Fr R.h₀ R.L h' m → Sim R h' ρ' led' ex → Q () { s with heap := h', toks := tk' }) : wpAny R.M R.A (setAttr x name y) Q E s := by
  cases ov with
  | loc k =>
    unfold xSetA at h
    dsimp only at h
    split at h
    · rename_i d hk
      split at h
      · rename_i l hd
        split at h
        · rename_i hc
          have hmem : name ∈ attrL := by simpa using hc
          obtain ⟨⟨f1, f2⟩, f3⟩ := attr_facts R.w name hmem
          obtain ⟨⟨c1, c2⟩, c3⟩ := cls_facts R.w
          obtain ⟨a, ha, rfl⟩ := hx
          obtain ⟨ob0, es0, W0, ⟨dx, hdx, rfl⟩, hm0, N0⟩ := S.obj ha hk
          obtain ⟨ob, es, r, ⟨ens, n, hr, rfl⟩, N, hm, hnd, hne, up⟩ := S.upd hdx hd
          have I : InstAt s.heap a (instObj 59 dx) 59 (some (dictOf ens n)) := ⟨(N0 _ hm0).1, rfl, rfl, (N _ (List.mem_append_left _ hm)).1⟩
          have gl := getL_rep (name := name) hr
          refine set_dict F hR N I rfl c3 c2 f2 c1 ?_ rfl (upd_put hnd hm hne) (Nat.le_trans putL_len (by rw [hr.length]; omega)) ?_
          · cases hlk : l.lookup name with
            | none => rw [hlk] at gl; rw [gl]; rfl
            | some w => rw [hlk] at gl; obtain ⟨_, g1, _⟩ := gl; rw [g1]; rfl
          · intro h2 F2 N2
            exact P _ ρ h2 _ h.2 Grow.refl F2 (up (.ns (setL name v l)) _ h2 (fun _ _ => by exact True.intro) ⟨_, _, putL_rep hy hr, rfl⟩ N2)
        · exact False.elim h
      · exact False.elim h
    · rename_i dd cells c hk
      split at h
      · rename_i hc
        have hc : name = Str.ofString "read" := eq_of_beq hc
        subst hc
        obtain ⟨a, ha, rfl⟩ := hx
        obtain ⟨es, W, d, N⟩ := S
        obtain ⟨ob, hm, doc, pm, ctv, od, hcl, hod, rfl⟩ := d.e.get ha hk
        have hod : od = none := hod
        subst hod
        obtain ⟨pre, post, e1⟩ := List.append_of_mem hm
        have hnd := d.nds
        have hoff := d.off hm
        have ed := d.e
        rw [e1, List.map_append, List.map_cons] at hnd
        have hnd2 := List.nodup_append.mp hnd
        have N' : News R.h₀ R.L s.heap (pre ++ (a, cloOb dd (cellsOf ρ cells) doc pm c ctv none) :: (post ++ (ex ++ W))) := by
          rw [e1, List.append_assoc] at N; exact N
        refine fn_set F N' rfl rfl ⟨_, rfl⟩ ?_ ?_ ?_
        · intro p hp e
          exact hnd2.2.2 p.1 (List.mem_map.mpr ⟨p, hp, rfl⟩) a (.head _) e
        · intro p hp
          rcases List.mem_append.mp hp with hp | hp
          · exact fun e => (List.nodup_cons.mp hnd2.2.1).1 (e ▸ List.mem_map.mpr ⟨p, hp, rfl⟩)
          · exact hoff p hp
        · intro D ha' u h2 tk2 F2 N2 hlt
          have hD : AllNe D (es ++ (ex ++ W)) := fun p hp => by
            have hq : ∃ o, (p.1, o) ∈ pre ++ (a, cloOb dd (cellsOf ρ cells) doc pm c ctv none) :: (post ++ (ex ++ W)) := ⟨p.2, by rw [e1, List.append_assoc] at hp; exact hp⟩
            obtain ⟨o, ho⟩ := hq
            exact Nat.ne_of_lt (hlt (p.1, o) ho)
          have d1 := d.new (D := D) (o := .ns [(Str.ofString "read", v)]) (ob := rdOb ha' u y) hD ⟨[⟨ha', .str (Str.ofString "read") u, y⟩], 1, ⟨⟨u, rfl⟩, hy.mono Grow.app, True.intro⟩, rfl⟩ True.intro
          have hkl : k < led.length := (List.getElem?_eq_some_iff.mp hk).1
          have d2 := d1.set (k := k) (a := a) (o' := .clo dd cells c (some led.length)) (ob := cloOb dd (cellsOf ρ cells) doc pm c ctv (some D)) (Grow.app _ _ ha)
            ⟨doc, pm, ctv, some D, fun p hp => Nat.lt_of_lt_of_le (hcl p hp) (by rw [List.length_append]; exact Nat.le_add_right _ _), ⟨D, d.last, rfl⟩, by rw [(Grow.app (ρ := ρ) (a := [D])).mv.cells (n := ρ.length) hcl hcl]⟩ (d.co _ (List.mem_append_left _ hm))
          rw [List.set_append_left _ _ hkl] at d2
          refine P _ (ρ ++ [D]) h2 tk2 h Grow.app F2 ⟨_, W, d2, fun p hp => N2 p ?_⟩
          rcases List.mem_append.mp hp with hp | hp
          · obtain ⟨q, hq, e⟩ := List.mem_map.mp hp
            by_cases hqa : @Eq Nat q.1 a
            · rw [if_pos hqa] at e
              rw [← e, show q.1 = a from hqa]
              exact .tail _ (List.mem_append_right _ (.head _))
            · rw [if_neg hqa] at e
              subst e
              rcases List.mem_append.mp hq with hq | hq
              · rw [e1] at hq
                rcases List.mem_append.mp hq with hq | hq
                · exact .tail _ (List.mem_append_left _ hq)
                · rcases List.mem_cons.mp hq with rfl | hq
                  · exact absurd rfl hqa
                  · exact .tail _ (List.mem_append_right _ (.tail _ (List.mem_append_left _ hq)))
              · rw [List.mem_singleton.mp hq]; exact .head _
          · exact .tail _ (List.mem_append_right _ (.tail _ (List.mem_append_right _ hp)))
      · exact False.elim h
    · exact False.elim h
  | _ => exact False.elim h
end
end Mine
end
section
open PySem PySem.W PyProof.Rows PySem.Calls PyProof.V
open PySem.Builtin PySem.Builtin.ObjectAttr
namespace Mine
set_option tactic.hygienic false in
theorem slot_fga : Slot "function" "__getattribute__" "object.__getattribute__" :=
  .of (owner := "object") (n := "__getattribute__") (by rw [typeLookup_type, builtinLookup_eq_fast]; kernel_rfl) (by decide +kernel) (by decide +kernel) (by decide +kernel)
    (by first | exact .inl (by decide +kernel) | exact .inr (by decide +kernel)) (by rw [isSubtype_type]; kernel_rfl)
set_option tactic.hygienic false in
theorem fn_no_hook : typeLookup (.type "function") (Str.ofString "__getattr__") = pure none := by rw [typeLookup_type, builtinLookup_eq_fast]; kernel_rfl
set_option tactic.hygienic false in
theorem fga_entry : entryFor table "object.__getattribute__" = some Builtin.«object.__getattribute__» := entryFor_of_tree (by kernel_rfl)
set_option tactic.hygienic false in
theorem fga_args (a b : Value) : argsOk "object.__getattribute__" ⟨[a, b], []⟩ := by unfold argsOk; kernel_rfl
set_option tactic.hygienic false in
theorem fn_get {prog : Program} {w : World} {A : Around} {E : Value → Shared → Prop} {Q : Value → Shared → Prop} {s : Shared} {f d rf : Addr} {fd : FuncData} {osl : Array (Option Value)} {expr : Bool}
    {rob : Obj} (hx : s.heap.get? f = some ⟨.type "function", some d, .func fd, osl⟩) (hd : s.heap.get? d = some rob) (hrob : lookIn (Str.ofString "read") rob = some (some (.ref rf)))
    (h : Q (.ref rf) { s with toks := s.toks + 1 }) : wpAny (model prog w) A (getAttr (.ref f) (Str.ofString "read") expr) Q E s := by
  obtain ⟨hh, g, dr, t, os⟩ := s
  dsimp only at hx hd
  have tof : Looks (model prog w) hh (typeOf (.ref f)) (.type "function") := (Looks.ld hx).andThen .now
  have sub : Looks (model prog w) hh (isInstance (.ref f) (.type "object")) true := tof.andThen (Looks.of_pure (by rw [isSubtype_type]; kernel_rfl))
  have own : Looks (model prog w) hh (inOwnDict (Str.ofString "read") (.ref f)) (some (.ref rf)) := by
    have l1 : Looks (model prog w) hh (ownDict f) (some d) := (Looks.ld hx).andThen ((Looks.ld hx).andThen .now)
    have l2 : Looks (model prog w) hh (nsGet d (Str.ofString "read")) (some (.ref rf)) := (Looks.ld hd).andThen (Looks.of_pure (nsLook_of hrob))
    exact l1.andThen l2
  have fnd : Looks (model prog w) hh (find (.ref f) (.type "function") (Str.ofString "read")) (.value (.ref rf)) :=
    (Looks.of_pure fn_no_read).andThen (Looks.now.andThen (Looks.now.andThen (own.andThen (Looks.tag .now))))
  refine wpAny_bind (wpAny_mkText (wpAny_holding (wpAny_bind (tof.here (wpAny_bind ((Looks.of_pure slot_fga.lookup).here ?_))))))
  dsimp only
  show wpAny _ _ (getAttrByItsOwn _ _ _ _ _ _) _ _ _
  refine wpAny_bind (wpAny_pure (wpAny_bind (wpAny_attempt (wpAny_holding ?_))))
  unfold callGetattribute
  rw [show (expr && onTheHeap (Value.builtin "object.__getattribute__")) = false from Bool.and_false _, if_neg (by decide)]
  unfold boundAndCalled
  rw [slot_fga.bind]
  refine wpAny_bind (wpAny_pure ?_)
  show wpAny _ _ (call (.builtin "object.__getattribute__") [.ref f, .str (Str.ofString "read") t]) _ _ _
  refine wpAny_call ?_
  refine codeAny_call_builtin slot_fga.plain fga_entry ?_
  refine @check_slot (model prog w) _ _ _ "object.__getattribute__" "object" "__getattribute__" (.ref f) [.str (Str.ofString "read") t] [] _ (by decide +kernel) (by decide +kernel) sub (fga_args (.ref f) (.str (Str.ofString "read") t)) ?_
  refine wpAny_bind (wpAny_pure (wpAny_bind (wpAny_pure (wpAny_bind (tof.here (wpAny_bind (fnd.here ?_)))))))
  refine wpAny_pure ?_
  exact wpAny_pure h
set_option tactic.hygienic false in
theorem fn_method {prog : Program} {w : World} {A : Around} {E : Value → Shared → Prop} {pl : Sem Bool} {Q : Value × List Value → Shared → Prop} {s : Shared} {f d rf : Addr} {fd : FuncData} {osl : Array (Option Value)}
    {rob : Obj} (hx : s.heap.get? f = some ⟨.type "function", some d, .func fd, osl⟩) (hd : s.heap.get? d = some rob) (hrob : lookIn (Str.ofString "read") rob = some (some (.ref rf)))
    (h : Q (.ref rf, []) { s with toks := s.toks + 1 }) : wpAny (model prog w) A (getMethod (.ref f) (Str.ofString "read") pl) Q E s := by
  have hcan := PySem.F.canon_object_ga
  have tof : Looks (model prog w) s.heap (typeOf (.ref f)) (.type "function") := (Looks.ld hx).andThen .now
  have s1 : Looks (model prog w) s.heap (specialOf (.ref f) "__getattribute__") (some (.builtin "object.__getattribute__")) := tof.andThen (Looks.of_pure slot_fga.lookup)
  have s2 : Looks (model prog w) s.heap (specialOf (.ref f) "__getattr__") none := tof.andThen (Looks.of_pure fn_no_hook)
  have s3 : Looks (model prog w) s.heap (specialOf (.ref f) (Str.ofString "read")) none := tof.andThen (Looks.of_pure fn_no_read)
  unfold getMethod
  refine wpAny_bind (s1.here ?_)
  dsimp only
  rw [hcan, if_neg (by decide)]
  refine wpAny_bind (s2.here ?_)
  refine wpAny_bind (s3.here ?_)
  exact wpAny_bind (fn_get hx hd hrob (wpAny_pure h))
end Mine
end
section
open PySem PySem.W PyProof.Rows PySem.Calls PyProof.V PySem.Spec
open PySem.Builtin
namespace Mine
theorem slot_cit_next : Slot "callable_iterator" "__next__" "callable_iterator.__next__" :=
  .of (owner := "callable_iterator") (n := "__next__") (by rw [typeLookup_type, builtinLookup_eq_fast]; kernel_rfl) (by decide +kernel) (by decide +kernel) (by decide +kernel)
    (by first | exact .inl (by decide +kernel) | exact .inr (by decide +kernel)) (by rw [isSubtype_type]; kernel_rfl)
theorem entry_cit_next : entryFor table "callable_iterator.__next__" = some Builtin.«callable_iterator.__next__» := entryFor_of_tree (by kernel_rfl)
theorem args_cit_next (a : Value) : argsOk "callable_iterator.__next__" ⟨[a], []⟩ := by unfold argsOk; kernel_rfl
noncomputable abbrev citO (q : Addr) (ts : Tok) : Obj := { cls := .type "callable_iterator", data := .fields #[.ref q, .str (Str.ofString "") ts, .bool false] }
theorem wpAny_callBorrowed {M : Model} {A : Around} {E : Value → Shared → Prop} {s : Shared} {f : Value} {pos : List Value} {Q : Value → Shared → Prop} (h : wpAny M A (call f pos) Q E s) : wpAny M A (callBorrowed f pos) Q E s := fun Γ p hΓ => by
  have z := h Γ p hΓ
  have e : Sem.wp M Γ (callBorrowed f pos) (fun a _ s => Q a s) (fun e _ s => E e s) p s = Sem.wp M Γ (call f pos) (fun a _ s => Q a s) (fun e _ s => E e s) p s := by
    unfold callBorrowed
    rw [Sem.wp_cmd_call, Sem.wp_call]
    congr 1; funext r s'
    cases r with
    | error e => rfl
    | ok f => cases f <;> rfl
  exact e ▸ z
set_option tactic.hygienic false in
theorem iter2_args (a b : Value) : argsOk "iter" ⟨[a, b], []⟩ := by unfold argsOk; kernel_rfl
set_option tactic.hygienic false in
theorem slot_method_call : ∃ id, typeLookup (.type "method") (Str.ofString "__call__") = pure (some (.builtin id)) := ⟨"method.__call__", by rw [typeLookup_type, builtinLookup_eq_fast]; kernel_rfl⟩
set_option tactic.hygienic false in
theorem iter2 {prog : Program} {w : World} {A : Around} {E : Value → Shared → Prop} {Q : Value → Shared → Prop} {s : Shared} {h₀ : Heap} {L q : Addr} {f self : Value} {m : Str → Option Value} {news : CbLed} {ts : Tok}
    (F : Fr h₀ L s.heap m) (N : News h₀ L s.heap news) (hq : (q, methodObj f self) ∈ news)
    (h : ∀ I h', Fr h₀ L h' m → News h₀ L h' ((I, citO q ts) :: news) → (∀ p ∈ news, p.1 < I) → Q (.ref I) { s with heap := h' }) :
    wpAny (model prog w) A (call (.builtin "iter") [.ref q, .str (Str.ofString "") ts]) Q E s := by
  obtain ⟨id, hid⟩ := slot_method_call
  have sp : Looks (model prog w) s.heap (specialOf (.ref q) "__call__") (some (.builtin id)) := (Looks.ld (N _ hq).1).andThen (Looks.of_pure hid)
  refine call_function_entry (by decide +kernel) (by decide +kernel) kdk_entry_iter (iter2_args _ _) ?_
  unfold Builtin.«iter»
  refine wpAny_bind (m := someArgs "iter" 1 2 _) (wpAny_of_eq (a := [Value.ref q, .str (Str.ofString "") ts]) (by first | rfl | kernel_rfl!) ?_)
  dsimp only
  refine wpAny_bind (sp.here ?_)
  rw [if_neg (by simp)]
  refine wpAny_bind (wpAny_rule (wpAny_bind ?_))
  refine wpAny_bind (wpAny_alloc ?_)
  refine wpAny_pure (wpAny_pure ?_)
  exact ⟨_, rfl, h _ _ (F.push _) (N.push F _) fun p hp => Heap.lt_size (N p hp).1⟩
set_option tactic.hygienic false in
theorem slot_cit_self : Slot "callable_iterator" "__iter__" "callable_iterator.__iter__" :=
  .of (owner := "callable_iterator") (n := "__iter__") (by rw [typeLookup_type, builtinLookup_eq_fast]; kernel_rfl) (by decide +kernel) (by decide +kernel) (by decide +kernel)
    (by first | exact .inl (by decide +kernel) | exact .inr (by decide +kernel)) (by rw [isSubtype_type]; kernel_rfl)
set_option tactic.hygienic false in
theorem entry_cit_self : entryFor table "callable_iterator.__iter__" = some Builtin.«dict_keyiterator.__iter__» := entryFor_alias (id' := "dict_keyiterator.__iter__") (by kernel_rfl) rfl (by decide +kernel) (by kernel_rfl)
set_option tactic.hygienic false in
theorem args_cit_self (a : Value) : argsOk "callable_iterator.__iter__" ⟨[a], []⟩ := by unfold argsOk; kernel_rfl
noncomputable abbrev citE : Obj := { cls := .type "callable_iterator", data := .fields #[.none, .none, .bool true] }
theorem next_callN {prog : Program} {w : World} {A : Around} {E : Value → Shared → Prop} {Q : Option Value → Shared → Prop} {s : Shared} {it q rc xa : Addr} {ts : Tok} {rO : Obj} {rfd : FuncData}
    (hh : A.handled = none) (hit : s.heap.get? it = some (citO q ts)) (hq : s.heap.get? q = some (methodObj (.ref rc) (.ref xa))) (hrc : s.heap.get? rc = some rO) (hrd : rO.data = .func rfd)
    (h : wpAny (model prog w) A.in1 (call (.ref q) []) (fun v s₁ => ∃ x t ts', v = .str x t ∧ s₁.heap.get? it = some (citO q ts') ∧
      ((x ≠ Str.ofString "" ∧ Q (some v) s₁) ∨ (x = Str.ofString "" ∧ s₁.heap.get? q = some (methodObj (.ref rc) (.ref xa)) ∧ (∃ rO' rfd', s₁.heap.get? rc = some rO' ∧ rO'.data = .func rfd') ∧ ∀ h', h'.get? it = some citE → Heap.ExtBut it s₁.heap h' → Q none { s₁ with heap := h' }))) (fun _ _ => False) s) :
    wpAny (model prog w) A (pyNext (.ref it)) Q E s := by
  have hT : s.TypeIs (.ref it) "callable_iterator" := ⟨_, hit, rfl⟩
  have hb : Looks (model prog w) s.heap (borrowsExactly (.ref q)) true := (Looks.ld hq).andThen ((Looks.ld hrc).andThen (by rw [hrd]; exact .now))
  unfold pyNext
  refine wpAny_bind (wpAny_attempt (wpAny_callSpecial?_slot (name := Str.ofString "__next__") hT slot_cit_next
    (wpAny_call_entry slot_cit_next hT entry_cit_next ?_ (args_cit_next _))))
  unfold Builtin.«callable_iterator.__next__»
  refine wpAny_bind (wpAny_pure ?_)
  dsimp only
  refine wpAny_bind (wpAny_field hit rfl (x := .bool false) rfl ?_)
  rw [if_neg (by decide)]
  refine wpAny_bind (wpAny_field hit rfl (x := .ref q) rfl ?_)
  refine wpAny_bind (wpAny_attempt (wpAny_bind (hb.here ?_)))
  rw [if_pos rfl]
  refine wpAny_callBorrowed (wpAny_mono h ?_ fun _ _ z => z.elim)
  rintro v s₁ ⟨x, t, ts', rfl, hit1, hQ⟩
  dsimp only
  refine wpAny_bind (wpAny_field hit1 rfl (x := .bool false) rfl ?_)
  rw [if_neg (by decide)]
  refine wpAny_bind (wpAny_field hit1 rfl (x := .str (Str.ofString "") ts') rfl ?_)
  refine wpAny_bind (wpAny_holding (wpAny_eqBool_str ?_))
  rcases hQ with ⟨hx, hQ⟩ | ⟨rfl, hq1, ⟨rO', rfd', hrc1, hrd1⟩, hQ⟩
  · rw [decide_eq_false (fun e => hx e.symm), if_pos (by decide)]
    refine wpAny_bind (wpAny_pure ?_)
    exact wpAny_pure ⟨_, rfl, wpAny_pure hQ⟩
  · have hb1 : Looks (model prog w) s₁.heap (borrowsExactly (.ref q)) true := (Looks.ld hq1).andThen ((Looks.ld hrc1).andThen (by rw [hrd1]; exact .now))
    rw [decide_eq_true rfl, if_neg (by decide)]
    try (refine wpAny_bind (wpAny_pure ?_))
    refine wpAny_bind (wpAny_rule ?_)
    refine wpAny_bind ?_
    refine wpAny_bind (wpAny_field hit1 rfl (x := .ref q) rfl ?_)
    refine wpAny_bind ?_
    refine wpAny_bind (hb1.here ?_)
    rw [if_pos rfl]
    refine wpAny_pure ?_
    show wpAny _ _ (setField (.ref it) 0 .none >>= _) _ _ s₁
    refine wpAny_bind (wpAny_setField_rec hit1 (by simp) fun g1 e1 b1 => ?_)
    refine wpAny_bind (wpAny_setField_rec (s := { s₁ with heap := g1 }) e1 (by simp) fun g2 e2 b2 => ?_)
    refine wpAny_setField_rec (s := { s₁ with heap := g2 }) e2 (by simp) fun g3 e3 b3 => ?_
    have e4 : g3.get? it = some citE := e3
    have b4 : Heap.SameBut it s₁.heap g3 := (b1.trans b2).trans b3
    show wpAny _ _ (newExc (.type "StopIteration") [] >>= _) _ _ _
    refine wpAny_bind ?_
    simp only [newExc, newTuple]
    refine wpAny_bind (wpAny_newObj_type ?_ (by size_fits))
    refine wpAny_bind (m := firstArgMember _ _) (wpAny_of_eq (a := Value.none) (by first | rfl | (simp only [firstArgMember]; rfl)) ?_)
    refine wpAny_newObj_type ?_ (by size_fits)
    simp only [raiseNew]
    refine wpAny_bind (wpAny_handled ?_)
    first | rw [show A.in1.handled = none from hh] | rw [hh]
    refine wpAny_bind (wpAny_pure (wpAny_throw ?_))
    refine wpAny_bind (wpAny_isInstance (T := "StopIteration") (b := true) ⟨_, Heap.get?_push_size _ rfl, rfl⟩ isSubtype_stop ?_)
    exact wpAny_pure (hQ _ (Heap.get?_push_of_some _ (Heap.get?_push_of_some _ e4)) ((b4.extBut.push _).push _))
theorem next_ended {prog : Program} {w : World} {A : Around} {E : Value → Shared → Prop} {Q : Option Value → Shared → Prop} {s : Shared} {it : Addr}
    (hh : A.handled = none) (hit : s.heap.get? it = some citE) (hQ : ∀ h', Heap.ExtBut it s.heap h' → h'.get? it = some citE → Q none { s with heap := h' }) : wpAny (model prog w) A (pyNext (.ref it)) Q E s := by
  have hT : s.TypeIs (.ref it) "callable_iterator" := ⟨_, hit, rfl⟩
  unfold pyNext
  refine wpAny_bind (wpAny_attempt (wpAny_callSpecial?_slot (name := Str.ofString "__next__") hT slot_cit_next
    (wpAny_call_entry slot_cit_next hT entry_cit_next ?_ (args_cit_next _))))
  unfold Builtin.«callable_iterator.__next__»
  refine wpAny_bind (wpAny_pure ?_)
  dsimp only
  refine wpAny_bind (wpAny_field hit rfl (x := .bool true) rfl ?_)
  rw [if_pos (by decide)]
  refine wpAny_bind (wpAny_rule ?_)
  first
  | show wpAny _ _ (newExc (.type "StopIteration") [] >>= _) _ _ _
  | (refine wpAny_bind ?_; show wpAny _ _ (newExc (.type "StopIteration") [] >>= _) _ _ _)
  refine wpAny_bind ?_
  simp only [newExc, newTuple]
  refine wpAny_bind (wpAny_newObj_type ?_ (by size_fits))
  refine wpAny_bind (m := firstArgMember _ _) (wpAny_of_eq (a := Value.none) (by first | rfl | (simp only [firstArgMember]; rfl)) ?_)
  refine wpAny_newObj_type ?_ (by size_fits)
  simp only [raiseNew]
  refine wpAny_bind (wpAny_handled ?_)
  first | rw [show A.in1.handled = none from hh] | rw [hh]
  refine wpAny_bind (wpAny_pure (wpAny_throw ?_))
  refine wpAny_bind (wpAny_isInstance (T := "StopIteration") (b := true) ⟨_, Heap.get?_push_size _ rfl, rfl⟩ isSubtype_stop ?_)
  exact wpAny_pure (hQ _ (((Heap.ExtBut.refl _ _).push _).push _) (Heap.get?_push_of_some _ (Heap.get?_push_of_some _ hit)))
set_option tactic.hygienic false in
theorem iter_citO {prog : Program} {w : World} {A : Around} {E : Value → Shared → Prop} {Q : Value → Shared → Prop} {s : Shared} {it : Addr} {o : Obj}
    (hit : s.heap.get? it = some o) (ho : o.cls = .type "callable_iterator") (h : Q (.ref it) s) : wpAny (model prog w) A (pyIter (.ref it)) Q E s := by
  have hT : s.TypeIs (.ref it) "callable_iterator" := ⟨_, hit, ho⟩
  refine wpAny_pyIter_slot hT slot_cit_self (wpAny_call_entry slot_cit_self hT entry_cit_self ?_ (args_cit_self _))
  show wpAny _ _ (ret (.ref it)) _ _ s
  exact wpAny_pure ⟨_, rfl, "callable_iterator", _, hT, slot_cit_next.lookup, h⟩
end Mine
end
section
open PySem PySem.W PyProof.Rows PySem.Calls PyProof.V PySem.Spec
namespace Mine
set_option maxRecDepth 100000
noncomputable def xAttr (r : Rec) (cx : Cx) (o : Expr) (name : Str) (loc : Loc) (led : Led) (K : SV → Led → Prop) : Prop :=
  match okBase o with
  | true => r.ev cx o loc led fun v led => xGetA v name led K
  | false => False
noncomputable def xIter (vs : List SV) (led : Led) (K : SV → Led → Prop) : Prop :=
  match vs with
  | [v, w] => match v with
    | .loc j => match led[j]? with
      | some (.meth _ _) => match w with
        | .str [] => K (.loc led.length) (led ++ [.cit j])
        | _ => False
      | _ => False
    | _ => False
  | _ => False
noncomputable def xNew (cx : Cx) (vs : List SV) (led : Led) (K : SV → Led → Prop) : Prop :=
  match cx.fn 35 with
  | some sp => sp (.loc (led.length + 1) :: vs) (led ++ [.ns [], .inst led.length]) fun v led2 => v = .none ∧ K (.loc (led.length + 1)) led2
  | none => False
noncomputable def isFin : SV → Nat
  | .fn (.ref q) => if @Eq Nat q 59 then 1 else 0
  | .fn (.builtin id) => if id = "iter" then 2 else 0
  | .loc _ => 3
  | _ => 0
noncomputable def xCallN (r : Rec) (cx : Cx) (f : Str) (args : List Expr) (loc : Loc) (led : Led) (K : SV → Led → Prop) : Prop :=
  match okName f && noStar args && !args.isEmpty with
  | true => match xname cx f loc led with
    | some v => match isFin v with
      | 0 => xCall r cx f args loc led K
      | 1 => r.ea cx args loc led fun vs led => xNew cx vs led K
      | 2 => r.ea cx args loc led fun vs led => xIter vs led K
      | _ => match v with
        | .loc k => match led[k]? with
          | some (.clo _ _ _ _) => r.ea cx args loc led fun vs led => match led[k]? with
            | some (.clo d cells _ none) => xClo r cx d cells vs led K
            | _ => False
          | _ => False
        | _ => False
    | none => False
  | false => False
noncomputable def rdOf (ov : SV) (led : Led) (name : Str) : Option Nat :=
  match name == Str.ofString "read" with
  | true => match ov with
    | .loc i => match led[i]? with
      | some (.clo _ _ _ (some d)) => match led[d]? with
        | some (.ns l) => match l.lookup name with
          | some (.loc k) => some k
          | _ => none
        | _ => none
      | _ => none
    | _ => none
  | false => none
noncomputable def xMeth (r : Rec) (cx : Cx) (o : Expr) (name : Str) (pa pos : Pos) (args : List Expr) (loc : Loc) (led : Led) (K : SV → Led → Prop) : Prop :=
  match noStar args && okBase o && decide (args.length < 30) && (pa.endLine == pos.line) with
  | true => r.ev cx o loc led fun ov led => match nsOf ov led with
    | some l => match methL.lookup name with
      | some f => match cx.fn f with
        | some sp => l.lookup name = none ∧ match args with
          | [] => sp [ov] led K
          | _ :: _ => r.ea cx args loc led fun vs led => sp (ov :: vs) led K
        | none => False
      | none => False
    | none => match rdOf ov led name with
      | some k => match args with
        | [] => False
        | _ :: _ => match led[k]? with
          | some (.clo _ _ _ _) => r.ea cx args loc led fun vs led => match led[k]? with
            | some (.clo d cells _ none) => xClo r cx d cells vs led K
            | _ => False
          | _ => False
      | none => match okMeth ov name led with
        | some id => match args with
          | [] => xBuiltin id [ov] led K
          | _ :: _ => r.ea cx args loc led fun vs led => xBuiltin id (ov :: vs) led K
        | none => False
  | false => False
section
variable {R : Rt} {cx : Cx} {env : Env} {ρ ρ' : List Addr} {led led' : Led} {ex : CbLed} {loc : Loc} {m : Str → Option Value} {s : Shared} {h' : Heap} {tk' : Nat} {r : Rec}
theorem attr_X (S : SndR r) {o : Expr} {name : Str} {p : Pos} {K : SV → Led → Prop} {Q E : Value → Shared → Prop} (h : xAttr r cx o name loc led K) (H : Here R cx env ρ led ex loc m s) (P : PostE R K ρ ex m s Q) :
    wpAny R.M R.A (eval (.Attribute o name p) env) Q E s := by
  unfold xAttr at h
  split at h
  · rename_i hb
    rw [arm_eval_Attribute, base_X hb]
    refine wpAny_bind (S.ev h H ?_)
    intro v x ρ1 led1 h1 tk1 k1 g1 r1 F1 S1
    refine wpAny_bind (wpAny_standAt (wpAny_bind (wpAny_holding (getA_X (s := { s with heap := h1, toks := tk1 }) k1 H.ok.ok.inn r1 F1 S1 ?_))))
    intro w y ρ2 led2 h2 tk2 k2 g2 r2 F2 S2
    exact wpAny_bind (wpAny_letTemporaryGo (wpAny_pure (P w y ρ2 led2 h2 tk2 k2 (g1.trans g2) r2 F2 S2)))
  · exact h.elim
theorem iter_X {vs : List SV} {xs : List Value} {K : SV → Led → Prop} {Q E : Value → Shared → Prop} (k : xIter vs led K) (hr : RepL ρ vs xs) (F : Fr R.h₀ R.L s.heap m) (S : Sim R s.heap ρ led ex) (P : PostE R K ρ ex m s Q) :
    wpAny R.M R.A (call (.builtin "iter") xs) Q E s := by
  unfold xIter at k
  split at k
  · split at k
    · split at k
      · rename_i f i ho
        split at k
        · match xs, hr with
          | [x, y], hr =>
            obtain ⟨⟨a, ha, rfl⟩, ⟨t, rfl⟩, _⟩ := hr
            obtain ⟨es, W, d, N⟩ := S
            obtain ⟨ob, hm, b, hb, rfl⟩ := d.e.get ha ho
            have e : strOf [] = Str.ofString "" := by decide +kernel
            rw [e]
            refine iter2 F N (List.mem_append_left _ hm) ?_
            intro I h2 F2 N2 hlt
            exact P.new (o := .cit _) F2 d N2 hlt ⟨a, t, Grow.app _ _ ha, rfl⟩ k True.intro
          | [], hr => exact hr.elim
          | [_], hr => exact hr.2.elim
          | _ :: _ :: _ :: _, hr => exact hr.2.2.elim
        · exact k.elim
      · exact k.elim
    · exact k.elim
  · exact k.elim
set_option tactic.hygienic false in
theorem under_builtin {id : String} {args : Args} {j : Nat} (hw : (Code.builtin id args).weight = j) (he : (Code.builtin id args).envs = []) (hg : (Code.builtin id args).guards = []) (hu : (Code.builtin id args).cUnits = 1) : R.A.under (.builtin id args) = (R.plus 1 j).A := by
  unfold Around.under
  rw [hw, he, hg, hu]
  obtain ⟨w, mean, mg, mb, loose, dp, un, gd, cn, cs, a, ccd, cl, outer, A₀, base, h₀, L⟩ := R
  cases gd <;> rfl
set_option tactic.hygienic false in
theorem cls_new (w : World) : (keepIn (hd.heap_39 w.params) (.ref 59) = true ∧ makesIn (hd.heap_39 w.params) 59 = true) ∧ findIn (hd.heap_39 w.params) (.ref 59) "__init__" = some (some (.ref 35)) ∧ typeIn (hd.heap_39 w.params) (.ref 35) = some (.type "function") :=
  ⟨⟨by kernel_rfl, by kernel_rfl⟩, by kernel_rfl, by kernel_rfl⟩
theorem new_X {vs : List SV} {xs : List Value} {K : SV → Led → Prop} {Q E : Value → Shared → Prop} (k : xNew cx vs led K) (hr : RepL ρ vs xs) (H : Here R cx env ρ led ex loc m s) (P : PostE R K ρ ex m s Q) :
    wpAny R.M R.A (call (.ref 59) xs) Q E s := by
  unfold xNew at k
  split at k
  · rename_i sp hsp
    obtain ⟨⟨_, hmk⟩, hin, hty⟩ := cls_new R.w
    obtain ⟨ok, hfn⟩ := H.ok.fn _ sp hsp
    have S := H.sim
    obtain ⟨es, W, d, N⟩ := S
    refine wpAny_call (make_K (K := hd.heap_39 R.w.params) H.fr N (H.ok.ok.inn.keeps H.fr.keep) hmk hin hty ?_)
    intro x dx h2 F2 N2 hlt hlx
    rw [under_builtin (R := R) (j := 1) (by kernel_rfl) (by kernel_rfl) (by kernel_rfl) (by kernel_rfl)]
    have hD1 : AllNe dx (es ++ (ex ++ W)) := fun p hp => Nat.ne_of_lt (hlt p hp)
    have d1 := d.new (D := dx) (o := .ns []) (ob := emptyDict) hD1 ⟨[], 0, True.intro, rfl⟩ True.intro
    have hxx : AllNe x ((es ++ [(dx, emptyDict)]) ++ (ex ++ W)) := fun p hp => by
      rcases List.mem_append.mp hp with hp | hp
      · rcases List.mem_append.mp hp with hp | hp
        · exact Nat.ne_of_lt (Nat.lt_trans (hlt p (List.mem_append_left _ hp)) hlx)
        · rw [List.mem_singleton.mp hp]; exact Nat.ne_of_lt hlx
      · exact Nat.ne_of_lt (Nat.lt_trans (hlt p (List.mem_append_right _ hp)) hlx)
    have d2 := d1.new (D := x) (o := .inst led.length) (ob := instObj 59 dx) hxx ⟨dx, Grow.app _ _ d.last, rfl⟩ True.intro
    have S2 : Sim R h2 ((ρ ++ [dx]) ++ [x]) ((led ++ [.ns []]) ++ [.inst led.length]) ex := ⟨_, W, d2, cb_drop N2 fun p hp => by
      rcases List.mem_append.mp hp with hp | hp
      · rcases List.mem_append.mp hp with hp | hp
        · rcases List.mem_append.mp hp with hp | hp
          · exact .tail _ (.tail _ (List.mem_append_left _ hp))
          · rw [List.mem_singleton.mp hp]; exact .tail _ (.head _)
        · rw [List.mem_singleton.mp hp]; exact .head _
      · exact .tail _ (.tail _ (List.mem_append_right _ hp))⟩
    have hxi : ((ρ ++ [dx]) ++ [x])[led.length + 1]? = some x := by
      have z := d1.last (D := x)
      rw [List.length_append] at z
      exact z
    rw [show (led ++ [SO.ns []]) ++ [SO.inst led.length] = led ++ [SO.ns [], SO.inst led.length] from List.append_assoc ..] at S2
    refine codeAny_mono (ok 1 (by decide) 1 (by decide) m _ _ _ ex _ _ _ k (show RepL ((ρ ++ [dx]) ++ [x]) (.loc (led.length + 1) :: vs) (.ref x :: xs) from ⟨⟨x, hxi, rfl⟩, (hr.mono Grow.app).mono Grow.app⟩) F2 S2
      (Q := fun v s' => v = .none ∧ Q (.ref x) s') (E := E) ?_) ?_
    · rintro v y ρ3 led3 h3 tk3 ⟨rfl, k3⟩ g3 r3 F3 S3
      exact ⟨r3, P _ _ ρ3 led3 h3 tk3 k3 ((Grow.app.trans Grow.app).trans g3) ⟨x, g3 _ _ hxi, rfl⟩ F3 S3⟩
    · intro res s' z
      unfold InitBack
      cases res with
      | error e => exact z
      | ok f => cases f <;> exact z
  · exact k.elim
end
end Mine
end
section
open PySem PySem.W PyProof.Rows PySem.Calls PyProof.V PySem.Spec
namespace Mine
section
variable {R : Rt} {cx : Cx} {env : Env} {ρ ρ' : List Addr} {led led' : Led} {ex : CbLed} {loc : Loc} {m : Str → Option Value} {s : Shared} {h' : Heap} {tk' : Nat} {r : Rec}
set_option tactic.hygienic false in
theorem clo_at {h : Heap} {k : Nat} {d : CloD} {cells : List (Str × Nat)} {c : Addr} {dc : Option Nat} {a : Addr} (S : Sim R h ρ led ex) (ha : ρ[k]? = some a) (ho : led[k]? = some (.clo d cells c dc)) : FnAt a h := by
  obtain ⟨ob, es, W, ⟨doc, pm, ctv, od, _, _, rfl⟩, hm, N⟩ := S.obj ha ho
  exact FnAt.of N hm
theorem callN_X (S : SndR r) {f : Str} {args : List Expr} {pf pos : Pos} {K : SV → Led → Prop} {Q E : Value → Shared → Prop} (h : xCallN r cx f args loc led K) (H : Here R cx env ρ led ex loc m s) (P : PostE R K ρ ex m s Q) :
    wpAny R.M R.A (eval (.Call (.Name f pf) args [] pos) env) Q E s := by
  unfold xCallN at h
  split at h
  · rename_i hc
    have hc' := hc
    simp only [Bool.and_eq_true, Bool.not_eq_true'] at hc
    obtain ⟨⟨hok, hns⟩, hne⟩ := hc
    split at h
    · rename_i v hx
      have hdb : (f == Str.ofString "__debug__") = false := by unfold okName at hok; simp at hok; exact beq_false_of_ne hok.1
      match args, hns, hne with
      | e :: es, hns, _ =>
        have q1 : isStar e = false ∧ noStar es = true := by
          unfold noStar at hns ⊢
          simpa using hns
        split at h
        · exact call_X S h H P
        · rename_i hv
          have hv : v = .fn (.ref 59) := by
            unfold isFin at hv
            split at hv
            · split at hv
              · rename_i e; rw [show _ = 59 from e]
              · cases hv
            · split at hv <;> cases hv
            · cases hv
            · cases hv
          subst hv
          refine Call_ (wpAny_Name (loadName_X H hx hok ?_) hdb)
          intro y ry
          have ey : y = .ref 59 := ry
          subst ey
          refine callWith_K (K := hd.heap_39 R.w.params) H.ok.ok.inn (cls_new R.w).1.1 (S.ea h H ?_) (starEach_X q1.1) (noStar_X q1.2)
          intro vs xs ρ1 led1 h1 tk1 k1 g1 r1 F1 S1
          exact ⟨H.ok.ok.inn.keeps F1.keep, new_X k1 r1 (H.go g1 F1 S1) (P.go g1)⟩
        · rename_i hv
          have hv : v = .fn (.builtin "iter") := by
            unfold isFin at hv
            split at hv
            · split at hv <;> cases hv
            · split at hv
              · rename_i e; rw [e]
              · cases hv
            · cases hv
            · cases hv
          subst hv
          refine Call_ (wpAny_Name (loadName_X H hx hok ?_) hdb)
          intro y ry
          have ey : y = .builtin "iter" := ry
          subst ey
          refine PyProof.Rows.callWith_builtin1 (S.ea h H ?_) (starEach_X q1.1) (noStar_X q1.2)
          intro vs xs ρ1 led1 h1 tk1 k1 g1 r1 F1 S1
          exact iter_X k1 r1 F1 S1 (P.go g1)
        · split at h
          · split at h
            · rename_i ho
              refine Call_ (wpAny_Name (loadName_X H hx hok ?_) hdb)
              rintro y ⟨a, ha, rfl⟩
              refine callWith_F (clo_at H.sim ha ho) (S.ea h H ?_) (starEach_X q1.1) (noStar_X q1.2)
              intro vs xs ρ1 led1 h1 tk1 k1 g1 r1 F1 S1
              split at k1
              · rename_i ho1
                exact ⟨clo_at S1 (g1 _ _ ha) ho1, clo_X S k1 ho1 ⟨a, g1 _ _ ha, rfl⟩ r1 (H.go g1 F1 S1) (P.go g1)⟩
              · exact k1.elim
            · exact h.elim
          · exact h.elim
      | [], _, hne => cases hne
    · exact h.elim
  · exact h.elim
set_option tactic.hygienic false in
theorem rd_look {l : List (Str × SV)} {es : List DictEntry} {n k : Nat} {a : Addr} (h : RepN ρ l es) (hl : l.lookup (Str.ofString "read") = some (.loc k)) (ha : ρ[k]? = some a) : lookIn (Str.ofString "read") (dictOf es n) = some (some (.ref a)) := by
  have z := getL_rep (name := Str.ofString "read") h
  rw [hl] at z
  obtain ⟨y, h1, b, hb, rfl⟩ := z
  rw [ha] at hb
  injection hb with hb
  subst hb
  rw [lookIn_dict, h1]
set_option tactic.hygienic false in
theorem star1 {e : Expr} {es : List Expr} (hns : noStar (e :: es) = true) : isStar e = false ∧ noStar es = true := by
  unfold noStar at hns ⊢
  simpa using hns
section
variable {name : Str} {args : List Expr} {pos : Pos} {pl : Sem Bool} {K : SV → Led → Prop} {Q E : Value → Shared → Prop} {ov : SV} {x : Value}
set_option tactic.hygienic false in
theorem mInst_X (S : SndR r) {l : List (Str × SV)} {f : Addr} {sp : Spec} (hns : noStar args = true) (hl : nsOf ov led = some l) (hf : methL.lookup name = some f) (hsp : cx.fn f = some sp) (hno : l.lookup name = none) (h : match (generalizing := false) args with
          | [] => sp [ov] led K
          | _ :: _ => r.ea cx args loc led fun vs led => sp (ov :: vs) led K) (rx : Rep ρ ov x) (H : Here R cx env ρ led ex loc m s) (P : PostE R K ρ ex m s Q) :
    wpAny R.M R.A (getMethod x name pl) (fun fx s₂ => wpAny R.M R.A (callWith pos fx.1 fx.2 (backTo pos (starEach args env)) []) Q E s₂) E s := by
  obtain ⟨k, a, d, dx, es, n, rfl, ha, rfl, hk, hd, hdx, hr, I⟩ := inst_X hl rx H.sim
  obtain ⟨ok, hfn⟩ := H.ok.fn f sp hsp
  obtain ⟨⟨⟨q1, q2⟩, -⟩, q6, -⟩ := meth_facts R.w (name, f) (lookup_memV hf)
  have gl := getL_rep (name := name) hr
  rw [hno] at gl
  refine method_inst H.fr H.ok.ok.inn I q1 q6 q2 gl ?_
  clear I gl hr hdx hd hk
  cases args with
  | nil =>
    refine callWith_F0 (hfn _ _ H.fr) (wpAny_call ?_)
    exact ok 0 (Nat.zero_le _) 0 (Nat.zero_le _) m _ ρ led ex _ _ K Q E h (show RepL ρ [.loc k] [.ref a] from ⟨rx, True.intro⟩) H.fr H.sim P
  | cons e es =>
    refine callWith_F (hfn _ _ H.fr) (S.ea h H ?_) (starEach_X (star1 hns).1) (noStar_X (star1 hns).2)
    intro vs xs ρ2 led2 h2 tk2 k2 g2 r2 F2 S2
    refine ⟨hfn _ _ F2, wpAny_call ?_⟩
    exact ok 0 (Nat.zero_le _) 0 (Nat.zero_le _) m _ ρ2 led2 ex _ _ K Q E k2 (show RepL ρ2 (.loc k :: vs) (.ref a :: xs) from ⟨⟨a, g2 _ _ ha, rfl⟩, r2⟩) F2 S2 (P.go g2)
inductive RdX (led : Led) (name : Str) (k : Nat) (ov : SV) : Prop
  | mk (i d : Nat) (dd : CloD) (cells : List (Str × Nat)) (c : Addr) (l : List (Str × SV)) (e1 : name = Str.ofString "read") (e2 : ov = .loc i) (hi : led[i]? = some (.clo dd cells c (some d))) (hd : led[d]? = some (.ns l)) (hlk : l.lookup (Str.ofString "read") = some (.loc k))
theorem rdOf_inv {k : Nat} (h : rdOf ov led name = some k) : RdX led name k ov := by
  unfold rdOf at h
  split at h
  · rename_i hnm
    have hnm : name = Str.ofString "read" := eq_of_beq hnm
    subst hnm
    split at h
    · rename_i i
      split at h
      · rename_i dd cells c d hi
        split at h
        · rename_i l hd
          split at h
          · rename_i k' hlk
            injection h with h
            subst h
            exact ⟨i, d, dd, cells, c, l, rfl, rfl, hi, hd, hlk⟩
          · cases h
        · cases h
      · cases h
    · cases h
  · cases h
theorem mRead_X (S : SndR r) {k : Nat} (hns : noStar args = true) (hrd : rdOf ov led name = some k) (h : match (generalizing := false) args with
        | [] => False
        | _ :: _ => match led[k]? with
          | some (.clo _ _ _ _) => r.ea cx args loc led fun vs led => match led[k]? with
            | some (.clo d cells _ none) => xClo r cx d cells vs led K
            | _ => False
          | _ => False) (rx : Rep ρ ov x) (H : Here R cx env ρ led ex loc m s) (P : PostE R K ρ ex m s Q) :
    wpAny R.M R.A (getMethod x name pl) (fun fx s₂ => wpAny R.M R.A (callWith pos fx.1 fx.2 (backTo pos (starEach args env)) []) Q E s₂) E s := by
  obtain ⟨i, d, dd, cells, c, l, rfl, rfl, hi, hd, hlk⟩ := rdOf_inv hrd
  obtain ⟨a, ha, rfl⟩ := rx
  obtain ⟨ob, es, W, ⟨doc, pm, ctv, od, _, ⟨D, hD, rfl⟩, rfl⟩, hm1, N1⟩ := H.sim.obj ha hi
  obtain ⟨ob2, es2, W2, ⟨ens, n, hr2, rfl⟩, hm2, N2⟩ := H.sim.obj hD hd
  have z := getL_rep (name := Str.ofString "read") hr2
  rw [hlk] at z
  obtain ⟨y, _, b, hb2, rfl⟩ := z
  cases args with
  | nil => exact h.elim
  | cons e es =>
    refine fn_method (N1 _ hm1).1 (N2 _ hm2).1 (rd_look hr2 hlk hb2) ?_
    clear N1 N2 hr2 hm1 hm2
    dsimp only at h
    split at h
    · rename_i ho
      refine callWith_F (clo_at H.sim hb2 ho) (S.ea h ⟨H.ok, H.fr, H.sim, H.view⟩ ?_) (starEach_X (star1 hns).1) (noStar_X (star1 hns).2)
      intro vs xs ρ2 led2 h2 tk2 k2 g2 r2 F2 S2
      split at k2
      · rename_i ho2
        exact ⟨clo_at S2 (g2 _ _ hb2) ho2, clo_X S k2 ho2 ⟨b, g2 _ _ hb2, rfl⟩ r2 (H.go g2 F2 S2) (P.go g2)⟩
      · exact k2.elim
    · exact h.elim
set_option tactic.hygienic false in
theorem mBase_X (S : SndR r) {id : String} (hns : noStar args = true) (hid : okMeth ov name led = some id) (h : match (generalizing := false) args with
          | [] => xBuiltin id [ov] led K
          | _ :: _ => r.ea cx args loc led fun vs led => xBuiltin id (ov :: vs) led K) (rx : Rep ρ ov x) (H : Here R cx env ρ led ex loc m s) (P : PostE R K ρ ex m s Q) :
    wpAny R.M R.A (getMethod x name pl) (fun fx s₂ => wpAny R.M R.A (callWith pos fx.1 fx.2 (backTo pos (starEach args env)) []) Q E s₂) E s := by
  refine getM_X hid rx H.sim ?_
  cases args with
  | nil =>
    refine callWith_method0 ?_
    exact builtin_X h (show RepL ρ [ov] [x] from ⟨rx, trivial⟩) H.fr H.sim P
  | cons e es =>
    refine callWith_method1 (S.ea h H ?_) (starEach_X (star1 hns).1) (noStar_X (star1 hns).2)
    intro vs xs ρ2 led2 h2 tk2 k2 g2 r2 F2 S2
    exact builtin_X k2 (show RepL ρ2 (ov :: vs) (x :: xs) from ⟨rx.mono g2, r2⟩) F2 S2 (P.go g2)
end
theorem meth_X (S : SndR r) {o : Expr} {name : Str} {args : List Expr} {pa pos : Pos} {K : SV → Led → Prop} {Q E : Value → Shared → Prop} (h : xMeth r cx o name pa pos args loc led K) (H : Here R cx env ρ led ex loc m s) (P : PostE R K ρ ex m s Q) :
    wpAny R.M R.A (eval (.Call (.Attribute o name pa) args [] pos) env) Q E s := by
  unfold xMeth at h
  split at h
  · rename_i hc
    simp only [Bool.and_eq_true, decide_eq_true_eq] at hc
    obtain ⟨⟨⟨hns, hb⟩, hlen⟩, hpos⟩ := hc
    obtain ⟨pl, hm⟩ := methEq (env := env) (name := name) hb hns hlen hpos
    refine MethodCall_ (pl := pl) (S.ev h H ?_) hm
    intro ov x ρ1 led1 h1 tk1 k1 g1 r1 F1 S1
    have H1 := H.go g1 F1 S1 (tk' := tk1)
    have P1 := P.go (h' := h1) (tk' := tk1) g1
    clear hm P H
    split at k1
    · rename_i l hl
      split at k1
      · rename_i f hf
        split at k1
        · rename_i sp hsp
          exact mInst_X S hns hl hf hsp k1.1 k1.2 r1 H1 P1
        · exact k1.elim
      · exact k1.elim
    · split at k1
      · rename_i k hrd
        exact mRead_X S hns hrd k1 r1 H1 P1
      · split at k1
        · rename_i id hid
          exact mBase_X S hns hid k1 r1 H1 P1
        · exact False.elim k1
  · exact False.elim h
end
end Mine
end
section
open PySem PySem.W PyProof.Rows PySem.Calls PyProof.V PySem.Spec
namespace Mine
set_option maxRecDepth 100000
noncomputable def xLamE (cx : Cx) (params : Arguments) (body : Expr) (scope : Scope) (pos : Pos) (led : Led) (K : SV → Led → Prop) : Prop :=
  match cx.tab with
  | some t => match closX cx.cel scope.names [] with
    | some l => (params.defaults.isEmpty && params.kw_defaults.isEmpty && specOk t pos (t.qn ++ ".<locals>." ++ "<lambda>")) = true ∧
        ∀ c, K (.loc led.length) (led ++ [.clo ⟨"<lambda>", t.qn ++ ".<locals>." ++ "<lambda>", params, .expr body, scope⟩ l c none])
    | none => False
  | none => False
noncomputable def xDefS (cx : Cx) (name : Str) (params : Arguments) (body : List Stmt) (decos : List Expr) (rets : Option Expr) (tps : List TypeParam) (scope : Scope) (tscope : Option Scope) (bind : Str) (pos : Pos) (loc : Loc) (led : Led) (K : Fl → Loc → Led → Prop) : Prop :=
  match decos, rets, tps, tscope with
  | [], none, [], none => xDef cx name params body scope bind pos loc led K
  | _, _, _, _ => False
noncomputable def xAsgA (r : Rec) (cx : Cx) (o : Expr) (name : Str) (value : Expr) (loc : Loc) (led : Led) (K : Fl → Loc → Led → Prop) : Prop :=
  match isComp value with
  | false => r.ev cx value loc led fun v led => r.ev cx o loc led fun ov led => xSetA ov name v led fun led => K .next loc led
  | true => False
noncomputable def xSetI (o i v : SV) (led : Led) (K : Led → Prop) : Prop :=
  match o with
  | .loc k => match led[k]? with
    | some (.list vs) => match i with
      | .int z => 0 ≤ z ∧ z < vs.length ∧ vs.length ≤ 100000 ∧ K (led.set k (.list (vs.set z.toNat v)))
      | _ => False
    | _ => False
  | _ => False
noncomputable def xAsgI (r : Rec) (cx : Cx) (o i : Expr) (value : Expr) (loc : Loc) (led : Led) (K : Fl → Loc → Led → Prop) : Prop :=
  match isComp value with
  | false => r.ev cx value loc led fun v led => r.ev cx o loc led fun ov led => r.ev cx i loc led fun iv led => xSetI ov iv v led fun led => K .next loc led
  | true => False
noncomputable def xAugA (r : Rec) (cx : Cx) (o : Expr) (name : Str) (op : Operator) (value : Expr) (loc : Loc) (led : Led) (K : Fl → Loc → Led → Prop) : Prop :=
  match op with
  | .Add => r.ev cx o loc led fun ov led => xGetA ov name led fun old led => match old with
    | .int a => r.ev cx value loc led fun v led => ∃ b, v = .int b ∧ xSetA ov name (.int (a + b)) led fun led => K .next loc led
    | _ => False
  | _ => False
noncomputable def whileP (r : Rec) (cx : Cx) (tn : Nat) (test : Expr) (body : List Stmt) : Nat → Loc → Led → (Fl → Loc → Led → Prop) → Prop
  | 0, _, _, _ => False
  | n + 1, loc, led, K => r.et cx test loc led fun b led => match b with
    | false => K .next loc led
    | true => r.xs cx body loc led fun f loc led => match f with
      | .next => ∃ led₂ loc₂, Trim tn loc led led₂ loc₂ ∧ whileP r cx tn test body n loc₂ led₂ K
      | .cont => ∃ led₂ loc₂, Trim tn loc led led₂ loc₂ ∧ whileP r cx tn test body n loc₂ led₂ K
      | .brk => K .next loc led
      | .ret w => K (.ret w) loc led
noncomputable def xWhile (r : Rec) (cx : Cx) (test : Expr) (body orelse : List Stmt) (loc : Loc) (led : Led) (K : Fl → Loc → Led → Prop) : Prop :=
  match orelse with
  | [] => ∃ n, whileP r cx led.length test body n loc led K
  | _ => False
noncomputable def citP (r : Rec) (cx : Cx) (tn : Nat) (target : Expr) (body : List Stmt) (k : Nat) : Nat → Loc → Led → (Fl → Loc → Led → Prop) → Prop
  | 0, _, _, _ => False
  | n + 1, loc, led, K => match led[k]? with
    | some (.cit j) => match led[j]? with
      | some (.meth f i) => match cx.fn f with
        | some sp => sp [.loc i] led fun v led => led[k]? = some (.cit j) ∧ match v with
          | .str x => match x with
            | [] => led[j]? = some (.meth f i) ∧ K .next loc (led.set k (.frz citE))
            | _ :: _ => xTarget cx target (.str x) loc led fun loc led => r.xs cx body loc led fun f loc led => match f with
              | .next => ∃ led₂ loc₂, Trim tn loc led led₂ loc₂ ∧ citP r cx tn target body k n loc₂ led₂ K
              | .cont => ∃ led₂ loc₂, Trim tn loc led led₂ loc₂ ∧ citP r cx tn target body k n loc₂ led₂ K
              | .brk => K .next loc led
              | .ret w => K (.ret w) loc led
          | _ => False
        | none => False
      | _ => False
    | some (.frz ob) => ob = citE ∧ K .next loc led
    | _ => False
noncomputable def citOf (cx : Cx) (iter : Expr) (loc : Loc) (led : Led) : Option Nat :=
  match iter with
  | .Name x _ => match okName x with
    | true => match xname cx x loc led with
      | some (.loc k) => match led[k]? with
        | some (.cit _) => some k
        | _ => none
      | _ => none
    | false => none
  | _ => none
noncomputable def xForN (r : Rec) (cx : Cx) (target iter : Expr) (body : List Stmt) (loc : Loc) (led : Led) (K : Fl → Loc → Led → Prop) : Prop :=
  match citOf cx iter loc led with
  | some k => isNameE target = true ∧ ∃ n, citP r cx led.length target body k n loc led K
  | none => xFor r cx target iter body loc led K
section
variable {R : Rt} {cx : Cx} {env : Env} {ρ ρ' : List Addr} {led led' : Led} {ex : CbLed} {loc : Loc} {m : Str → Option Value} {s : Shared} {h' : Heap} {tk' : Nat} {r : Rec}
theorem lamE_X {params : Arguments} {body : Expr} {scope : Scope} {pos : Pos} {K : SV → Led → Prop} {Q E : Value → Shared → Prop} (h : xLamE cx params body scope pos led K) (H : Here R cx env ρ led ex loc m s) (P : PostE R K ρ ex m s Q) :
    wpAny R.M R.A (eval (.Lambda params body scope pos) env) Q E s := by
  unfold xLamE at h
  split at h
  · rename_i t ht
    split at h
    · rename_i l hl
      obtain ⟨hc, k⟩ := h
      rw [Bool.and_eq_true, Bool.and_eq_true] at hc
      obtain ⟨⟨h1, h2⟩, hs⟩ := hc
      obtain ⟨_, _, hcn, he⟩ := H.ok.tab t ht
      rw [arm_eval_Lambda, defaultsOf_eq, List.isEmpty_iff.mp h1, List.isEmpty_iff.mp h2]
      refine wpAny_bind (wpAny_pure (wpAny_bind (wpAny_holding (wpAny_pure ?_))))
      have hq : env.qual ++ "<lambda>" = t.qn ++ ".<locals>." ++ "<lambda>" := by rw [he, ← hcn]
      rw [hq]
      exact make_X H ht hl hs k P
    · exact h.elim
  · exact h.elim
theorem defS_X {name bind : Str} {params : Arguments} {body : List Stmt} {decos : List Expr} {rets : Option Expr} {tps : List TypeParam} {scope : Scope} {tscope : Option Scope} {pos : Pos} {K : Fl → Loc → Led → Prop} {Q : Flow → Shared → Prop} {E : Value → Shared → Prop} (h : xDefS cx name params body decos rets tps scope tscope bind pos loc led K) (H : At R cx ρ led ex loc m s) (P : PostS R K ρ ex s Q) :
    wpAny R.M R.A (exec (.FunctionDef name params body decos rets tps scope tscope bind pos) R.env) Q E s := by
  unfold xDefS at h
  split at h
  · unfold xDef at h
    split at h
    · rename_i t ht
      split at h
      · rename_i l hl
        obtain ⟨hc, hann, k⟩ := h
        simp only [Bool.and_eq_true] at hc
        obtain ⟨⟨⟨⟨h1, h2⟩, h3⟩, h4⟩, hs⟩ := hc
        have h1 : name = bind := eq_of_beq h1
        subst h1
        obtain ⟨_, _, hcn, _⟩ := H.ok.tab t ht
        rw [exec_def, defaultsOf_eq, List.isEmpty_iff.mp h2, List.isEmpty_iff.mp h3]
        refine wpAny_bind (wpAny_standAt (wpAny_bind (wpAny_holding (wpAny_bind (wpAny_pure (wpAny_bind (wpAny_holding (wpAny_pure (wpAny_holding (wpAny_bind ?_)))))))))) 
        rw [hann]
        refine wpAny_pure ?_
        have hq : qualnameIn R.env name name = t.qn ++ ".<locals>." ++ name := by
          unfold qualnameIn
          rw [H.ok.kd name, if_neg (by intro z; rw [bne_iff_ne] at h4; exact h4 (eq_of_beq z)), ← hcn]
        rw [hq]
        refine make_X H.here ht hl hs (K := fun v led' => ∃ c, v = .loc led.length ∧ led' = led ++ [.clo ⟨name, t.qn ++ ".<locals>." ++ name, params, .stmts body, scope⟩ l c none]) (fun c => ⟨c, rfl, rfl⟩) ?_
        rintro v x ρ1 led1 h1 tk1 ⟨c, rfl, rfl⟩ g1 r1 F1 S1
        refine wpAny_bind (wpAny_standAt (wpAny_bind (wpAny_bindName (store_X (k c) (H.go g1 F1 S1 (tk' := tk1)) r1 ?_))))
        intro loc2 led2 m2 h2 tk2 k2 F2 l2 S2
        exact wpAny_pure (P .next .next loc2 ρ1 led2 m2 h2 tk2 k2 g1 rfl F2 l2 S2)
      · exact h.elim
    · exact h.elim
  · exact h.elim
theorem asgA_X (S : SndR r) {o value : Expr} {name : Str} {pa pos : Pos} {K : Fl → Loc → Led → Prop} {Q : Flow → Shared → Prop} {E : Value → Shared → Prop} (h : xAsgA r cx o name value loc led K) (H : At R cx ρ led ex loc m s) (P : PostS R K ρ ex s Q) :
    wpAny R.M R.A (exec (.Assign [.Attribute o name pa] value pos) R.env) Q E s := by
  unfold xAsgA at h
  split at h
  · rename_i hc
    refine plainObj_wpAny_Assign_Attribute (S.ev h H.here ?_) (swaps_no hc)
    intro v x ρ1 led1 h1 tk1 k1 g1 r1 F1 S1
    refine S.ev k1 (H.go g1 F1 S1).here ?_
    intro ov y ρ2 led2 h2 tk2 k2 g2 r2 F2 S2
    refine setA_X (s := { s with heap := h2, toks := tk2 }) k2 H.ok.ok.inn r2 (r1.mono g2) F2 S2 ?_
    intro led3 ρ3 h3 tk3 k3 g3 F3 S3
    exact P .next .next loc ρ3 led3 m h3 tk3 k3 ((g1.trans g2).trans g3) rfl F3 (H.loc.mono ((g1.trans g2).trans g3)) S3
  · exact h.elim
set_option tactic.hygienic false in
theorem set_at {D : Addr} {its : Array Value} {n : Nat} {k : Int} {t : Tok} {v : Value} {Q : Unit → Shared → Prop} {E : Value → Shared → Prop} (ho : s.heap.get? D = some { cls := .type "list", data := .seq its n }) (h0 : 0 ≤ k) (hn : k < its.size) (hz : its.size ≤ 100000)
    (h : ∀ h' n', Heap.SameBut D s.heap h' → h'.get? D = some { cls := .type "list", data := .seq (its.setIfInBounds k.toNat v) n' } → Q () { s with heap := h' }) :
    wpAny R.M R.A (setItem (.ref D) (.int k t) v) Q E s := by
  have hl : s.heap.IsList D its := ⟨_, ho, rfl, n, rfl⟩
  unfold setItem
  try with_reducible refine wpAny_holding ?_
  first | refine wpAny_bind (wpAny_pure ?_) | skip
  refine wpAny_bind (wpAny_sequenceKey hl.typeIs (by decide) ?_)
  refine wpAny_bind (wpAny_callSpecial?_slot (name := Str.ofString "__setitem__") hl.typeIs slot_list_setitem
    (wpAny_call_entry slot_list_setitem hl.typeIs entry_list_setitem ?_ (args_list_setitem _ _ _)))
  show wpAny _ _ (Builtin.List.listSubscript? (.int k t) >>= _) _ _ s
  refine wpAny_bind (wpAny_listSubscript_int (fitsIndex_of h0 (by omega)) ?_)
  obtain ⟨j, rfl⟩ := Int.eq_ofNat_of_zero_le h0
  have hj : j < its.size := by omega
  have hx' : its[j]? = some its[j] := Array.getElem?_eq_getElem hj
  show wpAny _ _ ((seqItemAt D j >>= fun r => pure (r.map (j, ·))) >>= _) _ _ s
  refine wpAny_bind (wpAny_bind (wpAny_seqItemAt ho rfl (wpAny_pure ?_)))
  rw [hx']
  show wpAny _ _ (setSeqItemAt D j v >>= _) _ _ s
  have fin := h (s.heap.update D (Obj.mapSeq (·.setIfInBounds j v))) _ (Heap.SameBut.update ..) (Heap.get?_update_self _ ho rfl)
  refine wpAny_bind (wpAny_setSeqItemAt ho rfl ?_)
  first
    | exact wpAny_bind (wpAny_pure (wpAny_pure ⟨.none, rfl, wpAny_pure fin⟩))
    | exact wpAny_pure ⟨.none, rfl, wpAny_pure fin⟩
set_option tactic.hygienic false in
theorem RepL.set {v : SV} {y : Value} (h : Rep ρ v y) : ∀ {vs : List SV} {xs : List Value} (i : Nat), RepL ρ vs xs → RepL ρ (vs.set i v) (xs.set i y)
  | [], [], _, _ => True.intro
  | _ :: _, _ :: _, 0, z => ⟨h, z.2⟩
  | _ :: _, _ :: _, i + 1, z => ⟨z.1, RepL.set h i z.2⟩
  | [], _ :: _, _, z => z.elim
  | _ :: _, [], _, z => z.elim
theorem asgI_X (S : SndR r) {o i value : Expr} {pa pos : Pos} {K : Fl → Loc → Led → Prop} {Q : Flow → Shared → Prop} {E : Value → Shared → Prop} (h : xAsgI r cx o i value loc led K) (H : At R cx ρ led ex loc m s) (P : PostS R K ρ ex s Q) :
    wpAny R.M R.A (exec (.Assign [.Subscript o i pa] value pos) R.env) Q E s := by
  unfold xAsgI at h
  split at h
  · rename_i hc
    refine wpAny_Assign_Subscript (S.ev h H.here ?_) (swaps_no hc)
    intro v x ρ1 led1 h1 tk1 k1 g1 r1 F1 S1
    refine S.ev k1 (H.go g1 F1 S1).here ?_
    intro ov y ρ2 led2 h2 tk2 k2 g2 r2 F2 S2
    refine S.ev k2 (H.go (g1.trans g2) F2 S2).here ?_
    intro iv z ρ3 led3 h3 tk3 k3 g3 r3 F3 S3
    have g13 := (g1.trans g2).trans g3
    unfold xSetI at k3
    split at k3
    · split at k3
      · rename_i vs ho
        split at k3
        · rename_i zz
          obtain ⟨hz0, hz1, hz2, k3⟩ := k3
          obtain ⟨a, ha, rfl⟩ := r2
          obtain ⟨t, rfl⟩ := r3
          obtain ⟨ob, es, rr, ⟨xs, c, hrs, rfl⟩, N, hm, hnd, hne, up⟩ := S3.upd (g3 _ _ ha) ho
          have hN := N (a, lob xs c) (List.mem_append_left _ hm)
          refine set_at (s := { s with heap := h3, toks := tk3 }) (its := xs.toArray) (n := c) hN.1 hz0 (by rw [List.size_toArray, ← hrs.length]; exact hz1) (by rw [List.size_toArray, ← hrs.length]; exact hz2) fun h4 n4 hs4 hD4 => ?_
          have e3 : ({ cls := .type "list", data := .seq (xs.toArray.setIfInBounds zz.toNat x) n4 } : Obj) = lob (xs.set zz.toNat x) n4 := by
            show ({ cls := .type "list", data := .seq _ n4 } : Obj) = { cls := .type "list", data := .seq _ n4 }
            rw [List.setIfInBounds_toArray]
          rw [e3] at hD4
          exact P .next .next loc ρ3 _ m h4 tk3 k3 g13 rfl (F3.change hs4 hN.2.1 hN.2.2) (H.loc.mono g13) (up (.list (vs.set _ v)) (lob (xs.set _ x) n4) h4 (fun _ _ => True.intro) ⟨_, _, RepL.set (r1.mono (g2.trans g3)) _ hrs, rfl⟩ (news_put N hm hne hs4 hD4))
        · exact k3.elim
      · exact k3.elim
    · exact k3.elim
  · exact h.elim
theorem augA_X (S : SndR r) {o value : Expr} {name : Str} {op : Operator} {pa pos : Pos} {K : Fl → Loc → Led → Prop} {Q : Flow → Shared → Prop} {E : Value → Shared → Prop} (h : xAugA r cx o name op value loc led K) (H : At R cx ρ led ex loc m s) (P : PostS R K ρ ex s Q) :
    wpAny R.M R.A (exec (.AugAssign (.Attribute o name pa) op value pos) R.env) Q E s := by
  unfold xAugA at h
  split at h
  · refine wpAny_AugAssign_AttributeAny (S.ev h H.here ?_)
    intro ov y ρ1 led1 h1 tk1 k1 g1 r1 F1 S1
    refine getA_X (s := { s with heap := h1, toks := tk1 }) k1 H.ok.ok.inn r1 F1 S1 ?_
    intro old x ρ2 led2 h2 tk2 k2 g2 r2 F2 S2
    split at k2
    · obtain ⟨t, rfl⟩ := r2
      refine S.ev k2 (H.go (g1.trans g2) F2 S2).here ?_
      rintro v z ρ3 led3 h3 tk3 ⟨b, rfl, k3⟩ g3 ⟨u, rfl⟩ F3 S3
      refine iadd_int ?_
      refine setA_X (s := { s with heap := h3, toks := tk3 + 1 }) k3 H.ok.ok.inn (r1.mono (g2.trans g3)) ⟨_, rfl⟩ F3 S3 ?_
      intro led4 ρ4 h4 tk4 k4 g4 F4 S4
      have g := ((g1.trans g2).trans g3).trans g4
      exact P .next .next loc ρ4 led4 m h4 tk4 k4 g rfl F4 (H.loc.mono g) S4
    · exact k2.elim
  · exact h.elim
end
end Mine
end
section
open PySem PySem.W PyProof.Rows PySem.Calls PyProof.V PySem.Spec
namespace Mine
set_option tactic.hygienic false in
theorem Fr.ext {h₀ h h' : Heap} {L : Addr} {m : Str → Option Value} {d : Addr} (F : Fr h₀ L h m) (hs : Heap.ExtBut d h h') (hL : d ≠ L) (hn : h₀.get? d = none) : Fr h₀ L h' m := by
  obtain ⟨oL, a1, a2, hoL, a3⟩ := F.ns
  refine ⟨⟨oL, a1, a2, hs L _ hL.symm hoL, a3⟩, fun b x e => hs b _ ?_ (F.keep b x e), F.above⟩
  rintro rfl
  rw [hn] at e; cases e
section
variable {R : Rt} {cx : Cx} {env : Env} {ρ ρ' : List Addr} {led led' : Led} {ex : CbLed} {loc : Loc} {m : Str → Option Value} {s : Shared} {h' : Heap} {tk' : Nat} {r : Rec}
inductive Turn (R : Rt) (ρ : List Addr) (ex : CbLed) (s : Shared) (G : Loc → Led → Prop) (s' : Shared) : Prop
  | mk (ρ' : List Addr) (led' : Led) (loc' : Loc) (m' : Str → Option Value) (h' : Heap) (tk : Nat) (e : s' = { s with heap := h', toks := tk }) (g : Grow ρ ρ') (F : Fr R.h₀ R.L h' m') (l : FrR ρ' loc' m') (S : Sim R h' ρ' led' ex) (h : G loc' led')
set_option tactic.hygienic false in
theorem Turn.trim {tn : Nat} {G : Loc → Led → Prop} {ρ₀ ρ₁ : List Addr} {led₁ : Led} {loc₁ : Loc} {m₁ : Str → Option Value} {h₁ : Heap} {tk₁ : Nat} (htn : ρ₀.length ≤ tn) (g : Grow ρ₀ ρ₁) (F : Fr R.h₀ R.L h₁ m₁) (l : FrR ρ₁ loc₁ m₁) (S : Sim R h₁ ρ₁ led₁ ex) (h : ∃ led₂ loc₂, Trim tn loc₁ led₁ led₂ loc₂ ∧ G loc₂ led₂) :
    Turn R ρ₀ ex s G { s with heap := h₁, toks := tk₁ } := by
  obtain ⟨led₂, loc₂, ⟨⟨j, rfl⟩, ht⟩, z⟩ := h
  rcases ht with rfl | ⟨t1, t2, t3, rfl⟩
  · exact ⟨ρ₁, _, _, m₁, h₁, tk₁, rfl, g, F, l.takeL, S, z⟩
  · exact ⟨ρ₁.take tn, _, _, m₁, h₁, tk₁, rfl, g.take htn, F, l.takeL.take t3, S.take t2, z⟩
theorem Turn.post {G : Nat → Loc → Led → Prop} {tn n : Nat} {K : Fl → Loc → Led → Prop} {Q : Flow → Shared → Prop} {ρ₁ : List Addr} {h₁ : Heap} {tk₁ : Nat} (P : PostS R K ρ ex s Q) (htn : ρ.length ≤ tn) (g₁ : Grow ρ ρ₁) :
    PostS R (fun f loc led => match f with
      | .next => ∃ led₂ loc₂, Trim tn loc led led₂ loc₂ ∧ G n loc₂ led₂
      | .cont => ∃ led₂ loc₂, Trim tn loc led led₂ loc₂ ∧ G n loc₂ led₂
      | .brk => K .next loc led
      | .ret w => K (.ret w) loc led) ρ₁ ex { s with heap := h₁, toks := tk₁ } (fun f s₃ => match f with
        | .next | .cont => ∃ m, m < n + 1 ∧ Turn R ρ ex s (G m) s₃
        | .brk => Q .next s₃
        | .ret v => Q (.ret v) s₃) := by
  intro f fl loc3 ρ3 led3 m3 h3 tk3 k3 g3 r3 F3 l3 S3
  cases f with
  | next =>
    have e : fl = .next := r3
    subst e
    exact ⟨n, Nat.lt_succ_self n, Turn.trim htn (g₁.trans g3) F3 l3 S3 k3⟩
  | cont =>
    have e : fl = .cont := r3
    subst e
    exact ⟨n, Nat.lt_succ_self n, Turn.trim htn (g₁.trans g3) F3 l3 S3 k3⟩
  | brk =>
    have e : fl = .brk := r3
    subst e
    exact P .next .next loc3 ρ3 led3 m3 h3 tk3 k3 (g₁.trans g3) rfl F3 l3 S3
  | ret w =>
    obtain ⟨y, r4, rfl⟩ := r3
    exact P (.ret w) (.ret y) loc3 ρ3 led3 m3 h3 tk3 k3 (g₁.trans g3) ⟨y, r4, rfl⟩ F3 l3 S3
theorem while_X (S : SndR r) {test : Expr} {body orelse : List Stmt} {pos : Pos} {K : Fl → Loc → Led → Prop} {Q : Flow → Shared → Prop} {E : Value → Shared → Prop} (h : xWhile r cx test body orelse loc led K) (H : At R cx ρ led ex loc m s) (P : PostS R K ρ ex s Q) (hE : PassesOwn R.M R.A R.env E) :
    wpAny R.M R.A (exec (.While test body orelse pos) R.env) Q E s := by
  unfold xWhile at h
  split at h
  · obtain ⟨n, h⟩ := h
    refine wpAny_While (codeAny_whileLoop (fun n => Turn R ρ ex s (fun loc led' => whileP r cx led.length test body n loc led' K)) ?_ n ⟨ρ, led, loc, m, s.heap, s.toks, rfl, Grow.refl, H.fr, H.loc, H.sim, h⟩)
    rintro n s' ⟨ρ₁, led₁, loc₁, m₁, h₁, tk₁, rfl, g₁, F₁, l₁, S₁, hw⟩
    cases n with
    | zero => exact hw.elim
    | succ n =>
      have H₁ : At R cx ρ₁ led₁ ex loc₁ m₁ { s with heap := h₁, toks := tk₁ } := ⟨H.ok.mono g₁, F₁, S₁, l₁⟩
      refine S.et hw H₁.here ?_
      intro b ρ2 led2 h2 tk2 k2 g2 F2 S2
      cases b with
      | false =>
        rw [if_neg Bool.false_ne_true]
        exact wpAny_execs_nil (P .next .next loc₁ ρ2 led2 m₁ h2 tk2 k2 (g₁.trans g2) rfl F2 (l₁.mono g2) S2)
      | true =>
        rw [if_pos rfl]
        exact wpAny_passesOwn hE (S.xs k2 (H₁.go g2 F2 S2 (tk' := tk2)) (Turn.post (s := s) (G := fun n loc led' => whileP r cx led.length test body n loc led' K) P (Nat.le_of_eq H.sim.length) (g₁.trans g2)) hE)
  · exact h.elim
theorem citOf_X {iter : Expr} {k : Nat} (h : citOf cx iter loc led = some k) : ∃ x p j, iter = .Name x p ∧ okName x = true ∧ xname cx x loc led = some (.loc k) ∧ led[k]? = some (.cit j) := by
  unfold citOf at h
  split at h
  · split at h
    · rename_i hok
      split at h
      · rename_i hx
        split at h
        · rename_i ho
          injection h with h
          subst h
          exact ⟨_, _, _, rfl, hok, hx, ho⟩
        · cases h
      · cases h
    · cases h
  · cases h
set_option tactic.hygienic false in
theorem strOf_ne {c : Nat} {l : List Nat} : strOf (c :: l) ≠ Str.ofString "" := fun e => by
  have z : (strOf (c :: l)).cps.size = (Str.ofString "").cps.size := by rw [e]
  rw [show (Str.ofString "").cps.size = 0 by decide +kernel] at z
  simp [strOf] at z
set_option tactic.hygienic false in
theorem Sim.at {h : Heap} (S : Sim R h ρ led ex) {k : Nat} {a : Addr} {o : SO} (ha : ρ[k]? = some a) (ho : led[k]? = some o) : ∃ ob, RepO ρ o ob ∧ h.get? a = some ob := by
  obtain ⟨ob, es, W, hr, hm, N⟩ := S.obj ha ho
  exact ⟨ob, hr, (N _ hm).1⟩
theorem cit_end {k : Nat} {I : Addr} {o : SO} {h h3 : Heap} (S : Sim R h ρ led ex) (F : Fr R.h₀ R.L h m) (hI : ρ[k]? = some I) (ho : led[k]? = some o) (e3 : h3.get? I = some citE) (b3 : Heap.ExtBut I h h3) : Fr R.h₀ R.L h3 m ∧ Sim R h3 ρ (led.set k (.frz citE)) ex := by
  obtain ⟨ob, es, rr, hob, N, hm, hnd, hne, up⟩ := S.upd hI ho
  have hN := N (I, ob) (List.mem_append_left _ hm)
  refine ⟨Fr.ext F b3 hN.2.1 hN.2.2, up (.frz citE) citE h3 (fun _ _ => True.intro) rfl fun p hp => ?_⟩
  rcases List.mem_append.mp hp with hp | hp
  · obtain ⟨q, hq, e⟩ := List.mem_map.mp hp
    by_cases h6 : @Eq Nat q.1 I
    · rw [if_pos h6] at e
      rw [← e]
      have : q.1 = I := h6
      rw [this]
      exact ⟨e3, hN.2⟩
    · rw [if_neg h6] at e
      rw [← e]
      have z := N q (List.mem_append_left _ hq)
      exact ⟨b3 _ _ h6 z.1, z.2⟩
  · have z := N p (List.mem_append_right _ hp)
    exact ⟨b3 _ _ (hne p hp) z.1, z.2⟩
noncomputable def citK (r : Rec) (cx : Cx) (tn : Nat) (target : Expr) (body : List Stmt) (k n : Nat) (loc : Loc) (K : Fl → Loc → Led → Prop) (j : Nat) (f : Addr) (i : Nat) : SV → Led → Prop := fun v led => led[k]? = some (.cit j) ∧ match v with
          | .str x => match x with
            | [] => led[j]? = some (.meth f i) ∧ K .next loc (led.set k (.frz citE))
            | _ :: _ => xTarget cx target (.str x) loc led fun loc led => r.xs cx body loc led fun f loc led => match f with
              | .next => ∃ led₂ loc₂, Trim tn loc led led₂ loc₂ ∧ citP r cx tn target body k n loc₂ led₂ K
              | .cont => ∃ led₂ loc₂, Trim tn loc led led₂ loc₂ ∧ citP r cx tn target body k n loc₂ led₂ K
              | .brk => K .next loc led
              | .ret w => K (.ret w) loc led
          | _ => False
inductive CitP (r : Rec) (cx : Cx) (tn : Nat) (target : Expr) (body : List Stmt) (k n : Nat) (loc : Loc) (led : Led) (K : Fl → Loc → Led → Prop) : Prop
  | go (j : Nat) (f : Addr) (i : Nat) (sp : Spec) (h1 : led[k]? = some (.cit j)) (h2 : led[j]? = some (.meth f i)) (h3 : cx.fn f = some sp) (h : sp [.loc i] led (citK r cx tn target body k n loc K j f i))
  | done (h1 : led[k]? = some (.frz citE)) (h : K .next loc led)
theorem citP_inv {tn k n : Nat} {target : Expr} {body : List Stmt} {K : Fl → Loc → Led → Prop} (h : citP r cx tn target body k (n + 1) loc led K) : CitP r cx tn target body k n loc led K := by
  unfold citP at h
  split at h
  · rename_i j hcit
    split at h
    · rename_i f i hme
      split at h
      · rename_i sp hsp
        exact .go j f i sp hcit hme hsp h
      · exact h.elim
    · exact h.elim
  · rename_i ob hfz
    obtain ⟨rfl, hw⟩ := h
    exact .done hfz hw
  · exact h.elim
inductive CitK (r : Rec) (cx : Cx) (tn : Nat) (target : Expr) (body : List Stmt) (k n : Nat) (loc : Loc) (K : Fl → Loc → Led → Prop) (j : Nat) (f : Addr) (i : Nat) (led : Led) : SV → Prop
  | stop (h1 : led[j]? = some (.meth f i)) (h : K .next loc (led.set k (.frz citE))) : CitK r cx tn target body k n loc K j f i led (.str [])
  | go (c : Nat) (l : List Nat) (h : xTarget cx target (.str (c :: l)) loc led fun loc led => r.xs cx body loc led fun f loc led => match f with
              | .next => ∃ led₂ loc₂, Trim tn loc led led₂ loc₂ ∧ citP r cx tn target body k n loc₂ led₂ K
              | .cont => ∃ led₂ loc₂, Trim tn loc led led₂ loc₂ ∧ citP r cx tn target body k n loc₂ led₂ K
              | .brk => K .next loc led
              | .ret w => K (.ret w) loc led) : CitK r cx tn target body k n loc K j f i led (.str (c :: l))
set_option tactic.hygienic false in
theorem citK_inv {tn k n j i : Nat} {f : Addr} {target : Expr} {body : List Stmt} {K : Fl → Loc → Led → Prop} {v : SV} (h : citK r cx tn target body k n loc K j f i v led) : led[k]? = some (.cit j) ∧ CitK r cx tn target body k n loc K j f i led v := by
  refine ⟨h.1, ?_⟩
  have h := h.2
  cases v with
  | str x => cases x with
    | nil => exact .stop h.1 h.2
    | cons c l => exact .go c l h
  | _ => exact h.elim
noncomputable abbrev citB (r : Rec) (cx : Cx) (tn : Nat) (target : Expr) (body : List Stmt) (k n : Nat) (x : List Nat) (loc : Loc) (led : Led) (K : Fl → Loc → Led → Prop) : Prop := xTarget cx target (.str x) loc led fun loc led => r.xs cx body loc led fun f loc led => match f with
              | .next => ∃ led₂ loc₂, Trim tn loc led led₂ loc₂ ∧ citP r cx tn target body k n loc₂ led₂ K
              | .cont => ∃ led₂ loc₂, Trim tn loc led led₂ loc₂ ∧ citP r cx tn target body k n loc₂ led₂ K
              | .brk => K .next loc led
              | .ret w => K (.ret w) loc led
theorem cit_next {tn k n : Nat} {I : Addr} {target : Expr} {body : List Stmt} {K : Fl → Loc → Led → Prop} {Q : Option Value → Shared → Prop} {E : Value → Shared → Prop} (ok : EnvOk R cx env ρ) (hw : citP r cx tn target body k (n + 1) loc led K) (hI : ρ'[k]? = some I) (F : Fr R.h₀ R.L s.heap m) (S : Sim R s.heap ρ' led ex)
    (done : ∀ ρ2 led2 h2 tk2, K .next loc led2 → Grow ρ' ρ2 → Fr R.h₀ R.L h2 m → Sim R h2 ρ2 led2 ex → Q none { s with heap := h2, toks := tk2 })
    (item : ∀ c l t ρ2 led2 h2 tk2, citB r cx tn target body k n (c :: l) loc led2 K → Grow ρ' ρ2 → Fr R.h₀ R.L h2 m → Sim R h2 ρ2 led2 ex → Q (some (.str (strOf (c :: l)) t)) { s with heap := h2, toks := tk2 }) :
    wpAny R.M R.A (pyNext (.ref I)) Q E s := by
  cases citP_inv hw with
  | done hfz hw =>
    obtain ⟨_, rfl, hN⟩ := S.at hI hfz
    refine next_ended rfl hN fun h3 b3 e3 => ?_
    obtain ⟨F3, S3⟩ := cit_end S F hI hfz e3 b3
    have e : led.set k (.frz citE) = led := List.ext_getElem? fun i => by
      rw [List.getElem?_set]
      split
      · rename_i e
        subst e
        rw [hfz, if_pos (ltOfL hfz)]
      · rfl
    rw [e] at S3
    exact done ρ' led h3 s.toks hw Grow.refl F3 S3
  | go j f i sp hcit hme hsp hw =>
    obtain ⟨ok, hfn⟩ := ok.fn f sp hsp
    obtain ⟨_, ⟨q, ts1, hq, rfl⟩, N1⟩ := S.at hI hcit
    obtain ⟨_, ⟨b, hb, rfl⟩, N2⟩ := S.at hq hme
    obtain ⟨oc, od, fd, sl, hf⟩ := hfn _ _ F
    refine next_callN rfl N1 N2 hf rfl (wpAny_call (method_call N2 (ok 1 (by decide) 0 (by decide) m s ρ' led ex [.loc i] [.ref b] _ _ _ hw ⟨⟨b, hb, rfl⟩, True.intro⟩ F S ?_)))
    clear N1 N2 hf
    intro v z ρ2 led2 h2 tk2 k2 g2 r2 F2 S2
    obtain ⟨kc, k9⟩ := citK_inv k2
    clear k2
    obtain ⟨_, ⟨q3, ts3, hq3, rfl⟩, N3⟩ := S2.at (g2 _ _ hI) kc
    obtain rfl : q = q3 := Option.some.inj ((g2 _ _ hq).symm.trans hq3)
    cases k9 with
    | stop km k2 =>
      obtain ⟨t, rfl⟩ := r2
      refine ⟨_, t, ts3, rfl, N3, ?_⟩
      obtain ⟨_, ⟨b4, hb4, rfl⟩, N4⟩ := S2.at hq3 km
      obtain rfl : b = b4 := Option.some.inj ((g2 _ _ hb).symm.trans hb4)
      obtain ⟨oc', od', fd', sl', hf'⟩ := hfn _ _ F2
      refine .inr ⟨by decide +kernel, N4, ⟨_, _, hf', rfl⟩, fun h3 e3 b3 => ?_⟩
      obtain ⟨F3, S3⟩ := cit_end S2 F2 (g2 _ _ hI) kc e3 b3
      exact done ρ2 _ h3 tk2 k2 g2 F3 S3
    | go c l k2 =>
      obtain ⟨t, rfl⟩ := r2
      exact ⟨_, t, ts3, rfl, N3, .inl ⟨strOf_ne, item c l t ρ2 led2 h2 tk2 k2 g2 F2 S2⟩⟩
theorem forN_X (S : SndR r) {target iter : Expr} {body : List Stmt} {pos : Pos} {K : Fl → Loc → Led → Prop} {Q : Flow → Shared → Prop} {E : Value → Shared → Prop} (h : xForN r cx target iter body loc led K) (H : At R cx ρ led ex loc m s) (P : PostS R K ρ ex s Q) (hE : PassesOwn R.M R.A R.env E) :
    wpAny R.M R.A (exec (.For target iter body [] pos) R.env) Q E s := by
  unfold xForN at h
  split at h
  · rename_i k hk
    obtain ⟨htgt, n, h⟩ := h
    obtain ⟨x, p, j₀, rfl, hok, hx, ho⟩ := citOf_X hk
    refine wpAny_For ?_ (fun _ => rfl)
    refine wpAny_Name (loadName_X H.here hx hok ?_) (by unfold okName at hok; simp at hok; exact beq_false_of_ne hok.1)
    rintro y ⟨I, hI, rfl⟩
    obtain ⟨ob, ⟨a, ts, ha, rfl⟩, hg⟩ := H.sim.at hI ho
    refine iter_citO hg rfl ?_
    refine codeAny_forLoop_any (fun n => Turn R ρ ex s (fun loc led' => citP r cx led.length target body k n loc led' K)) ?_ n ⟨ρ, led, loc, m, s.heap, s.toks, rfl, Grow.refl, H.fr, H.loc, H.sim, h⟩
    clear h hg ho hx hk
    rintro n s' ⟨ρ₁, led₁, loc₁, m₁, h₁, tk₁, rfl, g₁, F₁, l₁, S₁, hw⟩
    cases n with
    | zero => exact hw.elim
    | succ n =>
      refine cit_next (s := { s with heap := h₁, toks := tk₁ }) H.ok hw (g₁ _ _ hI) F₁ S₁ (fun ρ2 led2 h2 tk2 k2 g2 F2 S2 => wpAny_execs_nil (P .next .next loc₁ ρ2 _ m₁ h2 tk2 k2 (g₁.trans g2) rfl F2 (l₁.mono g2) S2)) fun c l t ρ2 led2 h2 tk2 k2 g2 F2 S2 => ?_
      refine isNameE_go htgt ?_
      have H2 : At R cx ρ2 led2 ex loc₁ m₁ { s with heap := h2, toks := tk2 } := ⟨H.ok.mono (g₁.trans g2), F2, S2, l₁.mono g2⟩
      refine wpAny_passesOwn hE (target_X k2 ⟨t, rfl⟩ H2 ?_)
      intro loc3 led3 m3 h3 tk3 k3 F3 l3 S3
      exact wpAny_passesOwn hE (S.xs k3 (H2.st Grow.refl F3 l3 S3 (tk' := tk3)) (Turn.post (s := s) (G := fun n loc led' => citP r cx led.length target body k n loc led' K) P (Nat.le_of_eq H.sim.length) (g₁.trans g2)) hE)
  · exact for_X S h H P hE
end
end Mine
end
section
open PySem PySem.W PyProof.Rows PySem.Calls PyProof.V PySem.Spec
namespace Mine
noncomputable def xNm (cx : Cx) (x : Str) (loc : Loc) (led : Led) (K : SV → Led → Prop) : Prop :=
  match okName x with
  | true => match xname cx x loc led with
    | some v => K v led
    | none => False
  | false => False
noncomputable def xCallE (r : Rec) (cx : Cx) (f : Expr) (args : List Expr) (kws : List Keyword) (pos : Pos) (loc : Loc) (led : Led) (K : SV → Led → Prop) : Prop :=
  match kws with
  | [] => match f with
    | .Name x _ => xCallN r cx x args loc led K
    | .Attribute o name pa => xMeth r cx o name pa pos args loc led K
    | _ => False
  | _ => False
noncomputable def xOrE (r : Rec) (cx : Cx) (op : BoolOp) (es : List Expr) (loc : Loc) (led : Led) (K : SV → Led → Prop) : Prop :=
  match es with
  | [a, b] => r.ev cx a loc led fun v led => xTr v led fun c led => match op with
    | .Or => (match c with
      | true => K v led
      | false => r.ev cx b loc led K)
    | .And => (match c with
      | true => r.ev cx b loc led K
      | false => K v led)
  | _ => False
noncomputable def stepE (r : Rec) (cx : Cx) (e : Expr) (loc : Loc) (led : Led) (K : SV → Led → Prop) : Prop :=
  match e with
  | .Name x _ => xNm cx x loc led K
  | .Constant c _ _ => xConst c led K
  | .BinOp l op q _ => xBin r cx l op q loc led K
  | .UnaryOp op a _ => xUn r cx op a loc led K
  | .IfExp t a b _ => xIf r cx t a b loc led K
  | .Compare l ops qs _ => xCmp r cx l ops qs loc led fun c led => K (.bool c) led
  | .List es _ => r.ea cx es loc led fun vs led => vs.length ≤ 100000 ∧ K (.loc led.length) (led ++ [.list vs])
  | .Tuple es _ _ => r.ea cx es loc led fun vs led => vs.length ≤ 100000 ∧ K (.loc led.length) (led ++ [.tup vs])
  | .Subscript a sl _ => xSub r cx a sl loc led K
  | .Call f args kws pos => xCallE r cx f args kws pos loc led K
  | .ListComp elt gens scope _ => xComp r cx elt gens scope loc led fun acc led => K (.loc led.length) (led ++ [.list acc])
  | .BoolOp op es _ => xOrE r cx op es loc led K
  | .Attribute o name _ => xAttr r cx o name loc led K
  | .Lambda params body scope pos => xLamE cx params body scope pos led K
  | _ => False
noncomputable def stepT (r : Rec) (cx : Cx) (e : Expr) (loc : Loc) (led : Led) (K : Bool → Led → Prop) : Prop :=
  match e with
  | .Compare l ops qs _ => xCmp r cx l ops qs loc led K
  | .BoolOp op es _ => match op with
    | .And => xAnd r cx loc es led K
    | .Or => xOr r cx loc es led K
  | .UnaryOp op a _ => match op with
    | .Not => r.et cx a loc led fun c led => K (!c) led
    | _ => False
  | .Name _ _ => r.ev cx e loc led fun v led => xTr v led K
  | .Call _ _ _ _ => r.ev cx e loc led fun v led => xTr v led K
  | .BinOp _ _ _ _ => r.ev cx e loc led fun v led => xTr v led K
  | .Subscript _ _ _ => r.ev cx e loc led fun v led => xTr v led K
  | .Attribute _ _ _ => r.ev cx e loc led fun v led => xTr v led K
  | _ => False
noncomputable def usedBy (cx : Cx) (x : Str) (px : Pos) (scope : Scope) (vp : Pos) : Bool := cx.kind x == some .local && px.line == vp.line && !(scope.names.any fun (n, k) => n == x && (k == .local || k == .cell))
noncomputable def xAssignV (r : Rec) (cx : Cx) (x : Str) (px : Pos) (value : Expr) (loc : Loc) (led : Led) (K : Fl → Loc → Led → Prop) : Prop :=
  match value with
  | .ListComp elt gens scope vp => match usedBy cx x px scope vp with
    | true => xComp r cx elt gens scope loc led fun acc led => xstore cx x (.loc led.length) loc (led ++ [.list acc]) fun loc led => K .next loc led
    | false => r.ev cx value loc led fun v led => xstore cx x v loc led fun loc led => K .next loc led
  | value => xAssign r cx x value loc led K
noncomputable def xAsg (r : Rec) (cx : Cx) (ts : List Expr) (value : Expr) (loc : Loc) (led : Led) (K : Fl → Loc → Led → Prop) : Prop :=
  match ts with
  | [t] => match t with
    | .Name x px => xAssignV r cx x px value loc led K
    | .Tuple es k p => xAssignT r cx es k p value loc led K
    | .Attribute o name _ => xAsgA r cx o name value loc led K
    | .Subscript o i _ => xAsgI r cx o i value loc led K
    | _ => False
  | _ => False
noncomputable def xAugE (r : Rec) (cx : Cx) (t : Expr) (op : Operator) (value : Expr) (loc : Loc) (led : Led) (K : Fl → Loc → Led → Prop) : Prop :=
  match t with
  | .Name x _ => xAug r cx x op value loc led K
  | .Attribute o name _ => xAugA r cx o name op value loc led K
  | _ => False
noncomputable def xForE (r : Rec) (cx : Cx) (target iter : Expr) (body orelse : List Stmt) (loc : Loc) (led : Led) (K : Fl → Loc → Led → Prop) : Prop :=
  match orelse with
  | [] => xForN r cx target iter body loc led K
  | _ => False
noncomputable def xTry (r : Rec) (cx : Cx) (body : List Stmt) (hs : List ExceptHandler) (orelse final : List Stmt) (loc : Loc) (led : Led) (K : Fl → Loc → Led → Prop) : Prop :=
  match body with
  | [st] => match st with
    | .Return e _ => match e with
      | some e => match hs with
        | _ :: _ => match orelse with
          | [] => match final with
            | [] => r.ev cx e loc led fun v led => K (.ret v) loc led
            | _ => False
          | _ => False
        | [] => False
      | none => False
    | _ => False
  | _ => False
noncomputable def stepS (r : Rec) (cx : Cx) (st : Stmt) (loc : Loc) (led : Led) (K : Fl → Loc → Led → Prop) : Prop :=
  match st with
  | .Assign ts value _ => xAsg r cx ts value loc led K
  | .AugAssign t op value _ => xAugE r cx t op value loc led K
  | .Expr e _ => xExpr r cx e loc led K
  | .If t b o _ => xIfS r cx t b o loc led K
  | .For t it b o _ => xForE r cx t it b o loc led K
  | .While t b o _ => xWhile r cx t b o loc led K
  | .FunctionDef name params body decos rets tps scope tscope bind pos => xDefS cx name params body decos rets tps scope tscope bind pos loc led K
  | .Return e _ => match e with
    | some e => r.ev cx e loc led fun v led => K (.ret v) loc led
    | none => K (.ret .none) loc led
  | .Break _ => K .brk loc led
  | .Continue _ => K .cont loc led
  | .Try body hs orelse final _ => xTry r cx body hs orelse final loc led K
  | _ => False
noncomputable def stepR (r : Rec) : Rec where
  ev := stepE r
  et := stepT r
  ea := xArgs r
  ex := stepS r
  xs := xSeq r
noncomputable def run : Nat → Rec
  | 0 => { ev := fun _ _ _ _ _ => False, et := fun _ _ _ _ _ => False, ea := fun _ _ _ _ _ => False, ex := fun _ _ _ _ _ => False, xs := fun _ _ _ _ _ => False }
  | n + 1 => stepR (run n)
section
variable {R : Rt} {cx : Cx} {env : Env} {ρ ρ' : List Addr} {led led' : Led} {ex : CbLed} {loc : Loc} {m : Str → Option Value} {s : Shared} {h' : Heap} {tk' : Nat} {r : Rec}
set_option tactic.hygienic false in
theorem callE_X (S : SndR r) {f : Expr} {args : List Expr} {kws : List Keyword} {pos : Pos} {K : SV → Led → Prop} {Q E : Value → Shared → Prop} (h : xCallE r cx f args kws pos loc led K) (H : Here R cx env ρ led ex loc m s) (P : PostE R K ρ ex m s Q) :
    wpAny R.M R.A (eval (.Call f args kws pos) env) Q E s := by
  unfold xCallE at h
  split at h
  · split at h
    · exact callN_X S h H P
    · exact meth_X S h H P
    · exact False.elim h
  · exact False.elim h
set_option tactic.hygienic false in
theorem usedBy_X {x : Str} {px vp : Pos} {elt : Expr} {gens : List Comprehension} {scope : Scope} {l : Nat} (H : EnvOk R cx R.env ρ) : swapsWith (.ListComp elt gens scope vp) (some (.Name x px)) l R.env = pure (usedBy cx x px scope vp) := by
  have hb : (R.env.blockKind == .function) = true := by
    unfold Env.blockKind
    rw [H.kind]; rfl
  unfold swapsWith usedBy
  dsimp only
  rw [hb, H.kd x, Bool.true_and]
  rfl
theorem assignV_X (S : SndR r) {x : Str} {px pos : Pos} {value : Expr} {K : Fl → Loc → Led → Prop} {Q : Flow → Shared → Prop} {E : Value → Shared → Prop} (h : xAssignV r cx x px value loc led K) (H : At R cx ρ led ex loc m s) (P : PostS R K ρ ex s Q) :
    wpAny R.M R.A (exec (.Assign [.Name x px] value pos) R.env) Q E s := by
  unfold xAssignV at h
  split at h
  · split at h
    · rename_i hu
      exact assignC_X S h (by rw [usedBy_X H.ok, hu]) H P
    · rename_i hu
      refine wpAny_Assign_Name (S.ev h H.here ?_) (by rw [usedBy_X H.ok, hu])
      intro v y ρ1 led1 h1 tk1 k1 g1 r1 F1 S1
      refine store_X k1 (H.go g1 F1 S1) r1 ?_
      intro loc2 led2 m2 h2 tk2 k2 F2 l2 S2
      exact P .next .next loc2 ρ1 led2 m2 h2 tk2 k2 g1 rfl F2 l2 S2
  · exact Assign_X S h H P
theorem orE_X (S : SndR r) {op : BoolOp} {es : List Expr} {pos : Pos} {K : SV → Led → Prop} {Q E : Value → Shared → Prop} (h : xOrE r cx op es loc led K) (H : Here R cx env ρ led ex loc m s) (P : PostE R K ρ ex m s Q) :
    wpAny R.M R.A (eval (.BoolOp op es pos) env) Q E s := by
  unfold xOrE at h
  split at h
  · rename_i a b
    cases op with
    | Or =>
      refine BoolOp_or (S.ev h H ?_)
      intro v x ρ1 led1 h1 tk1 k1 g1 r1 F1 S1
      refine xTr_ok (s := { s with heap := h1, toks := tk1 }) k1 r1 S1 fun c tk k2 => ?_
      cases c with
      | true => rw [if_pos rfl]; exact P v x ρ1 led1 h1 tk k2 g1 r1 F1 S1
      | false => rw [if_neg Bool.false_ne_true]; exact BoolOp_one (S.ev k2 (H.go g1 F1 S1) (P.go g1))
    | And =>
      refine BoolOp_and (S.ev h H ?_)
      intro v x ρ1 led1 h1 tk1 k1 g1 r1 F1 S1
      refine xTr_ok (s := { s with heap := h1, toks := tk1 }) k1 r1 S1 fun c tk k2 => ?_
      cases c with
      | true => rw [if_pos rfl]; exact BoolOp_one (S.ev k2 (H.go g1 F1 S1) (P.go g1))
      | false => rw [if_neg Bool.false_ne_true]; exact P v x ρ1 led1 h1 tk k2 g1 r1 F1 S1
  · exact False.elim h
theorem stepE_ok (S : SndR r) {e : Expr} {K : SV → Led → Prop} {Q E : Value → Shared → Prop} (h : stepE r cx e loc led K) (H : Here R cx env ρ led ex loc m s) (P : PostE R K ρ ex m s Q) : wpAny R.M R.A (eval e env) Q E s := by
  cases e with
  | Name x p =>
    have h : xNm cx x loc led K := h
    unfold xNm at h
    split at h
    · rename_i hok
      split at h
      · rename_i v hv
        exact Name_X H hv hok h P
      · exact False.elim h
    · exact False.elim h
  | Constant c k p => exact Const_X h H P
  | BinOp l op q p => exact BinOp_X S h H P
  | UnaryOp op a p => exact Un_X S h H P
  | IfExp t a b p => exact IfExp_X S h H P
  | Compare l ops qs p => exact Compare_X S h H P
  | List es p => exact List_X S h H P
  | Tuple es k p => exact Tuple_X S h H P
  | Subscript a sl p => exact sub_X S h H P
  | Call f args kws p => exact callE_X S h H P
  | ListComp elt gens scope p => exact compE_X S h H P
  | BoolOp op es p => exact orE_X S h H P
  | Attribute o name p => exact attr_X S h H P
  | Lambda params body scope p => exact lamE_X h H P
  | _ => exact False.elim h
set_option tactic.hygienic false in
theorem stepT_ok (S : SndR r) {e : Expr} {K : Bool → Led → Prop} {Q : Bool → Shared → Prop} {E : Value → Shared → Prop} (h : stepT r cx e loc led K) (H : Here R cx env ρ led ex loc m s) (P : PostT R K ρ ex m s Q) : wpAny R.M R.A (PySem.isTrue e env (eval e env)) Q E s := by
  cases e with
  | Compare l ops qs p => exact Compare_T S h H P
  | BoolOp op es p =>
    cases op with
    | And => exact And_T S h H P
    | Or => exact Or_T S h H P
  | UnaryOp op a p =>
    cases op with
    | Not => exact Not_T S h H P
    | _ => exact False.elim h
  | Name x p => exact Plain_T S h H P rfl
  | Call f args kws p => exact Plain_T S h H P rfl
  | BinOp l op q p => exact Plain_T S h H P rfl
  | Subscript a sl p => exact Plain_T S h H P rfl
  | Attribute a sl p => exact Plain_T S h H P rfl
  | _ => exact False.elim h
theorem try_X (S : SndR r) {body orelse final : List Stmt} {hs : List ExceptHandler} {p : Pos} {K : Fl → Loc → Led → Prop} {Q : Flow → Shared → Prop} {E : Value → Shared → Prop} (h : xTry r cx body hs orelse final loc led K) (H : At R cx ρ led ex loc m s) (P : PostS R K ρ ex s Q) : wpAny R.M R.A (exec (.Try body hs orelse final p) R.env) Q E s := by
  unfold xTry at h
  split at h
  · split at h
    · split at h
      · split at h
        · split at h
          · split at h
            · refine wpAny_Try_except (wpAny_execs_cons (Ret_X S h H ?_))
              intro f fl loc1 ρ1 led1 m1 h1 tk1 k1 g1 r1 F1 l1 S1
              cases f with
              | ret v =>
                have z := P (.ret v) fl loc1 ρ1 led1 m1 h1 tk1 k1 g1 r1 F1 l1 S1
                obtain ⟨y, r2, rfl⟩ := r1
                exact z
              | next =>
                have z := P .next fl loc1 ρ1 led1 m1 h1 tk1 k1 g1 r1 F1 l1 S1
                obtain rfl : fl = .next := r1
                exact wpAny_execs_nil (wpAny_execs_nil z)
              | brk =>
                have z := P .brk fl loc1 ρ1 led1 m1 h1 tk1 k1 g1 r1 F1 l1 S1
                obtain rfl : fl = .brk := r1
                exact z
              | cont =>
                have z := P .cont fl loc1 ρ1 led1 m1 h1 tk1 k1 g1 r1 F1 l1 S1
                obtain rfl : fl = .cont := r1
                exact z
            · exact h.elim
          · exact h.elim
        · exact h.elim
      · exact h.elim
    · exact h.elim
  · exact h.elim
set_option tactic.hygienic false in
theorem stepS_ok (S : SndR r) {st : Stmt} {K : Fl → Loc → Led → Prop} {Q : Flow → Shared → Prop} {E : Value → Shared → Prop} (h : stepS r cx st loc led K) (H : At R cx ρ led ex loc m s) (P : PostS R K ρ ex s Q) (hE : PassesOwn R.M R.A R.env E) : wpAny R.M R.A (exec st R.env) Q E s := by
  cases st with
  | Assign ts value p =>
    have h : xAsg r cx ts value loc led K := h
    unfold xAsg at h
    split at h
    · split at h
      · exact assignV_X S h H P
      · exact AssignT_X S h H P
      · exact asgA_X S h H P
      · exact asgI_X S h H P
      · exact False.elim h
    · exact False.elim h
  | AugAssign t op value p =>
    cases t with
    | Name x px => exact Aug_X S h H P
    | Attribute o name pa => exact augA_X S h H P
    | _ => exact False.elim h
  | Expr e p => exact Expr_X S h H P
  | If t b o p => exact If_X S h H P hE
  | For t it b o p =>
    cases o with
    | nil => exact forN_X S h H P hE
    | cons _ _ => exact False.elim h
  | Return e p =>
    cases e with
    | some e => exact Ret_X S h H P
    | none => exact wpAny_Return_none (P (.ret .none) (.ret .none) loc ρ led m s.heap s.toks h Grow.refl ⟨.none, rfl, rfl⟩ H.fr H.loc H.sim)
  | While t b o p => exact while_X S h H P hE
  | Try body hs orelse final p => exact try_X S h H P
  | FunctionDef name params body decos rets tps scope tscope bind pos => exact defS_X h H P
  | Break p => exact wpAny_Break (P .brk .brk loc ρ led m s.heap s.toks h Grow.refl rfl H.fr H.loc H.sim)
  | Continue p => exact wpAny_Continue (P .cont .cont loc ρ led m s.heap s.toks h Grow.refl rfl H.fr H.loc H.sim)
  | _ => exact False.elim h
end
set_option tactic.hygienic false in
theorem run_ok : ∀ n, SndR (run n)
  | 0 => ⟨fun h => False.elim h, fun h => False.elim h, fun h => False.elim h, fun h => False.elim h, fun h => False.elim h⟩
  | n + 1 => ⟨fun h H P => stepE_ok (run_ok n) h H P, fun h H P => stepT_ok (run_ok n) h H P, fun h H P => Args_X (run_ok n) h H P, fun h H P hE => stepS_ok (run_ok n) h H P hE, fun h H P hE => Seq_X (run_ok n) h H P hE⟩
end Mine
end
section
open PySem PySem.W PyProof.Rows PySem.Calls PyProof.V PySem.Spec
namespace Mine
set_option maxRecDepth 100000
set_option maxHeartbeats 8000000
noncomputable def globsL : List (Str × Value) := [(Str.ofString "int_divmod", .ref 105), (Str.ofString "_int2digits", .ref 84), (Str.ofString "_digits2int", .ref 91), (Str.ofString "parse257", .ref 137), (Str.ofString "_law_lexer", .ref 144), (Str.ofString "_law_told", .ref 192), (Str.ofString "_div2n1n", .ref 70), (Str.ofString "_divmod_pos", .ref 98), (Str.ofString "_netrclex", .ref 59), (Str.ofString "_DIV_LIMIT", .int 4000 256),
  (Str.ofString "_law_text", .ref 149), (Str.ofString "_law_written", .ref 154), (Str.ofString "_law_reading", .ref 161), (Str.ofString "_law_folded", .ref 166), (Str.ofString "_law_partner", .ref 173), (Str.ofString "_law_units", .ref 180), (Str.ofString "_law_fits", .ref 187)]
noncomputable def bootL : List (Str × Value) := [(Str.ofString "len", .builtin "len"), (Str.ofString "sum", .builtin "sum"), (Str.ofString "range", .type "range"), (Str.ofString "str", .type "str"), (Str.ofString "divmod", .builtin "divmod"), (Str.ofString "reversed", .type "reversed"), (Str.ofString "iter", .builtin "iter"), (Str.ofString "abs", .builtin "abs"), (Str.ofString "chr", .builtin "chr")]
noncomputable def globX (x : Str) : Option Value := match globsL.lookup x with
  | some v => some v
  | none => bootL.lookup x
set_option tactic.hygienic false in
theorem lookup_mem {α : Type} : ∀ {l : List (Str × α)} {x : Str} {v : α}, l.lookup x = some v → (x, v) ∈ l
  | [], _, _, h => by cases h
  | (n, i) :: l, x, k, h => by
    rw [List.lookup_cons] at h
    cases hx : x == n with
    | true =>
      rw [hx] at h
      injection h with h
      rw [← h, show x = n from eq_of_beq hx]
      exact .head _
    | false => rw [hx] at h; exact .tail _ (lookup_mem h)
set_option maxRecDepth 100000 in
set_option tactic.hygienic false in
theorem globs_in (w : World) : ∀ p ∈ globsL, nsIn (hd.heap_39 w.params) mainGlobals p.1 = some (some p.2) := by
  intro p hp
  unfold globsL at hp
  simp only [List.mem_cons, List.not_mem_nil, or_false] at hp
  repeat (rcases hp with rfl | hp; · kernel_rfl)
set_option maxRecDepth 100000 in
set_option tactic.hygienic false in
theorem boot_in (w : World) : ∀ p ∈ bootL, nsIn (hd.heap_39 w.params) mainGlobals p.1 = some none ∧ bootBuiltins p.1 = some p.2 ∧ p.1 ≠ "__name__" := by
  intro p hp
  unfold bootL at hp
  simp only [List.mem_cons, List.not_mem_nil, or_false] at hp
  repeat (rcases hp with rfl | hp; · exact ⟨by kernel_rfl, by kernel_rfl, by decide +kernel⟩)
theorem glob_ok (R : Rt) (hR : R.Ok 0 0) (x : Str) (v : Value) (h : globX x = some v) (m : Str → Option Value) (s : Shared) (Q E : Value → Shared → Prop) (F : Fr R.h₀ R.L s.heap m) (q : Q v s) : wpAny R.M R.A (loadGlobal R.env x) Q E s := by
  have T := hR.top
  unfold globX at h
  split at h
  · rename_i v' hv
    injection h with h
    subst h
    exact loadGlobal_global (env := R.env) (T.g.keeps F.keep) (mg_of hR.inn T.g (globs_in R.w _ (lookup_mem hv))) q
  · obtain ⟨h1, h2, h3⟩ := boot_in R.w _ (lookup_mem h)
    exact loadGlobal_builtin (env := R.env) (T.g.keeps F.keep) (mg_none_of hR.inn T.g h1) (T.b.keeps F.keep) ((T.builtins x h3).trans h2) q
noncomputable def P0 : Params := { strHash := fun _ => 0, shareClass := fun _ => 0, mergeTok := fun t => t, idOf := fun _ => 0, idOfShared := fun _ _ => 0, followText := fun _ => false, idOfImm := fun _ => 0 }
noncomputable def objOf (f : Addr) : Obj := ((hd.heap_39 P0).lookup f).getD default
noncomputable def fdOf (f : Addr) : FuncData := match (objOf f).data with
  | .func fd => fd
  | _ => default
noncomputable def bodyOf (f : Addr) : List Stmt := match (fdOf f).body with
  | .stmts b => b
  | _ => []
noncomputable def forTgt : Stmt → Expr
  | .For t _ _ _ _ => t
  | _ => default
noncomputable def forBody : Stmt → List Stmt
  | .For _ _ b _ _ => b
  | _ => []
noncomputable def stOf (f : Addr) (i : Nat) : Stmt := ((bodyOf f)[i]?).getD default
noncomputable def cellNs (scope : Scope) : List Str := (cellsFrom 0 scope.names []).map (·.1)
noncomputable def idxFrom : Nat → List Str → List (Str × Nat)
  | _, [] => []
  | n, x :: xs => (x, n) :: idxFrom (n + 1) xs
noncomputable def cellObjs (ps : List Str) (vs : List SV) (ns : List Str) : Led := ns.map fun x => .cell ((ps.zip vs).lookup x)
noncomputable def cxC (f : Addr) (fn : Addr → Option Spec) (room : Nat) (tab : Option TabD) (base : Nat) : Cx := ⟨fun x => (fdOf f).scope.names.lookup x, idxFrom base (cellNs (fdOf f).scope), globX, fn, room, tab, none⟩
noncomputable def bodySpecR (r : Rec) (f : Addr) (fn : Addr → Option Spec) (room : Nat) (tab : Option TabD) (ps : List Str) : Spec := fun vs led K =>
  match bindLoc (fdOf f).scope ps vs with
  | some loc => r.xs (cxC f fn room tab led.length) (bodyOf f) loc (led ++ cellObjs ps vs (cellNs (fdOf f).scope)) (bodyK K)
  | none => False
noncomputable abbrev bodySpecC (n : Nat) (f : Addr) (fn : Addr → Option Spec) (room : Nat) (tab : Option TabD) (ps : List Str) : Spec := bodySpecR (run n) f fn room tab ps
set_option tactic.hygienic false in
theorem bindL_not {k : Str → Option NameKind} : ∀ {bs : List (Str × Value)} {m : Str → Option Value} {x : Str}, (∀ p ∈ bs, p.1 ≠ x) → bindL k bs m x = m x
  | [], _, _, _ => rfl
  | (n, v) :: bs, m, x, h => by
    unfold bindL
    rw [bindL_not fun p hp => h p (.tail _ hp)]
    have hn : x ≠ n := Ne.symm (h (n, v) (.head _))
    split
    · exact if_neg hn
    · rfl
noncomputable def cellNames (scope : Scope) (ps : List Str) : Bool :=
  (ps.all fun p => scope.names.lookup p == some .local || scope.names.lookup p == some .cell) && (scope.kind == .function) && !scope.isCoroutine && !scope.isGenerator && decide ps.Nodup && decide (cellNs scope).Nodup && ((cellNs scope).all fun x => scope.names.lookup x == some .cell)
set_option tactic.hygienic false in
theorem cellsFrom_fst : ∀ {names : List (Str × NameKind)} {n k : Nat} {acc acc' : List (Str × Addr)}, acc.map (·.1) = acc'.map (·.1) → (cellsFrom n names acc).map (·.1) = (cellsFrom k names acc').map (·.1)
  | [], _, _, _, _, h => h
  | (x, kd) :: names, n, k, acc, acc', h => by
    unfold cellsFrom
    split
    · exact cellsFrom_fst (by simp [h])
    · exact cellsFrom_fst h
set_option tactic.hygienic false in
theorem cellsFrom_snd : ∀ {names : List (Str × NameKind)} {n lo : Nat} {acc : List (Str × Addr)}, lo ≤ n → (∀ p ∈ acc, lo ≤ p.2 ∧ p.2 < n) → (acc.map (·.2)).Nodup → ((cellsFrom n names acc).map (·.2)).Nodup ∧ ∀ p ∈ cellsFrom n names acc, lo ≤ p.2
  | [], _, _, _, _, h, hn => ⟨hn, fun p hp => (h p hp).1⟩
  | (x, kd) :: names, n, lo, acc, hl, h, hn => by
    unfold cellsFrom
    split
    · refine cellsFrom_snd (n := n + 1) (by omega) ?_ ?_
      · intro p hp
        rcases List.mem_cons.mp hp with rfl | hp
        · exact ⟨hl, Nat.lt_succ_self n⟩
        · exact ⟨(h p hp).1, Nat.lt_succ_of_lt (h p hp).2⟩
      · rw [List.map_cons]
        refine List.nodup_cons.mpr ⟨fun hm => ?_, hn⟩
        obtain ⟨p, hp, e⟩ := List.mem_map.mp hm
        have z := (h p hp).2
        rw [show p.2 = n from e] at z
        exact Nat.lt_irrefl _ z
    · exact cellsFrom_snd hl h hn
set_option tactic.hygienic false in
theorem idx_lookup : ∀ {l : List (Str × Addr)} {b k : Nat} {x : Str}, (idxFrom b (l.map (·.1))).lookup x = some k → ∃ c, l.lookup x = some c ∧ b ≤ k ∧ (l.map (·.2))[k - b]? = some c
  | [], _, _, _, h => by cases h
  | (n, c) :: l, b, k, x, h => by
    rw [List.map_cons] at h
    unfold idxFrom at h
    rw [List.lookup_cons] at h ⊢
    cases hx : x == n with
    | true =>
      rw [hx] at h
      injection h with h
      subst h
      exact ⟨c, rfl, Nat.le_refl _, by simp⟩
    | false =>
      rw [hx] at h
      obtain ⟨c', h1, h2, h3⟩ := idx_lookup h
      refine ⟨c', h1, by omega, ?_⟩
      have e : k - b = (k - (b + 1)) + 1 := by omega
      rw [e, List.map_cons, List.getElem?_cons_succ]
      exact h3
set_option tactic.hygienic false in
theorem RepE.appL {ρ : List Addr} : ∀ {as : List Addr} {os : Led} {es : CbLed} {bs : List Addr} {qs : Led} {cs : CbLed}, RepE ρ as os es → RepE ρ bs qs cs → RepE ρ (as ++ bs) (os ++ qs) (es ++ cs)
  | [], [], [], _, _, _, _, h => h
  | _ :: _, _ :: _, (_, _) :: _, _, _, _, h, g => ⟨h.1, h.2.1, RepE.appL h.2.2 g⟩
  | [], _ :: _, _, _, _, _, h, _ => h.elim
  | [], [], _ :: _, _, _, _, h, _ => h.elim
  | _ :: _, [], _, _, _, _, h, _ => h.elim
  | _ :: _, _ :: _, [], _, _, _, h, _ => h.elim
set_option tactic.hygienic false in
theorem cells_rep {ρ : List Addr} {cm : Str → Option Value} {g : Str → Option SV} (hg : ∀ x, match g x with | some v => ∃ y, cm x = some y ∧ Rep ρ v y | none => cm x = none) : ∀ {cs : List (Str × Addr)} {cells : CbLed}, CellsAre cm cs cells → RepE ρ (cs.map (·.2)) ((cs.map (·.1)).map fun x => .cell (g x)) cells
  | _, _, .nil => trivial
  | _, _, .cons (n := n) (o := o) hd hr => by
    refine ⟨rfl, ?_, cells_rep hg hr⟩
    have z := hg n
    show RepO ρ (.cell (g n)) o
    cases hgn : g n with
    | none =>
      rw [hgn] at z
      show o.data = .cell none
      rw [hd, show cm n = none from z]
    | some v =>
      rw [hgn] at z
      obtain ⟨y, h1, h2⟩ := z
      exact ⟨y, h2, by rw [hd, h1]⟩
set_option tactic.hygienic false in
theorem CellsAre.fst {cm : Str → Option Value} : ∀ {cs : List (Str × Addr)} {cells : CbLed}, CellsAre cm cs cells → cells.map (·.1) = cs.map (·.2)
  | _, _, .nil => rfl
  | _, _, .cons _ hr => by rw [List.map_cons, List.map_cons, CellsAre.fst hr]
set_option tactic.hygienic false in
theorem cells_data {cm : Str → Option Value} : ∀ {cs : List (Str × Addr)} {cells : CbLed}, CellsAre cm cs cells → ∀ p ∈ cells, ∃ v, p.2.data = .cell v
  | _, _, .nil, _, h => nomatch h
  | _, _, .cons hd hr, p, h => by
    rcases List.mem_cons.mp h with rfl | h
    · exact ⟨_, hd⟩
    · exact cells_data hr p h
set_option tactic.hygienic false in
theorem cellsAre_congr {cm cm' : Str → Option Value} : ∀ {cs : List (Str × Addr)} {cells : CbLed}, (∀ p ∈ cs, cm' p.1 = cm p.1) → CellsAre cm cs cells → CellsAre cm' cs cells
  | _, _, _, .nil => .nil
  | _, _, h, .cons hd hr => .cons (by rw [hd]; exact congrArg Data.cell (h _ (.head _)).symm) (cellsAre_congr (fun p hp => h p (.tail _ hp)) hr)
set_option tactic.hygienic false in
theorem bindC_not {k : Str → Option NameKind} : ∀ {bs : List (Str × Value)} {m : Str → Option Value} {x : Str}, (∀ p ∈ bs, p.1 ≠ x) → bindC k bs m x = m x
  | [], _, _, _ => rfl
  | (n, v) :: bs, m, x, h => by
    unfold bindC
    rw [bindC_not fun p hp => h p (.tail _ hp)]
    have hn : x ≠ n := Ne.symm (h (n, v) (.head _))
    split
    · rfl
    · exact if_neg hn
set_option tactic.hygienic false in
theorem bindC_rep {ρ : List Addr} {k : Str → Option NameKind} (ps : List Str) : ∀ {vs : List SV} {xs : List Value} {m : Str → Option Value}, RepL ρ vs xs → ps.length = vs.length → ps.Nodup → ∀ x, k x = some .cell → match (ps.zip vs).lookup x with | some v => ∃ y, bindC k (ps.zip xs) m x = some y ∧ Rep ρ v y | none => bindC k (ps.zip xs) m x = m x := by
  induction ps with
  | nil => intro vs xs m _ _ _ x _; rfl
  | cons p ps ih =>
    intro vs xs m hr hl hn x hx
    cases vs with
    | nil => cases hl
    | cons v vs =>
      cases xs with
      | nil => exact hr.elim
      | cons y ys =>
        have hn1 := List.nodup_cons.mp hn
        show match List.lookup x ((p, v) :: ps.zip vs) with | some v => ∃ z, bindC k ((p, y) :: ps.zip ys) m x = some z ∧ Rep ρ v z | none => bindC k ((p, y) :: ps.zip ys) m x = m x
        rw [List.lookup_cons]
        unfold bindC
        cases hxp : x == p with
        | true =>
          have e : x = p := eq_of_beq hxp
          subst e
          rw [if_neg (by rw [hx]; decide), bindC_not (fun q hq e => hn1.1 (by rw [← e]; exact zip_fst q hq))]
          exact ⟨y, if_pos rfl, hr.1⟩
        | false =>
          have ne : ¬ x = p := fun e => by rw [e] at hxp; simp at hxp
          have z := ih (m := if k p = some .local then m else fun y' => if y' = p then some y else m y') hr.2 (by simpa using hl) hn1.2 x hx
          have e2 : (if k p = some .local then m else fun y' => if y' = p then some y else m y') x = m x := by
            split
            · rfl
            · exact if_neg ne
          rw [e2] at z
          exact z
set_option tactic.hygienic false in
theorem bindLoc_rep {ρ : List Addr} {k : Str → Option NameKind} {scope : Scope} (hk : ∀ x, k x = scope.names.lookup x) (ps : List Str) : ∀ {vs : List SV} {xs : List Value} {loc : Loc} {m : Str → Option Value}, bindLoc scope ps vs = some loc → RepL ρ vs xs → ps.Nodup → FrR ρ loc (bindL k (ps.zip xs) m) := by
  induction ps with
  | nil =>
    intro vs xs loc m h hr _
    cases vs with
    | nil =>
      injection h with h
      subst h
      intro x v e; cases e
    | cons v vs => cases h
  | cons p ps ih =>
    intro vs xs loc m h hr hn
    cases vs with
    | nil => cases h
    | cons v vs =>
      cases xs with
      | nil => exact hr.elim
      | cons y ys =>
        unfold bindLoc at h
        cases hb : bindLoc scope ps vs with
        | none => rw [hb] at h; cases h
        | some l =>
          rw [hb] at h
          injection h with h
          have hn1 := List.nodup_cons.mp hn
          intro x w e
          show ∃ z, bindL k ((p, y) :: ps.zip ys) m x = some z ∧ Rep ρ w z
          unfold bindL
          by_cases hp : scope.names.lookup p = some .local
          · rw [if_pos (by rw [hk]; exact hp)]
            simp only [if_pos hp] at h
            subst h
            rw [List.lookup_cons] at e
            cases hx : x == p with
            | true =>
              rw [hx] at e
              injection e with e
              subst e
              have exp : x = p := eq_of_beq hx
              rw [bindL_not (fun q hq => by
                intro e
                exact hn1.1 (by rw [← exp, ← e]; exact zip_fst q hq))]
              exact ⟨y, if_pos exp, hr.1⟩
            | false =>
              rw [hx] at e
              exact ih (m := fun y' => if y' = p then some y else m y') hb hr.2 hn1.2 x w e
          · rw [if_neg (by rw [hk]; exact hp)]
            simp only [if_neg hp] at h
            subst h
            exact ih hb hr.2 hn1.2 x w e
noncomputable def fnObj (f : Addr) : Obj := ⟨(objOf f).cls, (objOf f).dict, .func (fnOf (fdOf f).name (fdOf f).qualname (fdOf f).params (bodyOf f) (fdOf f).scope (fdOf f).defaults (fdOf f).kwdefaults (fdOf f).doc (fdOf f).pyModule (fdOf f).annotations (fdOf f).code (fdOf f).closureTuple), (objOf f).slots⟩
structure FnHd (f : Addr) (ps : List Str) : Prop where
  ho : ∀ w : World, (hd.heap_39 w.params).lookup f = some (fnObj f)
  hcd : ∀ w : World, codeIn (hd.heap_39 w.params) (fdOf f).code (fdOf f).qualname = true
  hp : cellNames (fdOf f).scope ps = true
  hb : ∀ xs : List Value, xs.length = ps.length → bindArgs (fnOf (fdOf f).name (fdOf f).qualname (fdOf f).params (bodyOf f) (fdOf f).scope (fdOf f).defaults (fdOf f).kwdefaults (fdOf f).doc (fdOf f).pyModule (fdOf f).annotations (fdOf f).code (fdOf f).closureTuple) ⟨xs, []⟩ = pure (ps.zip xs)
set_option tactic.hygienic false in
theorem fnAt_of {R : Rt} {D U : Nat} (hR : R.Ok D U) {q : Addr} {h : Heap} {m : Str → Option Value} (ho : ∀ w : World, (hd.heap_39 w.params).lookup q = some (fnObj q)) (F : Fr R.h₀ R.L h m) : FnAt q h :=
  ⟨_, _, _, _, (hR.inn.keeps F.keep) _ _ (ho R.w)⟩
set_option tactic.hygienic false in
theorem fnR_Y {D U room : Nat} {r : Rec} (Sr : SndR r) {tab : Option TabD} {f : Addr} {ps : List Str} {fn : Addr → Option Spec} (H : FnHd f ps) (hD : room ≤ D) (hU : 3 * room + 100 ≤ U) (htab : ∀ t, tab = some t → t ∈ tables ∧ (fdOf f).code = .ref t.C ∧ (fdOf f).qualname = t.qn)
    (hfn : ∀ q sp, fn q = some sp → FnOk D U q sp ∧ ∀ w : World, (hd.heap_39 w.params).lookup q = some (fnObj q)) : FnOk (D + 3) (U + 11) f (bodySpecR r f fn room tab ps) := by
  obtain ⟨ho, hcd, hp, hb⟩ := H
  intro R hR m s ρ led ex vs xs K Q E hs hr F S P
  unfold bodySpecR at hs
  unfold fnObj at ho
  unfold cxC at hs
  generalize hfd : fdOf f = fd at *
  cases hbind : bindLoc fd.scope ps vs with
  | none => rw [hbind] at hs; exact hs.elim
  | some loc =>
    rw [hbind] at hs
    dsimp only at hs
    have hlen0 : ρ.length = led.length := S.length
    obtain ⟨es, W, d, N⟩ := S
    unfold cellNames at hp
    simp only [Bool.and_eq_true, decide_eq_true_eq, Bool.not_eq_true'] at hp
    obtain ⟨⟨⟨⟨⟨⟨hp2, hp3⟩, hp4⟩, hp5⟩, hp6⟩, hp7⟩, hp8⟩ := hp
    have hpl := bindLoc_len ps hbind
    have hlen : xs.length = ps.length := by rw [← hr.length, hpl]
    have hloc : ∀ p ∈ ps, fd.scope.names.lookup p = some .local ∨ fd.scope.names.lookup p = some .cell := fun p hp => by
      have z := List.all_eq_true.mp hp2 p hp
      rw [Bool.or_eq_true] at z
      exact z.imp eq_of_beq eq_of_beq
    have hns : ∀ n, (cellsFrom n fd.scope.names []).map (·.1) = cellNs fd.scope := fun n => cellsFrom_fst rfl
    refine code_defC (K := hd.heap_39 R.w.params) hR.below F hR.inn N hR.top rfl rfl hR.kind (ho R.w) (hcd R.w) (by have := hR.dep; show R.dp < _; omega) (BindsTo.of_eq (hb xs hlen)) ?_ (by rw [hns]; exact hp7) ?_ hp4 hp5 (eq_of_beq hp3)
    · rw [List.all_eq_true]
      intro p hpz
      rcases hloc p.1 (zip_fst p hpz) with z | z <;> rw [z] <;> rfl
    · intro g L' h₁ tk cells FG F' N' hcells B' X' T' hlt
      obtain ⟨k1, k2⟩ := cellsFrom_snd (names := fd.scope.names) (n := L' + 1) (lo := L' + 1) (acc := []) (Nat.le_refl _) (fun _ h => nomatch h) List.nodup_nil
      have hcf := Mine.CellsAre.fst hcells
      let cs := cellsFrom (L' + 1) fd.scope.names []
      have hcadr : ∀ p ∈ cells, L' + 1 ≤ p.1 := fun p hp => by
        have z : p.1 ∈ cells.map (·.1) := List.mem_map.mpr ⟨p, hp, rfl⟩
        rw [hcf] at z
        obtain ⟨q, hq, e⟩ := List.mem_map.mp z
        rw [← e]; exact k2 q hq
      let ρ' : List Addr := ρ ++ cs.map (·.2)
      have hgr : Grow ρ ρ' := Grow.app
      have old : ∀ p ∈ es ++ (ex ++ W), p.1 < L' := hlt
      have hnd : ρ'.Nodup := by
        refine List.nodup_append.mpr ⟨d.nd, k1, ?_⟩
        intro a ha b hb e
        subst e
        rw [← d.e.fsts] at ha
        obtain ⟨p, hp, e1⟩ := List.mem_map.mp ha
        obtain ⟨q, hq, e2⟩ := List.mem_map.mp hb
        have z1 : p.1 < L' := old p (List.mem_append_left _ hp)
        have z2 := k2 q hq
        rw [e1] at z1
        rw [e2] at z2
        exact absurd (Nat.lt_of_lt_of_le z1 (Nat.le_of_succ_le z2)) (Nat.lt_irrefl _)
      have hcell : RepE ρ' (cs.map (·.2)) (cellObjs ps vs (cellNs fd.scope)) cells := by
        have z := cells_rep (ρ := ρ') (g := fun x => if (envOfC fd.qualname fd.scope L' f fd.code).kindOf x = some .cell then (ps.zip vs).lookup x else none) (cm := fun x => if (envOfC fd.qualname fd.scope L' f fd.code).kindOf x = some .cell then bindC (envOfC fd.qualname fd.scope L' f fd.code).kindOf (ps.zip xs) (fun _ => none) x else none) ?_ (cs := cs) (cells := cells) ?_
        · have e : (cs.map (·.1)).map (fun x => SO.cell (if (envOfC fd.qualname fd.scope L' f fd.code).kindOf x = some .cell then (ps.zip vs).lookup x else none)) = cellObjs ps vs (cellNs fd.scope) := by
            rw [show cs.map (·.1) = cellNs fd.scope from hns (L' + 1)]
            unfold cellObjs
            refine List.map_congr_left fun x hx => ?_
            have zx : fd.scope.names.lookup x = some .cell := eq_of_beq (List.all_eq_true.mp hp8 x hx)
            rw [if_pos (show (envOfC fd.qualname fd.scope L' f fd.code).kindOf x = some .cell from zx)]
          rw [e] at z
          exact z
        · intro x
          by_cases hx : (envOfC fd.qualname fd.scope L' f fd.code).kindOf x = some .cell
          · simp only [if_pos hx]
            have z := bindC_rep (m := fun _ => none) ps (hr.mono hgr) hpl hp6 x hx
            exact z
          · simp only [if_neg hx]
        · refine cellsAre_congr ?_ hcells
          intro p hpc
          have hx : p.1 ∈ cellNs fd.scope := by
            rw [← hns (L' + 1)]; exact List.mem_map.mpr ⟨p, hpc, rfl⟩
          have zx : fd.scope.names.lookup p.1 = some .cell := eq_of_beq (List.all_eq_true.mp hp8 p.1 hx)
          rw [if_pos (show (envOfC fd.qualname fd.scope L' f fd.code).kindOf p.1 = some .cell from zx)]
      let R' : Rt := ⟨R.w, R.mean, R.mg, R.mb, R.loose, R.dp + 1, R.un + 3, R.gd, fd.qualname, fd.scope, f, fd.code, cs, R.env :: R.outer, R.A, R.base, g, L'⟩
      have hR' : R'.Ok (D + 2) (U + 8) := ⟨B', X', T', hR.code, eq_of_beq hp3, by have := hR.dep; show R.dp + 1 + (D + 2) < _; omega, by have := hR.uni; show R.un + 3 + (U + 8) < _; omega⟩
      have hdat : Dat ρ' (led ++ cellObjs ps vs (cellNs fd.scope)) ex (es ++ cells) W := by
        refine ⟨(d.e.mono hgr).appL hcell, hnd, ?_, d.tb, ?_, ?_⟩
        · intro a ha
          rcases List.mem_append.mp ha with ha | ha
          · exact d.ap a ha
          · obtain ⟨q, hq, e2⟩ := List.mem_map.mp ha
            intro p hp e
            have z1 : p.1 < L' := old p (List.mem_append_right _ (List.mem_append_left _ hp))
            have z2 := k2 q hq
            rw [e2, ← e] at z2
            exact absurd (Nat.lt_of_lt_of_le z1 (Nat.le_of_succ_le z2)) (Nat.lt_irrefl _)
        · intro p hp
          have hp' : p ∈ es ++ ex ∨ p ∈ cells := by
            rcases List.mem_append.mp hp with hp | hp
            · rcases List.mem_append.mp hp with hp | hp
              · exact .inl (List.mem_append_left _ hp)
              · exact .inr hp
            · exact .inl (List.mem_append_right _ hp)
          rcases hp' with hp | hp
          · exact d.aw p hp
          · intro q hq e
            have z1 : q.1 < L' := old q (List.mem_append_right _ (List.mem_append_right _ hq))
            have z2 := hcadr p hp
            rw [← e] at z2
            exact absurd (Nat.lt_of_lt_of_le z1 (Nat.le_of_succ_le z2)) (Nat.lt_irrefl _)
        · intro p hp
          have hp' : p ∈ es ++ ex ∨ p ∈ cells := by
            rcases List.mem_append.mp hp with hp | hp
            · rcases List.mem_append.mp hp with hp | hp
              · exact .inl (List.mem_append_left _ hp)
              · exact .inr hp
            · exact .inl (List.mem_append_right _ hp)
          rcases hp' with hp | hp
          · exact d.co p hp
          · obtain ⟨v, hv⟩ := cells_data hcells p hp
            exact .of hv
      have hsim : Sim R' h₁ ρ' (led ++ cellObjs ps vs (cellNs fd.scope)) ex := by
        refine ⟨es ++ cells, W, hdat, cb_drop N' fun p hp => ?_⟩
        rcases List.mem_append.mp hp with hp | hp
        · rcases List.mem_append.mp hp with hp | hp
          · exact List.mem_append_right _ (List.mem_append_left _ hp)
          · exact List.mem_append_left _ hp
        · exact List.mem_append_right _ (List.mem_append_right _ hp)
      have hglob : ∀ R : Rt, R.Ok 0 0 → ∀ x v, globX x = some v → ∀ (m : Str → Option Value) (s : Shared) (Q E : Value → Shared → Prop), Fr R.h₀ R.L s.heap m → Q v s → wpAny R.M R.A (loadGlobal R.env x) Q E s := glob_ok
      have key := leave_X (R := R) (R' := R') (RR := fun r s' => match r with | .ok (.ret v) => Q v s' | .ok _ => False | .error e => E e s') (EE := fun e s' => wpAny R.M R'.A (leaving R'.env e) (fun x s'' => (match (Except.error e : Result) with | .ok (.ret v) => Q v s'' | .ok _ => False | .error e => E e s'')) (fun e' s'' => (match (Except.error e' : Result) with | .ok (.ret v) => Q v s'' | .ok _ => False | .error e => E e s'')) s')
        Sr (fun v s q => q) P hgr hs (m' := bindL (envOfC fd.qualname fd.scope L' f fd.code).kindOf (ps.zip xs) fun _ => none) (h₁ := h₁) (tk := tk)
        ⟨⟨hR'.mono (Nat.le_trans hD (Nat.le_add_right _ _)) (Nat.le_trans hU (Nat.le_add_right _ _)), eq_of_beq hp3, fun x => rfl, ?_, hglob R' (hR'.mono (Nat.zero_le _) (Nat.zero_le _)), hglob, ?_, (fun t ht => ?_), (fun _ _ e => nomatch e)⟩, F', hsim, bindLoc_rep (k := (envOfC fd.qualname fd.scope L' f fd.code).kindOf) (fun x => rfl) ps hbind (hr.mono hgr) hp6⟩ (by passes_own)
      · exact key
      · intro x k hx
        have hx : (idxFrom led.length (cellNs fd.scope)).lookup x = some k := hx
        rw [← hns (L' + 1)] at hx
        obtain ⟨c, q1, q2, q3⟩ := idx_lookup hx
        refine ⟨c, q1, ?_⟩
        show (ρ ++ cs.map (·.2))[k]? = some c
        rw [List.getElem?_append_right (by omega), hlen0]
        exact q3
      · intro q sp hq
        obtain ⟨z1, z2⟩ := hfn q sp hq
        refine ⟨fun k hk j hj => z1 (R'.plus k j) ⟨hR'.below, hR'.inn, hR'.top, hR'.code, hR'.kind, by have := hR'.dep; show R'.dp + j + D < _; omega, by have := hR'.uni; show R'.un + k + U < _; omega⟩, fun h m F => fnAt_of hR' z2 F⟩
      · obtain ⟨z1, z2, z3⟩ := htab t ht
        exact ⟨z1, z2, z3, rfl⟩
set_option tactic.hygienic false in
theorem fnC_Y {D U n room : Nat} {tab : Option TabD} {f : Addr} {ps : List Str} {fn : Addr → Option Spec} (H : FnHd f ps) (hD : room ≤ D) (hU : 3 * room + 100 ≤ U) (htab : ∀ t, tab = some t → t ∈ tables ∧ (fdOf f).code = .ref t.C ∧ (fdOf f).qualname = t.qn)
    (hfn : ∀ q sp, fn q = some sp → FnOk D U q sp ∧ ∀ w : World, (hd.heap_39 w.params).lookup q = some (fnObj q)) : FnOk (D + 3) (U + 11) f (bodySpecC n f fn room tab ps) := fnR_Y (run_ok n) H hD hU htab hfn
end Mine
end
section
open PySem PySem.W PyProof.Rows PySem.Calls PyProof.V PySem.Spec
namespace Mine
set_option tactic.hygienic false in
theorem Sim.closed {R : Rt} {h : Heap} {ρ : List Addr} {led : Led} {ex : CbLed} (S : Sim R h ρ led ex) : ∀ o ∈ led, cO led.length o := by
  have hl := S.length
  obtain ⟨es, W, d, _⟩ := S
  rw [← hl]
  exact closed_of d.e
set_option tactic.hygienic false in
theorem FnX.mono {R : Rt} {q : Addr} {sp sp' : Spec} (h : FnX R q sp) (hs : ∀ vs led K, (∀ o ∈ led, cO led.length o) → cL led.length vs → sp' vs led K → sp vs led K) : FnX R q sp' :=
  fun m s ρ led ex vs xs K Q E k r F S P => h m s ρ led ex vs xs K Q E (hs vs led K S.closed (by rw [← S.length]; exact cL_of r) k) r F S P
noncomputable def shV (μ : Nat → Nat) : SV → SV
  | .loc k => .loc (μ k)
  | v => v
noncomputable def shO (μ : Nat → Nat) : SO → SO
  | .list vs => .list (vs.map (shV μ))
  | .tup vs => .tup (vs.map (shV μ))
  | .cell v => .cell (v.map (shV μ))
  | .frz ob => .frz ob
  | .clo d cells c dc => .clo d (cells.map fun p => (p.1, μ p.2)) c (dc.map μ)
  | .inst k => .inst (μ k)
  | .ns l => .ns (l.map fun p => (p.1, shV μ p.2))
  | .meth f k => .meth f (μ k)
  | .cit k => .cit (μ k)
section
variable {μ : Nat → Nat} {ρ₀ ρ : List Addr}
set_option tactic.hygienic false in
theorem Rep.sh (hμ : ∀ k a, ρ₀[k]? = some a → ρ[μ k]? = some a) {v : SV} {x : Value} (h : Rep ρ₀ v x) : Rep ρ (shV μ v) x := by
  cases v with
  | loc k => obtain ⟨a, h1, h2⟩ := h; exact ⟨a, hμ k a h1, h2⟩
  | _ => exact h
set_option tactic.hygienic false in
theorem RepL.sh (hμ : ∀ k a, ρ₀[k]? = some a → ρ[μ k]? = some a) : ∀ {vs : List SV} {xs : List Value}, RepL ρ₀ vs xs → RepL ρ (vs.map (shV μ)) xs
  | [], [], _ => True.intro
  | _ :: _, _ :: _, h => ⟨h.1.sh hμ, RepL.sh hμ h.2⟩
  | [], _ :: _, h => h
  | _ :: _, [], h => h
set_option tactic.hygienic false in
theorem RepN.sh (hμ : ∀ k a, ρ₀[k]? = some a → ρ[μ k]? = some a) : ∀ {l : List (Str × SV)} {es : List DictEntry}, RepN ρ₀ l es → RepN ρ (l.map fun p => (p.1, shV μ p.2)) es
  | [], [], _ => True.intro
  | _ :: _, _ :: _, h => ⟨h.1, h.2.1.sh hμ, RepN.sh hμ h.2.2⟩
  | [], _ :: _, h => h
  | _ :: _, [], h => h
set_option tactic.hygienic false in
theorem cells_sh (hμ : ∀ k a, ρ₀[k]? = some a → ρ[μ k]? = some a) {cells : List (Str × Nat)} (h : ∀ p ∈ cells, p.2 < ρ₀.length) : cellsOf ρ (cells.map fun p => (p.1, μ p.2)) = cellsOf ρ₀ cells := by
  unfold cellsOf
  rw [List.map_map]
  refine List.map_congr_left fun p hp => ?_
  show (p.1, (ρ[μ p.2]?).getD 0) = (p.1, (ρ₀[p.2]?).getD 0)
  rw [hμ _ _ (List.getElem?_eq_getElem (h p hp)), List.getElem?_eq_getElem (h p hp)]
set_option tactic.hygienic false in
theorem RepO.sh (hμ : ∀ k a, ρ₀[k]? = some a → ρ[μ k]? = some a) {o : SO} {ob : Obj} (h : RepO ρ₀ o ob) : RepO ρ (shO μ o) ob := by
  cases o with
  | list vs => obtain ⟨xs, k, h1, h2⟩ := h; exact ⟨xs, k, h1.sh hμ, h2⟩
  | tup vs => obtain ⟨xs, k, h1, h2⟩ := h; exact ⟨xs, k, h1.sh hμ, h2⟩
  | cell v =>
    cases v with
    | none => exact h
    | some v => obtain ⟨x, h1, h2⟩ := h; exact ⟨x, h1.sh hμ, h2⟩
  | frz _ => exact h
  | clo d cells cc dc =>
    obtain ⟨doc, pm, ctv, od, h1, h2, h3⟩ := h
    refine ⟨doc, pm, ctv, od, fun p hp => ?_, ?_, by rw [cells_sh hμ h1]; exact h3⟩
    · obtain ⟨q, hq, rfl⟩ := List.mem_map.mp hp
      exact ltOf (hμ _ _ (List.getElem?_eq_getElem (h1 q hq)))
    · cases dc with
      | none => exact h2
      | some k => obtain ⟨a, q1, q2⟩ := h2; exact ⟨a, hμ _ _ q1, q2⟩
  | inst k => obtain ⟨a, h1, h2⟩ := h; exact ⟨a, hμ _ _ h1, h2⟩
  | ns l => obtain ⟨es, k, h1, h2⟩ := h; exact ⟨es, k, h1.sh hμ, h2⟩
  | meth f k => obtain ⟨a, h1, h2⟩ := h; exact ⟨a, hμ _ _ h1, h2⟩
  | cit k => obtain ⟨a, t, h1, h2⟩ := h; exact ⟨a, t, hμ _ _ h1, h2⟩
set_option tactic.hygienic false in
theorem Rep.unsh {n : Nat} (hμ : ∀ k a, k < n → ρ[μ k]? = some a → ρ₀[k]? = some a) {v : SV} {x : Value} (c : cV n v) (h : Rep ρ (shV μ v) x) : Rep ρ₀ v x := by
  cases v with
  | loc k => obtain ⟨a, h1, h2⟩ := h; exact ⟨a, hμ k a c h1, h2⟩
  | _ => exact h
set_option tactic.hygienic false in
theorem RepL.unsh {n : Nat} (hμ : ∀ k a, k < n → ρ[μ k]? = some a → ρ₀[k]? = some a) : ∀ {vs : List SV} {xs : List Value}, cL n vs → RepL ρ (vs.map (shV μ)) xs → RepL ρ₀ vs xs
  | [], [], _, _ => True.intro
  | _ :: _, _ :: _, c, h => ⟨Rep.unsh hμ (c _ (.head _)) h.1, RepL.unsh hμ (fun v hv => c v (.tail _ hv)) h.2⟩
  | [], _ :: _, _, h => h
  | _ :: _, [], _, h => h
set_option tactic.hygienic false in
theorem RepN.unsh {n : Nat} (hμ : ∀ k a, k < n → ρ[μ k]? = some a → ρ₀[k]? = some a) : ∀ {l : List (Str × SV)} {es : List DictEntry}, (∀ p ∈ l, cV n p.2) → RepN ρ (l.map fun p => (p.1, shV μ p.2)) es → RepN ρ₀ l es
  | [], [], _, _ => True.intro
  | _ :: _, _ :: _, c, h => ⟨h.1, Rep.unsh hμ (c _ (.head _)) h.2.1, RepN.unsh hμ (fun v hv => c v (.tail _ hv)) h.2.2⟩
  | [], _ :: _, _, h => h
  | _ :: _, [], _, h => h
set_option tactic.hygienic false in
theorem RepO.unsh {n : Nat} (hμ : ∀ k a, k < n → ρ[μ k]? = some a → ρ₀[k]? = some a) {o : SO} {ob : Obj} (c : cO n o) (h : RepO ρ (shO μ o) ob) : RepO ρ₀ o ob := by
  cases o with
  | list vs => obtain ⟨xs, k, h1, h2⟩ := h; exact ⟨xs, k, h1.unsh hμ c, h2⟩
  | tup vs => obtain ⟨xs, k, h1, h2⟩ := h; exact ⟨xs, k, h1.unsh hμ c, h2⟩
  | cell v =>
    cases v with
    | none => exact h
    | some v => obtain ⟨x, h1, h2⟩ := h; exact ⟨x, h1.unsh hμ c, h2⟩
  | frz _ => exact h
  | clo d cells cc dc =>
    obtain ⟨doc, pm, ctv, od, h1, h2, h3⟩ := h
    have hlt : ∀ p ∈ cells, p.2 < ρ₀.length := fun p hp => ltOf (hμ _ _ (c.1 p hp) (List.getElem?_eq_getElem (h1 (p.1, μ p.2) (List.mem_map.mpr ⟨p, hp, rfl⟩))))
    refine ⟨doc, pm, ctv, od, hlt, ?_, ?_⟩
    · cases dc with
      | none => exact h2
      | some k => obtain ⟨a, q1, q2⟩ := h2; exact ⟨a, hμ _ _ (c.2 k rfl) q1, q2⟩
    · have e : cellsOf ρ (cells.map fun p => (p.1, μ p.2)) = cellsOf ρ₀ cells := by
        unfold cellsOf
        rw [List.map_map]
        refine List.map_congr_left fun p hp => ?_
        show (p.1, (ρ[μ p.2]?).getD 0) = (p.1, (ρ₀[p.2]?).getD 0)
        have z := List.getElem?_eq_getElem (h1 (p.1, μ p.2) (List.mem_map.mpr ⟨p, hp, rfl⟩))
        rw [z, hμ _ _ (c.1 p hp) z]
      rw [← e]; exact h3
  | inst k => obtain ⟨a, h1, h2⟩ := h; exact ⟨a, hμ _ _ c h1, h2⟩
  | ns l => obtain ⟨es, k, h1, h2⟩ := h; exact ⟨es, k, h1.unsh hμ c, h2⟩
  | meth f k => obtain ⟨a, h1, h2⟩ := h; exact ⟨a, hμ _ _ c h1, h2⟩
  | cit k => obtain ⟨a, t, h1, h2⟩ := h; exact ⟨a, t, hμ _ _ c h1, h2⟩
end
set_option tactic.hygienic false in
theorem repE_at {ρ : List Addr} : ∀ {as : List Addr} {os : Led} {es : CbLed}, RepE ρ as os es → as.length = os.length ∧ es.length = os.length ∧ ∀ (k : Nat) a o p, as[k]? = some a → os[k]? = some o → es[k]? = some p → p.1 = a ∧ RepO ρ o p.2
  | [], [], [], _ => ⟨rfl, rfl, fun k a o p h => by simp at h⟩
  | a :: as, o :: os, (b, ob) :: es, h => by
    obtain ⟨h1, h2, h3⟩ := repE_at h.2.2
    refine ⟨congrArg (· + 1) h1, congrArg (· + 1) h2, fun k a' o' p' e1 e2 e3 => ?_⟩
    cases k with
    | zero =>
      simp at e1 e2 e3
      subst e1; subst e2; subst e3
      exact ⟨h.1, h.2.1⟩
    | succ k => exact h3 k a' o' p' (by simpa using e1) (by simpa using e2) (by simpa using e3)
  | [], _ :: _, _, h => h.elim
  | [], [], _ :: _, h => h.elim
  | _ :: _, [], _, h => h.elim
  | _ :: _, _ :: _, [], h => h.elim
set_option tactic.hygienic false in
theorem repE_of {ρ : List Addr} : ∀ {as : List Addr} {os : Led} {es : CbLed}, as.length = os.length → es.length = os.length → (∀ (k : Nat) a o p, as[k]? = some a → os[k]? = some o → es[k]? = some p → p.1 = a ∧ RepO ρ o p.2) → RepE ρ as os es
  | [], [], [], _, _, _ => True.intro
  | a :: as, o :: os, (b, ob) :: es, h1, h2, h => by
    have z := h 0 a o (b, ob) rfl rfl rfl
    exact ⟨z.1, z.2, repE_of (by simpa using h1) (by simpa using h2) fun k a' o' p' e1 e2 e3 => h (k + 1) a' o' p' (by simpa using e1) (by simpa using e2) (by simpa using e3)⟩
  | [], _ :: _, _, h1, _, _ => by simp at h1
  | [], [], _ :: _, _, h2, _ => by simp at h2
  | _ :: _, [], _, h1, _, _ => by simp at h1
  | _ :: _, _ :: _, [], _, h2, _ => by simp at h2
noncomputable def setAll {α : Type} : List Nat → List α → List α → List α
  | i :: is, x :: xs, l => setAll is xs (l.set i x)
  | _, _, l => l
set_option tactic.hygienic false in
theorem setAll_len {α : Type} : ∀ (is : List Nat) (xs l : List α), (setAll is xs l).length = l.length
  | i :: is, x :: xs, l => by unfold setAll; rw [setAll_len is xs, List.length_set]
  | [], _, _ => rfl
  | _ :: _, [], _ => rfl
set_option tactic.hygienic false in
theorem setAll_off {α : Type} : ∀ (is : List Nat) (xs l : List α) (j : Nat), j ∉ is → (setAll is xs l)[j]? = l[j]?
  | i :: is, x :: xs, l, j, h => by
    unfold setAll
    have hne : i ≠ j := fun e => h (by rw [e]; exact .head _)
    rw [setAll_off is xs _ j (fun z => h (.tail _ z)), List.getElem?_set_ne hne]
  | [], _, _, _, _ => rfl
  | _ :: _, [], _, _, _ => rfl
set_option tactic.hygienic false in
theorem setAll_at {α : Type} : ∀ (is : List Nat) (xs l : List α) (k i : Nat) (x : α), is.Nodup → is[k]? = some i → xs[k]? = some x → i < l.length → (setAll is xs l)[i]? = some x
  | i :: is, x :: xs, l, 0, j, y, hn, h1, h2, hl => by
    simp at h1 h2
    subst h1; subst h2
    unfold setAll
    rw [setAll_off is xs _ i (List.nodup_cons.mp hn).1, List.getElem?_set_self hl]
  | i :: is, x :: xs, l, k + 1, j, y, hn, h1, h2, hl => by
    unfold setAll
    exact setAll_at is xs _ k j y (List.nodup_cons.mp hn).2 (by simpa using h1) (by simpa using h2) (by rw [List.length_set]; exact hl)
  | [], _, _, _, _, _, _, h1, _, _ => by simp at h1
  | _ :: _, [], _, _, _, _, _, _, h2, _ => by simp at h2
noncomputable def muOf (sub : List Nat) (n : Nat) (k : Nat) : Nat := match sub[k]? with
  | some i => i
  | none => n + (k - sub.length)
noncomputable def putL0 (sub : List Nat) (led led₀ : Led) : Led := setAll sub (led₀.map (shO (muOf sub led.length))) led ++ (led₀.drop sub.length).map (shO (muOf sub led.length))
set_option tactic.hygienic false in
theorem Grow.le {a b : List Addr} (g : Grow a b) : a.length ≤ b.length := by
  cases h : a.length with
  | zero => exact Nat.zero_le _
  | succ n =>
    have z := g n _ (List.getElem?_eq_getElem (by omega))
    have := ltOf z
    omega
set_option tactic.hygienic false in
theorem ltEq {a b c : Nat} (h : a < b) (e : c = b) : a < c := e ▸ h
set_option tactic.hygienic false in
theorem FnX.frame {R : Rt} {q : Addr} {sp : Spec} (h : FnX R q sp) : FnX R q (fun vs led K => ∃ (sub : List Nat) (vs₀ : List SV) (led₀ : Led), sub.Nodup ∧ led₀.length = sub.length ∧ (∀ (k i : Nat), sub[k]? = some i → led[i]? = (led₀[k]?).map (shO (muOf sub led.length))) ∧
    (∀ o ∈ led₀, cO sub.length o) ∧ cL sub.length vs₀ ∧ vs = vs₀.map (shV (muOf sub led.length)) ∧ sp vs₀ led₀ (fun v led₁ => sub.length ≤ led₁.length → K (shV (muOf sub led.length) v) (putL0 sub led led₁))) := by
  rintro m s ρ led ex vs xs K Q E ⟨sub, vs₀, led₀, hn, hl0, hat, hc0, hcv, rfl, hsp⟩ hr F S P
  obtain ⟨es, W, d, N⟩ := S
  have hρl := d.length
  obtain ⟨_, hel, hpt⟩ := repE_at d.e
  have eρ : ρ.length = led.length := by omega
  have eE : es.length = led.length := by omega
  have hlt : ∀ i ∈ sub, i < led.length := fun i hi => by
    obtain ⟨k, hk⟩ := List.getElem?_of_mem hi
    have hk2 : k < led₀.length := by rw [hl0]; exact (List.getElem?_eq_some_iff.mp hk).1
    have z := hat k i hk
    rw [List.getElem?_eq_getElem hk2] at z
    exact (List.getElem?_eq_some_iff.mp z).1
  have hmu : ∀ k i, sub[k]? = some i → muOf sub led.length k = i := fun k i e => by unfold muOf; rw [e]
  obtain ⟨ρ₀, hρ₀⟩ : ∃ ρ₀, ρ₀ = sub.map fun i => (ρ[i]?).getD 0 := ⟨_, rfl⟩
  obtain ⟨es₀, hes₀⟩ : ∃ es₀, es₀ = sub.map fun i => (es[i]?).getD default := ⟨_, rfl⟩
  have at0 : ∀ k i, sub[k]? = some i → ∃ a p, ρ[i]? = some a ∧ ρ₀[k]? = some a ∧ es[i]? = some p ∧ es₀[k]? = some p := fun k i e => by
    have hi := hlt i (List.mem_of_getElem? e)
    refine ⟨_, _, List.getElem?_eq_getElem (ltEq hi eρ), ?_, List.getElem?_eq_getElem (ltEq hi eE), ?_⟩
    · rw [hρ₀, List.getElem?_map, e]
      show some ((ρ[i]?).getD 0) = _
      rw [List.getElem?_eq_getElem (ltEq hi eρ)]; rfl
    · rw [hes₀, List.getElem?_map, e]
      show some ((es[i]?).getD default) = _
      rw [List.getElem?_eq_getElem (ltEq hi eE)]; rfl
  have lρ₀ : ρ₀.length = sub.length := by rw [hρ₀, List.length_map]
  have les₀ : es₀.length = sub.length := by rw [hes₀, List.length_map]
  have hdn : ∀ k a, k < sub.length → ρ[muOf sub led.length k]? = some a → ρ₀[k]? = some a := fun k a hk e => by
    obtain ⟨a', p, h1, h2, _⟩ := at0 k _ (List.getElem?_eq_getElem hk)
    rw [hmu k _ (List.getElem?_eq_getElem hk), h1] at e
    injection e with e
    rw [h2, e]
  have hup : ∀ k a, ρ₀[k]? = some a → ρ[muOf sub led.length k]? = some a := fun k a e => by
    have hk : k < sub.length := by rw [← lρ₀]; exact ltOf e
    obtain ⟨a', p, h1, h2, _⟩ := at0 k _ (List.getElem?_eq_getElem hk)
    rw [h2] at e
    injection e with e
    rw [hmu k _ (List.getElem?_eq_getElem hk), h1, e]
  have e0 : RepE ρ₀ ρ₀ led₀ es₀ := by
    refine repE_of (by omega) (by omega) fun k a o p h1 h2 h3 => ?_
    have hk : k < sub.length := by rw [← lρ₀]; exact ltOf h1
    obtain ⟨a', p', q1, q2, q3, q4⟩ := at0 k _ (List.getElem?_eq_getElem hk)
    rw [h1] at q2; injection q2 with q2; subst q2
    rw [h3] at q4; injection q4 with q4; subst q4
    have z := hat k _ (List.getElem?_eq_getElem hk)
    rw [h2] at z
    obtain ⟨z1, z2⟩ := hpt _ _ _ _ q1 z q3
    exact ⟨z1, z2.unsh hdn (hc0 o (List.mem_of_getElem? h2))⟩
  obtain ⟨ex₀, hex₀⟩ : ∃ ex₀ : CbLed, ex₀ = (es.filter fun p => !ρ₀.contains p.1) ++ ex := ⟨_, rfl⟩
  have memρ₀ : ∀ a ∈ ρ₀, a ∈ ρ := fun a ha => by
    obtain ⟨k, hk⟩ := List.getElem?_of_mem ha
    exact List.mem_of_getElem? (hup k a hk)
  have memes₀ : ∀ p ∈ es₀, p ∈ es := fun p hp => by
    obtain ⟨k, hk⟩ := List.getElem?_of_mem hp
    have hk2 : k < sub.length := by rw [← les₀]; exact (List.getElem?_eq_some_iff.mp hk).1
    obtain ⟨_, p', _, _, q3, q4⟩ := at0 k _ (List.getElem?_eq_getElem hk2)
    rw [hk] at q4; injection q4 with q4
    rw [q4]; exact List.mem_of_getElem? q3
  have memex₀ : ∀ p ∈ ex₀, p ∈ es ++ ex := fun p hp => by
    rw [hex₀] at hp
    rcases List.mem_append.mp hp with hp | hp
    · exact List.mem_append_left _ (List.mem_filter.mp hp).1
    · exact List.mem_append_right _ hp
  have mem0 : ∀ p ∈ es₀ ++ ex₀, p ∈ es ++ ex := fun p hp => (List.mem_append.mp hp).elim (fun h => List.mem_append_left _ (memes₀ p h)) (memex₀ p)
  have exsub : ∀ p ∈ ex, p ∈ ex₀ := fun p hp => by rw [hex₀]; exact List.mem_append_right _ hp
  have nd0 : ρ₀.Nodup := by
    rw [hρ₀]
    refine List.pairwise_map.mpr (List.Pairwise.imp_of_mem (fun {i j} hi hj hij e => hij ?_) hn)
    have h1 := hlt i hi
    have h2 := hlt j hj
    have h1 := ltEq h1 eρ
    have h2 := ltEq h2 eρ
    rw [List.getElem?_eq_getElem h1, List.getElem?_eq_getElem h2] at e
    exact (List.getElem?_inj h1 d.nd).mp (by rw [List.getElem?_eq_getElem h1, List.getElem?_eq_getElem h2]; exact congrArg some e)
  have d0 : Dat ρ₀ led₀ ex₀ es₀ W := by
    refine ⟨e0, nd0, fun a ha p hp => ?_, d.tb, fun p hp => d.aw p (mem0 p hp), fun p hp => d.co p (mem0 p hp)⟩
    rw [hex₀] at hp
    rcases List.mem_append.mp hp with hp | hp
    · have z := (List.mem_filter.mp hp).2
      intro e
      rw [e] at z
      have z2 : ρ₀.contains a = true := List.contains_iff_mem.mpr ha
      rw [z2] at z
      cases z
    · exact d.ap a (memρ₀ a ha) p hp
  have S0 : Sim R s.heap ρ₀ led₀ ex₀ := ⟨es₀, W, d0, fun p hp => N p (by
    rw [← List.append_assoc] at hp ⊢
    exact (List.mem_append.mp hp).elim (fun h => List.mem_append_left _ (mem0 p h)) (List.mem_append_right _))⟩
  refine h m s ρ₀ led₀ ex₀ vs₀ xs _ Q E hsp (hr.unsh hdn hcv) F S0 ?_
  intro v x ρ₁ led₁ h' tk' k g rv F' S'
  have hl1 := S'.length
  obtain ⟨es₁, W₁, d₁, N₁⟩ := S'
  have hle : sub.length ≤ led₁.length := by have := g.le; omega
  obtain ⟨_, hel1, hpt1⟩ := repE_at d₁.e
  have hup1 : ∀ k a, ρ₁[k]? = some a → (ρ ++ ρ₁.drop sub.length)[muOf sub led.length k]? = some a := fun k a e => by
    by_cases hk : k < sub.length
    · obtain ⟨a', p, h1, h2, _⟩ := at0 k _ (List.getElem?_eq_getElem hk)
      rw [g _ _ h2] at e
      injection e with e
      rw [← e]
      exact Grow.app _ _ (hup k a' h2)
    · have hm : muOf sub led.length k = led.length + (k - sub.length) := by
        unfold muOf
        rw [List.getElem?_eq_none (Nat.not_lt.mp hk)]
      have hk := Nat.not_lt.mp hk
      rw [hm, List.getElem?_append_right (eρ ▸ Nat.le_add_right _ _), List.getElem?_drop, ← e, eρ, Nat.add_sub_cancel_left, Nat.add_sub_cancel' hk]
  have hmem : ∀ p ∈ setAll sub es₁ es ++ es₁.drop sub.length, p ∈ es₁ ∨ p ∈ ex₀ := fun p hp => by
    rcases List.mem_append.mp hp with hp | hp
    · obtain ⟨j, hj⟩ := List.getElem?_of_mem hp
      have hjl : j < es.length := by rw [← setAll_len sub es₁ es]; exact (List.getElem?_eq_some_iff.mp hj).1
      by_cases hjs : j ∈ sub
      · obtain ⟨k, hk⟩ := List.getElem?_of_mem hjs
        have hk2 : k < es₁.length := by have := (List.getElem?_eq_some_iff.mp hk).1; omega
        rw [setAll_at sub es₁ es k j _ hn hk (List.getElem?_eq_getElem hk2) hjl] at hj
        injection hj with hj
        rw [← hj]; exact .inl (List.getElem_mem _)
      · rw [setAll_off sub es₁ es j hjs] at hj
        refine .inr ?_
        rw [hex₀]
        refine List.mem_append_left _ (List.mem_filter.mpr ⟨List.mem_of_getElem? hj, ?_⟩)
        rw [Bool.not_eq_true']
        rw [← Bool.not_eq_true, List.contains_iff_mem]
        intro hc
        obtain ⟨k, hk⟩ := List.getElem?_of_mem hc
        have hk2 : k < sub.length := by rw [← lρ₀]; exact ltOf hk
        have z := hup k _ hk
        rw [hmu k _ (List.getElem?_eq_getElem hk2)] at z
        have hjρ : ρ[j]? = some p.1 := by
          have hjL : j < led.length := ltEq hjl eE.symm
          have e := (hpt j _ _ _ (List.getElem?_eq_getElem (ltEq hjL eρ)) (List.getElem?_eq_getElem hjL) hj).1
          rw [e]; exact List.getElem?_eq_getElem (ltEq hjL eρ)
        have e := (List.getElem?_inj (ltOf z) d.nd).mp (z.trans hjρ.symm)
        exact hjs (by rw [← e]; exact List.getElem_mem _)
    · exact .inl (List.mem_of_mem_drop hp)
  have hRep : RepE (ρ ++ ρ₁.drop sub.length) (ρ ++ ρ₁.drop sub.length) (putL0 sub led led₁) (setAll sub es₁ es ++ es₁.drop sub.length) := by
    unfold putL0
    have e1 : ρ₁.length = led₁.length := hl1
    have e2 : es₁.length = led₁.length := hel1
    refine repE_of (by rw [List.length_append, List.length_append, List.length_map, List.length_drop, List.length_drop, setAll_len, eρ, e1]) (by rw [List.length_append, List.length_append, List.length_map, List.length_drop, List.length_drop, setAll_len, setAll_len, eE, e2]) fun j a o p q1 q2 q3 => ?_
    by_cases hj : j < led.length
    · rw [List.getElem?_append_left (ltEq hj eρ)] at q1
      rw [List.getElem?_append_left (by rw [setAll_len]; exact hj)] at q2
      rw [List.getElem?_append_left (by rw [setAll_len]; exact ltEq hj eE)] at q3
      by_cases hjs : j ∈ sub
      · obtain ⟨k, hk⟩ := List.getElem?_of_mem hjs
        have hk1 := (List.getElem?_eq_some_iff.mp hk).1
        have hk2 : k < es₁.length := by omega
        have hk3 : k < led₁.length := by omega
        rw [setAll_at sub es₁ es k j _ hn hk (List.getElem?_eq_getElem hk2) (ltEq hj eE)] at q3
        rw [setAll_at sub _ led k j (shO (muOf sub led.length) led₁[k]) hn hk (by rw [List.getElem?_map, List.getElem?_eq_getElem hk3]; rfl) hj] at q2
        injection q2 with q2
        injection q3 with q3
        subst q2; subst q3
        obtain ⟨a', p', z1, z2, _⟩ := at0 k j hk
        rw [z1] at q1
        injection q1 with q1
        obtain ⟨y1, y2⟩ := hpt1 k a' _ _ (g _ _ z2) (List.getElem?_eq_getElem hk3) (List.getElem?_eq_getElem hk2)
        exact ⟨y1.trans q1, y2.sh hup1⟩
      · rw [setAll_off sub _ _ j hjs] at q2 q3
        obtain ⟨y1, y2⟩ := hpt j a o p q1 q2 q3
        exact ⟨y1, y2.mono Grow.app⟩
    · have hj := Nat.not_lt.mp hj
      rw [List.getElem?_append_right (eρ ▸ hj), List.getElem?_drop, eρ] at q1
      rw [List.getElem?_append_right (by rw [setAll_len]; exact hj), setAll_len] at q2
      rw [List.getElem?_append_right (by rw [setAll_len]; exact eE ▸ hj), setAll_len, eE] at q3
      rw [List.getElem?_map, List.getElem?_drop] at q2
      rw [List.getElem?_drop] at q3
      cases ho : led₁[sub.length + (j - led.length)]? with
      | none => rw [ho] at q2; cases q2
      | some o₁ =>
        rw [ho] at q2
        injection q2 with q2
        subst q2
        obtain ⟨y1, y2⟩ := hpt1 _ a o₁ p q1 ho q3
        exact ⟨y1, y2.sh hup1⟩
  have hnd : (ρ ++ ρ₁.drop sub.length).Nodup := by
    refine List.nodup_append.mpr ⟨d.nd, d₁.nd.sublist (List.drop_sublist _ _), fun a ha b hb e => ?_⟩
    subst e
    obtain ⟨i, hi⟩ := List.getElem?_of_mem ha
    have hil := ltOf hi
    by_cases his : i ∈ sub
    · obtain ⟨k, hk⟩ := List.getElem?_of_mem his
      obtain ⟨a', p', z1, z2, _⟩ := at0 k i hk
      rw [hi] at z1
      injection z1 with z1
      subst z1
      obtain ⟨j, hj⟩ := List.getElem?_of_mem hb
      rw [List.getElem?_drop] at hj
      have z3 := g _ _ z2
      have z4 := (List.getElem?_inj (ltOf z3) d₁.nd).mp (z3.trans hj.symm)
      have := (List.getElem?_eq_some_iff.mp hk).1
      omega
    · have hiL : i < led.length := ltEq hil eρ.symm
      have hiE : i < es.length := ltEq hiL eE
      have e := (hpt i a _ _ hi (List.getElem?_eq_getElem hiL) (List.getElem?_eq_getElem hiE)).1
      have hnot : (es[i]'hiE) ∈ ex₀ := by
        rw [hex₀]
        refine List.mem_append_left _ (List.mem_filter.mpr ⟨List.getElem_mem _, ?_⟩)
        rw [Bool.not_eq_true']
        rw [← Bool.not_eq_true, List.contains_iff_mem, e]
        intro hc
        obtain ⟨k, hk⟩ := List.getElem?_of_mem hc
        have hk2 : k < sub.length := by rw [← lρ₀]; exact ltOf hk
        have z := hup k _ hk
        rw [hmu k _ (List.getElem?_eq_getElem hk2)] at z
        have e := (List.getElem?_inj (ltOf z) d.nd).mp (z.trans hi.symm)
        exact his (by rw [← e]; exact List.getElem_mem _)
      exact d₁.ap a (List.mem_of_mem_drop hb) _ hnot e
  have hall : ∀ p ∈ (setAll sub es₁ es ++ es₁.drop sub.length) ++ ex, p ∈ es₁ ++ ex₀ := fun p hp => by
    rcases List.mem_append.mp hp with hp | hp
    · exact List.mem_append.mpr (hmem p hp)
    · exact List.mem_append_right _ (exsub p hp)
  refine P _ x _ _ h' tk' (k hle) Grow.app (rv.sh hup1) F' ⟨_, W₁, ⟨hRep, hnd, fun a ha p hp => ?_, d₁.tb, fun p hp => d₁.aw p (hall p hp), fun p hp => d₁.co p (hall p hp)⟩, fun p hp => N₁ p ?_⟩
  · rcases List.mem_append.mp ha with ha | ha
    · exact d.ap a ha p hp
    · exact d₁.ap a (List.mem_of_mem_drop ha) p (exsub p hp)
  · rw [← List.append_assoc] at hp ⊢
    exact (List.mem_append.mp hp).elim (fun h => List.mem_append_left _ (hall p h)) (List.mem_append_right _)
noncomputable def Tidy (n : Nat) (v : SV) (led : Led) (v₂ : SV) (led₂ : Led) : Prop :=
  (v₂ = v ∧ led₂ = led) ∨ (n ≤ led.length ∧ (∀ o ∈ led.take n, cO n o) ∧ ((cV n v ∧ v₂ = v ∧ led₂ = led.take n) ∨ ∃ r o, n ≤ r ∧ v = .loc r ∧ led[r]? = some o ∧ cO n o ∧ v₂ = .loc n ∧ led₂ = led.take n ++ [o]))
set_option tactic.hygienic false in
theorem Sim.keep1 {R : Rt} {h : Heap} {ρ : List Addr} {led : Led} {ex : CbLed} (S : Sim R h ρ led ex) {n r : Nat} {o : SO} (hn : n ≤ led.length) (c : ∀ o ∈ led.take n, cO n o) (hr : n ≤ r) (ho : led[r]? = some o) (co : cO n o) :
    ∃ a, ρ[r]? = some a ∧ Sim R h (ρ.take n ++ [a]) (led.take n ++ [o]) ex := by
  have hl := S.length
  obtain ⟨es, W, d, N⟩ := S
  obtain ⟨_, hel, hpt⟩ := repE_at d.e
  have hrl := ltOfL ho
  have ha : ρ[r]? = some (ρ[r]'(by omega)) := List.getElem?_eq_getElem _
  have he : es[r]? = some (es[r]'(by omega)) := List.getElem?_eq_getElem _
  generalize ρ[r]'(by omega) = a at ha
  generalize es[r]'(by omega) = p at he
  obtain ⟨e1, hro⟩ := hpt r a o p ha ho he
  have hm : p ∈ es := List.mem_of_getElem? he
  have sub : ∀ q ∈ es.take n ++ [(a, p.2)], q ∈ es := fun q hq => by
    rcases List.mem_append.mp hq with hq | hq
    · exact List.mem_of_mem_take hq
    · rw [List.mem_singleton.mp hq, ← e1]; exact hm
  have g : Grow (ρ.take n) (ρ.take n ++ [a]) := Grow.app
  refine ⟨a, ha, es.take n ++ [(a, p.2)], W, ⟨((d.e.take n c).mono g).app ((hro.take co).mono g), ?_, ?_, d.tb, fun q hq => d.aw q ?_, fun q hq => d.co q ?_⟩, fun q hq => N q ?_⟩
  · refine List.nodup_append.mpr ⟨d.nd.sublist (List.take_sublist _ _), by simp, ?_⟩
    intro b hb d' hd e
    rw [List.mem_singleton.mp hd] at e
    subst e
    obtain ⟨i, hi⟩ := List.getElem?_of_mem hb
    have hlt : i < n := by
      have z := (List.getElem?_eq_some_iff.mp hi).1
      rw [List.length_take] at z
      omega
    rw [List.getElem?_take_of_lt hlt] at hi
    have z := (List.getElem?_inj (ltOf hi) d.nd).mp (hi.trans ha.symm)
    omega
  · intro b hb
    rcases List.mem_append.mp hb with hb | hb
    · exact d.ap b (List.mem_of_mem_take hb)
    · rw [List.mem_singleton.mp hb]; exact d.ap a (List.mem_of_getElem? ha)
  · exact (List.mem_append.mp hq).elim (fun h => List.mem_append_left _ (sub q h)) (List.mem_append_right _)
  · exact (List.mem_append.mp hq).elim (fun h => List.mem_append_left _ (sub q h)) (List.mem_append_right _)
  · exact (List.mem_append.mp hq).elim (fun h => List.mem_append_left _ (sub q h)) (List.mem_append_right _)
set_option tactic.hygienic false in
theorem FnX.tidy {R : Rt} {q : Addr} {sp : Spec} (h : FnX R q sp) : FnX R q (fun vs led K => sp vs led fun v led' => ∃ v₂ led₂, Tidy led.length v led' v₂ led₂ ∧ K v₂ led₂) := by
  intro m s ρ led ex vs xs K Q E k r F S P
  refine h m s ρ led ex vs xs _ Q E k r F S ?_
  rintro v x ρ' led' h' tk' ⟨v₂, led₂, ht, k2⟩ g rv F' S'
  have hl := S.length
  rcases ht with ⟨rfl, rfl⟩ | ⟨hn, hc, ⟨cv, rfl, rfl⟩ | ⟨rr, o, hnr, rfl, ho, co, rfl, rfl⟩⟩
  · exact P _ x ρ' _ h' tk' k2 g rv F' S'
  · exact P _ x (ρ'.take led.length) _ h' tk' k2 (g.take (Nat.le_of_eq hl)) (rv.take cv) F' (S'.take hc)
  · obtain ⟨a, ha, S2⟩ := S'.keep1 hn hc hnr ho co
    obtain ⟨a', ha', rfl⟩ := rv
    rw [ha] at ha'
    injection ha' with ha'
    subst ha'
    have hlen : (ρ'.take led.length).length = led.length := by
      rw [List.length_take, S'.length]; omega
    refine P (.loc led.length) _ (ρ'.take led.length ++ [a]) _ h' tk' k2 ((g.take (Nat.le_of_eq hl)).trans Grow.app) ⟨a, ?_, rfl⟩ F' S2
    rw [List.getElem?_append_right (by omega), hlen]
    simp
set_option tactic.hygienic false in
theorem FnOk.mono {D U : Nat} {q : Addr} {sp sp' : Spec} (h : FnOk D U q sp) (hs : ∀ vs led K, (∀ o ∈ led, cO led.length o) → cL led.length vs → sp' vs led K → sp vs led K) : FnOk D U q sp' := fun R hR => (h R hR).mono hs
set_option tactic.hygienic false in
theorem FnOk.more {D U D' U' : Nat} {q : Addr} {sp : Spec} (h : FnOk D U q sp) (hD : D ≤ D') (hU : U ≤ U') : FnOk D' U' q sp := fun R hR => h R (hR.mono hD hU)
set_option tactic.hygienic false in
theorem FnOk.tidy {D U : Nat} {q : Addr} {sp : Spec} (h : FnOk D U q sp) : FnOk D U q (fun vs led K => sp vs led fun v led' => ∃ v₂ led₂, Tidy led.length v led' v₂ led₂ ∧ K v₂ led₂) := fun R hR => (h R hR).tidy
set_option tactic.hygienic false in
theorem FnX.conseq {R : Rt} {q : Addr} {sp : Spec} (h : FnX R q sp) : FnX R q (fun vs led K => ∃ K₀ : SV → Led → Prop, sp vs led K₀ ∧ ∀ v led', K₀ v led' → K v led') := by
  rintro m s ρ led ex vs xs K Q E ⟨K₀, k, hk⟩ r F S P
  exact h m s ρ led ex vs xs K₀ Q E k r F S fun v x ρ' led' h' tk' k' g rv F' S' => P v x ρ' led' h' tk' (hk v led' k') g rv F' S'
theorem map_shV0 {n : Nat} {vs : List SV} (hv : ∀ v ∈ vs, cV 0 v) {μ : Nat → Nat} : vs = vs.map (shV μ) := by
  have : vs.map (shV μ) = vs.map id := List.map_congr_left fun v h => by
    have z := hv v h
    cases v with
    | loc k => exact absurd z (Nat.not_lt_zero k)
    | _ => rfl
  rw [this, List.map_id]
set_option tactic.hygienic false in
theorem putL0_nil {led led₁ : Led} : putL0 [] led led₁ = led ++ led₁.map (shO (muOf [] led.length)) := by
  unfold putL0
  rw [show setAll [] (led₁.map (shO (muOf [] led.length))) led = led by cases led₁ <;> rfl]
  rfl
set_option tactic.hygienic false in
theorem cV.up {n : Nat} {v : SV} (h : cV 0 v) : cV n v := by
  cases v with
  | loc k => exact absurd h (Nat.not_lt_zero k)
  | _ => exact True.intro
set_option tactic.hygienic false in
theorem shV0 {v : SV} (h : cV 0 v) {μ : Nat → Nat} : shV μ v = v := by
  cases v with
  | loc k => exact absurd h (Nat.not_lt_zero k)
  | _ => rfl
set_option tactic.hygienic false in
theorem FnX.plain {R : Rt} {q : Addr} {sp : Spec} (h : FnX R q sp) : FnX R q (fun vs led K => (∀ v ∈ vs, cV 0 v) ∧ sp vs [] fun v _ => cV 0 v ∧ K v led) := by
  refine (h.conseq.frame.tidy).mono ?_
  rintro vs led K hled _ ⟨hv, hs⟩
  refine ⟨[], vs, [], List.nodup_nil, rfl, fun k i e => by simp at e, fun o h => by simp at h, hv, map_shV0 (n := 0) hv, _, hs, ?_⟩
  rintro v led₁ ⟨hv0, hk⟩ _
  refine ⟨v, led, .inr ⟨?_, ?_, .inl ⟨by rw [shV0 hv0]; exact hv0.up, by rw [shV0 hv0], ?_⟩⟩, hk⟩
  · rw [putL0_nil, List.length_append]; omega
  · rw [putL0_nil, List.take_left']; exact hled; rfl
  · rw [putL0_nil, List.take_left']; rfl
set_option tactic.hygienic false in
theorem FnOk.plain {D U : Nat} {q : Addr} {sp : Spec} (h : FnOk D U q sp) : FnOk D U q (fun vs led K => (∀ v ∈ vs, cV 0 v) ∧ sp vs [] fun v _ => cV 0 v ∧ K v led) := fun R hR => (h R hR).plain
set_option tactic.hygienic false in
theorem FnOk.frame {D U : Nat} {q : Addr} {sp : Spec} (h : FnOk D U q sp) : FnOk D U q (fun vs led K => ∃ (sub : List Nat) (vs₀ : List SV) (led₀ : Led), sub.Nodup ∧ led₀.length = sub.length ∧ (∀ (k i : Nat), sub[k]? = some i → led[i]? = (led₀[k]?).map (shO (muOf sub led.length))) ∧
    (∀ o ∈ led₀, cO sub.length o) ∧ cL sub.length vs₀ ∧ vs = vs₀.map (shV (muOf sub led.length)) ∧ ∃ K₀ : SV → Led → Prop, sp vs₀ led₀ K₀ ∧ ∀ v led₁, K₀ v led₁ → sub.length ≤ led₁.length → K (shV (muOf sub led.length) v) (putL0 sub led led₁)) := fun R hR => (h R hR).conseq.frame
end Mine
end
section
open PySem PySem.W PyProof.Rows PySem.Calls PyProof.V PySem.Spec
namespace Mine
set_option maxRecDepth 100000
set_option maxHeartbeats 8000000
noncomputable def plO : SO → Prop
  | .list vs => ∀ v ∈ vs, cV 0 v
  | .tup vs => ∀ v ∈ vs, cV 0 v
  | _ => False
set_option tactic.hygienic false in
theorem plO.cO {o : SO} (h : plO o) {n : Nat} : cO n o := by
  cases o <;> first | exact h.elim | exact fun v hv => (h v hv).up
set_option tactic.hygienic false in
theorem plO.sh {o : SO} (h : plO o) {μ : Nat → Nat} : shO μ o = o := by
  cases o <;> first | exact h.elim | exact congrArg SO.list (map_shV0 (n := 0) h).symm | exact congrArg SO.tup (map_shV0 (n := 0) h).symm
set_option tactic.hygienic false in
theorem pl_ints {l : List Int} : ∀ v ∈ l.map SV.int, cV 0 v := fun v hv => by
  obtain ⟨z, _, rfl⟩ := List.mem_map.mp hv
  exact True.intro
set_option tactic.hygienic false in
theorem len1 {α : Type} {l : List α} (h : l.length = 1) : ∃ a, l = [a] := by
  cases l with
  | nil => cases h
  | cons a l => cases l with
    | nil => exact ⟨a, rfl⟩
    | cons b l => simp at h
set_option tactic.hygienic false in
theorem len2 {α : Type} {l : List α} (h : l.length = 2) : ∃ a b, l = [a, b] := by
  cases l with
  | nil => cases h
  | cons a l =>
    obtain ⟨b, rfl⟩ := len1 (l := l) (by simpa using h)
    exact ⟨a, b, rfl⟩
set_option tactic.hygienic false in
theorem len3 {α : Type} {l : List α} (h : l.length = 3) : ∃ a b c, l = [a, b, c] := by
  cases l with
  | nil => cases h
  | cons a l =>
    obtain ⟨b, c, rfl⟩ := len2 (l := l) (by simpa using h)
    exact ⟨a, b, c, rfl⟩
noncomputable def whTest : Stmt → Expr
  | .While t _ _ _ => t
  | _ => default
noncomputable def whBody : Stmt → List Stmt
  | .While _ b _ _ => b
  | _ => []
noncomputable def noF : Addr → Option Spec := fun _ => none
noncomputable def cloOf (q : Addr) (qn : Str) (i : Nat) : CloD := match stOf q i with
  | .FunctionDef name params body _ _ _ scope _ _ _ => ⟨name, qn ++ ".<locals>." ++ name, params, .stmts body, scope⟩
  | _ => ⟨"", "", default, default, default⟩
set_option tactic.hygienic false in
theorem FnOk.obj {D U : Nat} {q : Addr} {sp : Spec} (h : FnOk D U q sp) : FnOk D U q (fun vs led K => (∀ v ∈ vs, cV 0 v) ∧ sp vs [] fun v led' => ∃ r o, v = .loc r ∧ led'[r]? = some o ∧ plO o ∧ K (.loc led.length) (led ++ [o])) := by
  refine (h.frame.tidy).mono ?_
  rintro vs led K hled _ ⟨hv, hs⟩
  refine ⟨[], vs, [], List.nodup_nil, rfl, fun k i e => by simp at e, fun o h => by simp at h, hv, map_shV0 (n := 0) hv, _, hs, ?_⟩
  rintro v led₁ ⟨r, o, rfl, ho, hp, hk⟩ _
  have e : muOf [] led.length r = led.length + r := by unfold muOf; simp
  refine ⟨_, _, .inr ⟨?_, ?_, .inr ⟨led.length + r, o, Nat.le_add_right _ _, ?_, ?_, hp.cO, rfl, rfl⟩⟩, ?_⟩
  · rw [putL0_nil, List.length_append]; omega
  · rw [putL0_nil, List.take_left']; exact hled; rfl
  · rw [← e]; rfl
  · rw [putL0_nil, List.getElem?_append_right (by omega), List.getElem?_map, show led.length + r - led.length = r by omega, ho, Option.map_some, hp.sh]
  · rw [putL0_nil, List.take_left']; exact hk; rfl
theorem FnOk.plain1 {D U : Nat} {q : Addr} {sp : Spec} (h : FnOk D U q sp) : FnOk D U q (fun vs led K => match vs with
    | .loc k :: vs => match led[k]? with
      | some o => plO o ∧ (∀ v ∈ vs, cV 0 v) ∧ sp (.loc 0 :: vs) [o] fun v led' => cV 0 v ∧ led'[0]? = some o ∧ K v led
      | none => False
    | _ => False) := by
  refine (h.frame.tidy).mono ?_
  intro vs led K hled hvs hs
  clear hvs
  split at hs
  · rename_i k vs
    split at hs
    · rename_i o ho
      obtain ⟨hp, hv, hs⟩ := hs
      have hkl := ltOfL ho
      refine ⟨[k], .loc 0 :: vs, [o], by simp, rfl, ?_, ?_, ?_, ?_, _, hs, ?_⟩
      · intro j i e
        match j, e with
        | 0, e =>
          injection e with e
          subst e
          rw [ho]
          show some o = some (shO _ o)
          rw [hp.sh]
        | j + 1, e => simp at e
      · intro p h
        rw [List.mem_singleton.mp h]
        exact hp.cO
      · intro v h
        rcases List.mem_cons.mp h with rfl | h
        · exact Nat.zero_lt_one
        · exact (hv v h).up
      · rw [List.map_cons, ← map_shV0 (n := 0) hv]
        rfl
      · rintro v led₁ ⟨hv0, h0, hk⟩ hl
        match led₁, h0 with
        | o' :: led₁, h0 =>
          injection h0 with h0
          subst h0
          have e : putL0 [k] led (o' :: led₁) = led ++ led₁.map (shO (muOf [k] led.length)) := by
            unfold putL0
            show setAll [] (led₁.map (shO (muOf [k] led.length))) (led.set k (shO (muOf [k] led.length) o')) ++ led₁.map (shO (muOf [k] led.length)) = _
            rw [hp.sh, show ∀ (a b : Led), setAll [] a b = b from fun a b => by cases a <;> rfl]
            congr 1
            refine List.ext_getElem? fun j => ?_
            rw [List.getElem?_set]
            split
            · rename_i e; subst e; (first | rw [if_pos hkl, ho] | rw [ho] | simp_all)
            · rfl
          refine ⟨v, led, .inr ⟨?_, ?_, .inl ⟨by rw [shV0 hv0]; exact hv0.up, by rw [shV0 hv0], ?_⟩⟩, hk⟩
          · rw [e, List.length_append]; omega
          · rw [e, List.take_left']; exact hled; rfl
          · rw [e, List.take_left']; rfl
    · exact False.elim hs
  · exact False.elim hs
noncomputable def allO (n : Nat) : Led → Prop
  | [] => True
  | o :: os => cO n o ∧ allO n os
noncomputable def okV (n : Nat) : SV → Bool
  | .loc k => Nat.blt k n
  | _ => true
noncomputable def okL (n : Nat) : Loc → Bool
  | [] => true
  | p :: ps => okV n p.2 && okL n ps
set_option tactic.hygienic false in
theorem allO.mem {n : Nat} : ∀ {l : Led}, allO n l → ∀ o ∈ l, cO n o
  | [], _, _, h => nomatch h
  | o :: os, h, p, hp => by
    rcases List.mem_cons.mp hp with rfl | hp
    · exact h.1
    · exact allO.mem h.2 p hp
set_option tactic.hygienic false in
theorem okV.cV {n : Nat} {v : SV} (h : okV n v = true) : cV n v := by
  cases v with
  | loc k => exact Nat.le_of_ble_eq_true h
  | _ => exact True.intro
set_option tactic.hygienic false in
theorem okL.mem {n : Nat} : ∀ {l : Loc}, okL n l = true → ∀ o ∈ l, cV n o.2
  | [], _, _, h => nomatch h
  | o :: os, h, p, hp => by
    unfold okL at h
    rw [Bool.and_eq_true] at h
    rcases List.mem_cons.mp hp with rfl | hp
    · exact okV.cV h.1
    · exact okL.mem h.2 p hp
set_option tactic.hygienic false in
theorem Trim.cut {n j : Nat} {loc : Loc} {led : Led} (h : Nat.ble n led.length = true) (hl : okL n (loc.take j) = true) (ho : allO n (led.take n)) : Trim n loc led (led.take n) (loc.take j) :=
  ⟨⟨j, rfl⟩, .inr ⟨Nat.le_of_ble_eq_true h, ho.mem, okL.mem hl, rfl⟩⟩
set_option tactic.hygienic false in
theorem cL_app {n : Nat} {a b : List SV} (h : cL n a) (g : cL n b) : cL n (a ++ b) := fun v hv => (List.mem_append.mp hv).elim (h v) (g v)
set_option tactic.hygienic false in
theorem cL_one {n : Nat} {v : SV} (h : cV n v) : cL n [v] := fun w hw => by rw [List.mem_singleton.mp hw]; exact h
set_option tactic.hygienic false in
theorem shV_id {n : Nat} {μ : Nat → Nat} (hμ : ∀ k, k < n → μ k = k) {v : SV} (h : cV n v) : shV μ v = v := by
  cases v with
  | loc k => exact congrArg SV.loc (hμ k h)
  | _ => rfl
set_option tactic.hygienic false in
theorem shL_id {n : Nat} {μ : Nat → Nat} (hμ : ∀ k, k < n → μ k = k) {vs : List SV} (h : cL n vs) : vs.map (shV μ) = vs := by
  refine (List.map_congr_left fun v hv => shV_id hμ (h v hv)).trans ?_
  exact List.map_id _
set_option tactic.hygienic false in
theorem shO_id {n : Nat} {μ : Nat → Nat} (hμ : ∀ k, k < n → μ k = k) {o : SO} (h : cO n o) : shO μ o = o := by
  cases o with
  | list vs => exact congrArg SO.list (shL_id hμ h)
  | tup vs => exact congrArg SO.tup (shL_id hμ h)
  | cell v => cases v with
    | none => rfl
    | some v => exact congrArg (fun v => SO.cell (some v)) (shV_id hμ h)
  | frz ob => rfl
  | clo d cells c dc =>
    obtain ⟨h1, h2⟩ := h
    have e1 : (cells.map fun p => (p.1, μ p.2)) = cells := (List.map_congr_left fun p hp => by rw [hμ p.2 (h1 p hp)]; rfl).trans (List.map_id cells)
    have e2 : dc.map μ = dc := by
      cases dc with
      | none => rfl
      | some k => exact congrArg some (hμ k (h2 k rfl))
    show SO.clo d (cells.map fun p => (p.1, μ p.2)) c (dc.map μ) = _
    rw [e1, e2]
  | inst k => exact congrArg SO.inst (hμ k h)
  | ns l =>
    exact congrArg SO.ns ((List.map_congr_left fun p hp => by rw [shV_id hμ (h p hp)]; rfl).trans (List.map_id l))
  | meth f k => exact congrArg (SO.meth f) (hμ k h)
  | cit k => exact congrArg SO.cit (hμ k h)
set_option tactic.hygienic false in
theorem cV.le {n m : Nat} (hn : n ≤ m) {v : SV} (h : cV n v) : cV m v := by
  cases v with
  | loc k => exact Nat.lt_of_lt_of_le h hn
  | _ => exact True.intro
set_option tactic.hygienic false in
theorem cO.le {n m : Nat} (hn : n ≤ m) {o : SO} (h : cO n o) : cO m o := by
  cases o with
  | list vs => exact fun v hv => (h v hv).le hn
  | tup vs => exact fun v hv => (h v hv).le hn
  | cell v => cases v with
    | none => exact True.intro
    | some v => exact cV.le hn h
  | frz ob => exact True.intro
  | clo d cells c dc => exact ⟨fun p hp => Nat.lt_of_lt_of_le (h.1 p hp) hn, fun k e => Nat.lt_of_lt_of_le (h.2 k e) hn⟩
  | inst k => exact Nat.lt_of_lt_of_le h hn
  | ns l => exact fun p hp => (h p hp).le hn
  | meth f k => exact Nat.lt_of_lt_of_le h hn
  | cit k => exact Nat.lt_of_lt_of_le h hn
set_option tactic.hygienic false in
theorem FnOk.prefix {D U : Nat} {q : Addr} {sp : Spec} (h : FnOk D U q sp) : FnOk D U q (fun vs led K => ∃ led₀ rest : Led, led = led₀ ++ rest ∧ cL led₀.length vs ∧ allO led₀.length led₀ ∧
    sp vs led₀ fun v led₁ => cV 0 v ∧ led₀.length ≤ led₁.length ∧ allO led₀.length (led₁.take led₀.length) ∧ K v (led₁.take led₀.length ++ rest)) := by
  refine (h.frame.tidy).mono ?_
  rintro vs led K hled - ⟨led₀, rest, rfl, hv, ho, hs⟩
  have hlen : (List.range led₀.length).length = led₀.length := List.length_range
  have hμ : ∀ k, k < led₀.length → muOf (List.range led₀.length) (led₀ ++ rest).length k = k := by
    intro k hk
    unfold muOf
    rw [List.getElem?_range hk]
  refine ⟨List.range led₀.length, vs, led₀, List.nodup_range, hlen.symm, ?_, fun o h => by rw [hlen]; exact ho.mem o h, by rw [hlen]; exact hv, (shL_id hμ hv).symm, _, hs, ?_⟩
  · intro k i e
    obtain ⟨hk, e⟩ := List.getElem?_eq_some_iff.mp e
    rw [List.getElem_range] at e
    subst e
    rw [hlen] at hk
    rw [List.getElem?_append_left hk, List.getElem?_eq_getElem hk, Option.map_some, shO_id hμ (ho.mem _ (List.getElem_mem hk))]
  · rintro v led₁ ⟨hv0, hl1, ho1, hk⟩ -
    have e : (putL0 (List.range led₀.length) (led₀ ++ rest) led₁).take (led₀ ++ rest).length = led₁.take led₀.length ++ rest := by
      unfold putL0
      rw [List.take_left' (setAll_len ..)]
      refine List.ext_getElem? fun j => ?_
      have hl2 : (led₁.take led₀.length).length = led₀.length := by rw [List.length_take]; omega
      by_cases hj : j < led₀.length
      · rw [setAll_at (List.range led₀.length) _ _ j j _ List.nodup_range (List.getElem?_range hj) (by rw [List.getElem?_map, List.getElem?_eq_getElem (by omega), Option.map_some]) (by rw [List.length_append]; omega)]
        rw [List.getElem?_append_left (by omega), List.getElem?_take_of_lt hj, List.getElem?_eq_getElem (by omega)]
        rw [shO_id hμ (ho1.mem _ (List.mem_iff_getElem?.mpr ⟨j, by rw [List.getElem?_take_of_lt hj, List.getElem?_eq_getElem (by omega)]⟩))]
      · rw [setAll_off _ _ _ _ (by rw [List.mem_range]; exact hj), List.getElem?_append_right (by omega), List.getElem?_append_right (by omega), hl2]
    refine ⟨v, led₁.take led₀.length ++ rest, .inr ⟨?_, ?_, .inl ⟨by rw [shV0 hv0]; exact hv0.up, by rw [shV0 hv0], e.symm⟩⟩, hk⟩
    · unfold putL0
      exact Nat.le_trans (Nat.le_of_eq (setAll_len ..).symm) (by rw [List.length_append]; exact Nat.le_add_right _ _)
    · rw [e]
      intro o hm
      rcases List.mem_append.mp hm with hm | hm
      · have z := ho1.mem o hm
        exact cO.le (by rw [List.length_append]; omega) z
      · exact hled o (List.mem_append_right _ hm)
set_option tactic.hygienic false in
theorem Trim.stay {n : Nat} {loc : Loc} {led : Led} : Trim n loc led led loc := ⟨⟨loc.length, (List.take_length ..).symm⟩, .inl rfl⟩
set_option tactic.hygienic false in
theorem sl_to (l : List Nat) (b : Nat) : (Txt.slice (strOf l) none (some (b : Int))).cps.toList = l.take b := by rw [slice_to]; rfl
set_option tactic.hygienic false in
theorem sl_from (l : List Nat) (a : Nat) : (Txt.slice (strOf l) (some (a : Int)) none).cps.toList = l.drop a := by rw [slice_from]; rfl
set_option tactic.hygienic false in
theorem sl_at (l : List Nat) (a b : Nat) (h : a ≤ b) : (Txt.slice (strOf l) (some (a : Int)) (some (b : Int))).cps.toList = (l.drop a).take (b - a) := by rw [slice_nat _ _ _ h]; rfl
set_option tactic.hygienic false in
theorem TrimC.stay {n : Nat} {acc : List SV} {led : Led} : TrimC n [] acc led led [] := ⟨⟨0, rfl⟩, .inl rfl⟩
set_option tactic.hygienic false in
theorem cL_ints {n : Nat} {l : List Int} : cL n (l.map SV.int) := fun v hv => (pl_ints v hv).up
end Mine
end
section
open PySem PySem.W PyProof.Rows PySem.Calls PyProof.V PySem.Spec
namespace Mine
set_option maxRecDepth 100000
noncomputable def rpCall (o : Expr) (name : Str) (pa pos : Pos) (args : List Expr) (ev : Expr → (SV → Led → Prop) → Prop) (K : SV → Led → Prop) : Prop :=
  match args with
  | [c] => match c with
    | .Constant k _ _ => match k with
      | .str a => (name == Str.ofString "split" && okBase o && (pa.endLine == pos.line)) = true ∧ ev o fun v led => ∃ l, v = .str l ∧ xSplit (.str l) (.str a.cps.toList) led K
      | _ => False
    | _ => False
  | [c, d] => match c with
    | .Constant k _ _ => match k with
      | .str a => match d with
        | .Constant k _ _ => match k with
          | .str b => (name == Str.ofString "replace" && okBase o && (pa.endLine == pos.line) && !(a == b) && decide (b.length ≤ 14)) = true ∧ ev o fun v led => ∃ l, v = .str l ∧ l.length ≤ 100000 ∧ K (.str (Txt.replace (strOf l) a b).cps.toList) led
          | _ => False
        | _ => False
      | _ => False
    | _ => False
  | _ => False
noncomputable def isZ : Expr → Option Int
  | .Constant k _ _ => match k with
    | .int z => some z
    | _ => none
  | _ => none
noncomputable def isOne : List Expr → Option Expr
  | [e] => if isStar e then none else some e
  | _ => none
noncomputable def xRp (r : Rec) (cx : Cx) : Nat → Expr → Loc → Led → (SV → Led → Prop) → Prop
  | 0, _, _, _, _ => False
  | n + 1, e, loc, led, K => match e with
    | .Call f args kws pos => match f with
      | .Attribute o name pa => match kws with
        | [] => rpCall o name pa pos args (fun o K => xRp r cx n o loc led K) K
        | _ :: _ => False
      | _ => False
    | .Subscript b sl p => match isZ sl with
      | some z => xRp r cx n b loc led fun o led => xItem o (.int z) led K
      | none => r.ev cx (.Subscript b sl p) loc led K
    | .List es p => match isOne es with
      | some e => xRp r cx n e loc led fun v led => K (.loc led.length) (led ++ [.list [v]])
      | none => r.ev cx (.List es p) loc led K
    | .Name x p => r.ev cx (.Name x p) loc led K
    | _ => False
noncomputable def xRs (r : Rec) (cx : Cx) : List Stmt → Loc → Led → (Fl → Loc → Led → Prop) → Prop
  | [], loc, led, K => K .next loc led
  | st :: sts, loc, led, K => match st with
    | .Assign ts value _ => match ts with
      | [t] => match t with
        | .Name x _ => isComp value = false ∧ xRp r cx 20 value loc led fun v led => xstore cx x v loc led fun loc led => xRs r cx sts loc led K
        | _ => False
      | _ => False
    | .Return e _ => match e with
      | some e => xRp r cx 20 e loc led fun v led => K (.ret v) loc led
      | none => False
    | _ => False
noncomputable def xRb (r : Rec) (cx : Cx) (sts : List Stmt) (loc : Loc) (led : Led) (K : Fl → Loc → Led → Prop) : Prop :=
  match sts with
  | st :: rest => match st with
    | .If t b o _ => match o with
      | [] => match t with
        | .Compare l ops qs _ => match ops with
          | [op] => match qs with
            | [q] => match q with
              | .Constant k _ _ => match k with
                | .int z => r.ev cx l loc led fun a led => xcmp op a (.int z) fun c => match c with
                  | true => xRs r cx b loc led fun fl loc led => match fl with
                    | .ret v => K (.ret v) loc led
                    | _ => False
                  | false => xRs r cx rest loc led K
                | _ => False
              | _ => False
            | _ => False
          | _ => False
        | _ => False
      | _ => False
    | _ => False
  | _ => False
section
variable {R : Rt} {cx : Cx} {env : Env} {ρ ρ' : List Addr} {led led' : Led} {ex : CbLed} {loc : Loc} {m : Str → Option Value} {s : Shared} {h' : Heap} {tk' : Nat} {r : Rec}
theorem xRp_ok (S : SndR r) : ∀ (n : Nat) {e : Expr} {ρ : List Addr} {led : Led} {s : Shared} {K : SV → Led → Prop} {Q E : Value → Shared → Prop}, xRp r cx n e loc led K → Here R cx env ρ led ex loc m s → 1 ≤ s.toks → PostE R K ρ ex m s Q → wpAny R.M R.A (eval e env) Q E s := by
  intro n
  induction n with
  | zero => exact fun h _ _ _ => False.elim h
  | succ n ih =>
    intro e ρ led s K Q E h H ht P
    cases e with
    | Call f args kws pos =>
      cases f with
      | Attribute o name pa =>
        cases kws with
        | nil =>
          have h : rpCall o name pa pos args (fun o K => xRp r cx n o loc led K) K := h
          unfold rpCall at h
          split at h
          · rename_i c
            split at h
            · rename_i k k1 p1
              split at h
              · rename_i a
                obtain ⟨hc, h⟩ := h
                simp only [Bool.and_eq_true, beq_iff_eq] at hc
                obtain ⟨⟨rfl, hb⟩, hpos⟩ := hc
                obtain ⟨pl, hm⟩ := methEq (env := env) (name := Str.ofString "split") (args := [.Constant (.str a) k1 p1]) (o := o) (pa := pa) (pos := pos) hb rfl (show 1 < 30 by decide) (beq_iff_eq.mpr hpos)
                refine MethodCall_ (pl := pl) (ih h H ht ?_) hm
                rintro v x ρ1 led1 h1 tk1 ⟨l, rfl, k⟩ g1 ⟨t, rfl⟩ F1 S1
                refine GM.split (callWith_method1 (args_cons (Calls.Constant_str (args_nil ?_)) rfl) rfl rfl)
                exact split_X (s := { s with heap := h1, toks := tk1 + 1 }) k ⟨t, rfl⟩ ⟨tk1, rfl⟩ F1 S1 (P.go g1)
              · exact h.elim
            · exact h.elim
          · rename_i c d
            split at h
            · rename_i k k1 p1
              split at h
              · rename_i a
                split at h
                · rename_i k k2 p2
                  split at h
                  · rename_i b
                    obtain ⟨hc, h⟩ := h
                    simp only [Bool.and_eq_true, decide_eq_true_eq, Bool.not_eq_true', beq_iff_eq] at hc
                    obtain ⟨⟨⟨⟨rfl, hb⟩, hpos⟩, hab⟩, hlen⟩ := hc
                    obtain ⟨pl, hm⟩ := methEq (env := env) (name := Str.ofString "replace") (args := [.Constant (.str a) k1 p1, .Constant (.str b) k2 p2]) (o := o) (pa := pa) (pos := pos) hb rfl (show 2 < 30 by decide) (beq_iff_eq.mpr hpos)
                    refine MethodCall_ (pl := pl) (wpAny_with_toks (n := 1) ht (ih h H ht ?_)) hm
                    rintro v x ρ1 led1 h1 tk1 ⟨l, rfl, hl, k⟩ g1 ⟨t, rfl⟩ F1 S1 ht1
                    have ht1 : 1 ≤ tk1 := ht1
                    refine GM.replace (callWith_method1 (args_cons (Calls.Constant_str (args_cons (Calls.Constant_str (args_nil ?_)) rfl)) rfl) rfl rfl)
                    refine SC.replaceW (Nat.ne_of_gt ht1) (Nat.succ_ne_zero tk1) (Nat.ne_of_lt (Nat.lt_succ_self tk1)) (beq_eq_false_iff_ne.mpr (by simpa using hab)) (by rw [strOf_len]; exact Nat.le_trans hl (by decide)) hlen ?_
                    intro t' tk2
                    exact P (.str _) _ ρ1 led1 h1 tk2 k g1 ⟨t', rfl⟩ F1 S1
                  · exact h.elim
                · exact h.elim
              · exact h.elim
            · exact h.elim
          · exact h.elim
        | cons _ _ => exact False.elim h
      | _ => exact False.elim h
    | Subscript b sl p =>
      have h : match isZ sl with
        | some z => xRp r cx n b loc led fun o led => xItem o (.int z) led K
        | none => r.ev cx (.Subscript b sl p) loc led K := h
      split at h
      · rename_i z hz
        unfold isZ at hz
        split at hz
        · split at hz
          · injection hz with hz
            subst hz
            refine Subscript_ (ih h H ht ?_)
            intro o x ρ1 led1 h1 tk1 k1 g1 r1 F1 S1
            refine wpAny_Constant_int ?_
            exact item_X (s := { s with heap := h1, toks := tk1 + 1 }) k1 rfl r1 ⟨_, rfl⟩ F1 S1 (P.go g1)
          · cases hz
        · cases hz
      · exact S.ev h H P
    | List es p =>
      have h : match isOne es with
        | some e => xRp r cx n e loc led fun v led => K (.loc led.length) (led ++ [.list [v]])
        | none => r.ev cx (.List es p) loc led K := h
      split at h
      · rename_i e he
        unfold isOne at he
        split at he
        · split at he
          · cases he
          · rename_i hs
            injection he with he
            subst he
            refine List_ (args_cons (ih h H ht ?_) (starEach_X (Bool.eq_false_iff.mpr hs)))
            intro v x ρ1 led1 h1 tk1 k1 g1 r1 F1 S1
            refine args_nil ?_
            exact newList_X (vs := [v]) (s := { s with heap := h1, toks := tk1 }) F1 S1 ⟨r1, trivial⟩ (show 1 ≤ 100000 by decide) k1 (P.go g1)
        · cases he
      · exact S.ev h H P
    | Name x p => exact S.ev (show r.ev cx (.Name x p) loc led K from h) H P
    | _ => exact False.elim h
theorem xRs_ok (S : SndR r) : ∀ (sts : List Stmt) {loc : Loc} {ρ : List Addr} {led : Led} {m : Str → Option Value} {s : Shared} {K : Fl → Loc → Led → Prop} {Q : Flow → Shared → Prop} {E : Value → Shared → Prop}, xRs r cx sts loc led K → At R cx ρ led ex loc m s → 1 ≤ s.toks → PostS R K ρ ex s Q → wpAny R.M R.A (execs sts R.env) Q E s := by
  intro sts
  induction sts with
  | nil => exact fun h H _ P => wpAny_execs_nil (P .next .next _ _ _ _ _ _ h Grow.refl rfl H.fr H.loc H.sim)
  | cons st sts ih =>
    intro loc ρ led m s K Q E h H ht P
    cases st with
    | Assign ts value p =>
      match ts, h with
      | [t], h =>
        cases t with
        | Name x px =>
          obtain ⟨hc, h⟩ : isComp value = false ∧ xRp r cx 20 value loc led fun v led => xstore cx x v loc led fun loc led => xRs r cx sts loc led K := h
          refine wpAny_execs_cons (wpAny_Assign_Name (wpAny_with_toks (n := 1) ht (xRp_ok S 20 h H.here ht ?_)) (swaps_no hc))
          intro v y ρ1 led1 h1 tk1 k1 g1 r1 F1 S1 ht1
          refine wpAny_with_toks (n := 1) ht1 (store_X k1 (H.go g1 F1 S1) r1 ?_)
          intro loc2 led2 m2 h2 tk2 k2 F2 l2 S2 ht2
          exact ih k2 (H.st g1 F2 l2 S2) ht2 (P.go g1)
        | _ => exact False.elim h
      | [], h => exact False.elim h
      | _ :: _ :: _, h => exact False.elim h
    | Return e p =>
      cases e with
      | some e =>
        refine wpAny_execs_cons (wpAny_Return_some (xRp_ok S 20 h H.here ht ?_))
        intro v y ρ1 led1 h1 tk1 k1 g1 r1 F1 S1
        exact P (.ret v) (.ret y) _ ρ1 led1 m h1 tk1 k1 g1 ⟨y, r1, rfl⟩ F1 (H.loc.mono g1) S1
      | none => exact False.elim h
    | _ => exact False.elim h
set_option tactic.hygienic false in
theorem xRb_ok (S : SndR r) {sts : List Stmt} {K : Fl → Loc → Led → Prop} {Q : Flow → Shared → Prop} {E : Value → Shared → Prop} (h : xRb r cx sts loc led K) (H : At R cx ρ led ex loc m s) (P : PostS R K ρ ex s Q) : wpAny R.M R.A (execs sts R.env) Q E s := by
  have key : ∃ l op z kk p1 p2 b p rest, sts = .If (.Compare l [op] [.Constant (.int z) kk p1] p2) b [] p :: rest ∧ r.ev cx l loc led fun a led => xcmp op a (.int z) fun c => match c with
      | true => xRs r cx b loc led fun fl loc led => match fl with
        | .ret v => K (.ret v) loc led
        | _ => False
      | false => xRs r cx rest loc led K := by
    unfold xRb at h
    split at h
    · split at h
      · split at h
        · split at h
          · split at h
            · split at h
              · split at h
                · split at h
                  · exact ⟨_, _, _, _, _, _, _, _, _, rfl, h⟩
                  · exact h.elim
                · exact h.elim
              · exact h.elim
            · exact h.elim
          · exact h.elim
        · exact h.elim
      · exact h.elim
    · exact h.elim
  obtain ⟨l, op, z, kk, p1, p2, b, p, rest, rfl, h⟩ := key
  refine wpAny_execs_cons (wpAny_If (wpAny_isTrue_Compare1 (S.ev h H.here ?_) rfl))
  intro a x ρ1 led1 h1 tk1 k1 g1 r1 F1 S1
  refine wpAny_Constant_int ?_
  refine xcmp_ok (s := { s with heap := h1, toks := tk1 + 1 }) k1 r1 ⟨tk1, rfl⟩ fun c k2 => wpAny_truthy_bool ?_
  have H1 := H.go (tk' := tk1 + 1) g1 F1 S1
  cases c with
  | true =>
    rw [if_pos rfl]
    refine xRs_ok S _ k2 H1 (Nat.le_add_left _ _) ?_
    intro f fl loc2 ρ2 led2 m2 h2 tk2 k3 g2 r2 F2 l2 S2
    cases f with
    | ret v =>
      obtain ⟨y, r3, rfl⟩ := r2
      exact P (.ret v) (.ret y) loc2 ρ2 led2 m2 h2 tk2 k3 (g1.trans g2) ⟨y, r3, rfl⟩ F2 l2 S2
    | _ => exact False.elim k3
  | false =>
    rw [if_neg Bool.false_ne_true]
    refine wpAny_execs_nil ?_
    exact xRs_ok S _ k2 H1 (Nat.le_add_left _ _) (P.go g1)
end
noncomputable def runR (n : Nat) : Rec := { run n with xs := xRb (run n) }
set_option tactic.hygienic false in
theorem runR_ok (n : Nat) : SndR (runR n) := ⟨(run_ok n).ev, (run_ok n).et, (run_ok n).ea, (run_ok n).ex, fun h H P _ => xRb_ok (run_ok n) h H P⟩
end Mine
end
section
open PySem PySem.W PyProof.Rows PySem.Calls PyProof.V PySem.Spec
namespace Mine
set_option maxRecDepth 100000
set_option maxHeartbeats 8000000
set_option pp.deepTerms false
set_option pp.maxSteps 600
set_option tactic.hygienic false in
theorem hd_init : FnHd 35 [Str.ofString "self", Str.ofString "fp"] := ⟨fun w => by kernel_rfl, fun w => by kernel_rfl, by decide +kernel, fun xs hl => by
  obtain ⟨a, b, rfl⟩ := len2 hl
  kernel_rfl⟩
set_option tactic.hygienic false in
theorem hd_lexer : FnHd 144 [Str.ofString "left"] := ⟨fun w => by kernel_rfl, fun w => by kernel_rfl, by decide +kernel, fun xs hl => by
  obtain ⟨a, rfl⟩ := len1 hl
  kernel_rfl⟩
noncomputable def initS : Spec := bodySpecC 40 35 noF 0 none [Str.ofString "self", Str.ofString "fp"]
set_option tactic.hygienic false in
theorem init_ok : FnOk 3 111 35 initS := fnC_Y (n := 40) (fn := noF) (tab := none) hd_init (Nat.le_refl 0) (Nat.le_refl 100) (fun _ h => nomatch h) fun _ _ h => nomatch h
noncomputable def lexF (q : Addr) : Option Spec := if @Eq Nat q 35 then some initS else none
set_option tactic.hygienic false in
theorem lexF_ok : ∀ q sp, lexF q = some sp → FnOk 3 111 q sp ∧ ∀ w : World, (hd.heap_39 w.params).lookup q = some (fnObj q) := by
  intro q sp h
  unfold lexF at h
  by_cases h1 : @Eq Nat q 35
  · rw [if_pos h1] at h; injection h with h; subst h; subst h1; exact ⟨init_ok, hd_init.ho⟩
  rw [if_neg h1] at h
  cases h
noncomputable def readD : CloD := cloOf 144 "_law_lexer" 0
noncomputable def lamD : CloD := match stOf 144 1 with
  | .Assign _ (.Lambda params body scope _) _ => ⟨"<lambda>", ("_law_lexer" : Str) ++ ".<locals>." ++ "<lambda>", params, .expr body, scope⟩
  | _ => ⟨"", "", default, default, default⟩
noncomputable def lexLed (T : List Nat) (ln : Int) (c c2 : Addr) : Led := [.list [.str T], .cell (some (.loc 0)), .clo readD [(Str.ofString "left", 1)] c none, .clo lamD [] c2 (some 4), .ns [(Str.ofString "read", .loc 2)],
  .ns [(Str.ofString "lineno", .int ln), (Str.ofString "instream", .loc 3), (Str.ofString "whitespace", .str [10, 9, 13, 32]), (Str.ofString "pushback", .loc 7)], .inst 5, .list []]
noncomputable def lexS : Spec := fun vs led K => ∃ T : List Nat, vs = [.loc 0] ∧ led = [.list [.str T]] ∧ ∀ c c2, K (.loc 6) (lexLed T 1 c c2)
set_option tactic.hygienic false in
theorem lexer_ok : FnOk 6 122 144 lexS := by
  refine (fnC_Y (n := 60) (fn := lexF) (tab := tables[2]?) hd_lexer (Nat.zero_le 3) (by decide) (fun t h => ?_) lexF_ok).mono ?_
  · injection h with h
    subst h
    exact ⟨.tail _ (.tail _ (.head _)), by kernel_rfl, by kernel_rfl⟩
  rintro vs led K - - ⟨T, rfl, rfl, k⟩
  conv => whnf
  refine ⟨by kernel_rfl, fun env => rfl, fun c => ?_⟩
  conv => whnf
  refine ⟨by kernel_rfl, fun c2 => ?_⟩
  conv => whnf
  refine ⟨Nat.le_of_ble_eq_true rfl, ?_⟩
  conv => whnf
  refine ⟨Nat.le_of_ble_eq_true rfl, ?_⟩
  conv => whnf
  refine ⟨Nat.le_of_ble_eq_true rfl, ?_⟩
  conv => whnf
  refine ⟨Nat.le_of_ble_eq_true rfl, ?_⟩
  conv => whnf
  refine ⟨Nat.le_of_ble_eq_true rfl, ?_⟩
  conv => whnf
  refine ⟨rfl, ?_⟩
  exact k c c2
set_option tactic.hygienic false in
theorem hd_rc : FnHd 42 [Str.ofString "self"] := ⟨fun w => by kernel_rfl, fun w => by kernel_rfl, by decide +kernel, fun xs hl => by
  obtain ⟨a, rfl⟩ := len1 hl
  kernel_rfl⟩
noncomputable def lnOf (T : List Nat) (ln : Int) : Int := if T.take 1 = [10] then ln + 1 else ln
set_option tactic.hygienic false in
theorem lexLed_closed {T : List Nat} {ln : Int} {c c2 : Addr} : allO 8 (lexLed T ln c c2) := by
  refine ⟨cL_one True.intro, Nat.le_of_ble_eq_true rfl, ⟨fun p hp => ?_, fun k e => nomatch e⟩, ⟨fun _ h => (nomatch h), fun k e => ?_⟩, fun p hp => ?_, fun p hp => ?_, Nat.le_of_ble_eq_true rfl, fun _ h => (nomatch h), True.intro⟩
  · rw [List.mem_singleton.mp hp]; exact Nat.le_of_ble_eq_true rfl
  · injection e with e; subst e; exact Nat.le_of_ble_eq_true rfl
  · rw [List.mem_singleton.mp hp]; exact Nat.le_of_ble_eq_true rfl
  · simp only [List.mem_cons, List.not_mem_nil, or_false] at hp
    rcases hp with rfl | rfl | rfl | rfl <;> first | exact True.intro | exact Nat.le_of_ble_eq_true rfl
noncomputable def rcS : Spec := fun vs led K => ∃ (T : List Nat) (ln : Int) (c c2 : Addr) (rest : Led), vs = [.loc 6] ∧ led = lexLed T ln c c2 ++ rest ∧ T.length ≤ 1000000 ∧ K (.str (T.take 1)) (lexLed (T.drop 1) (lnOf T ln) c c2 ++ rest)
set_option tactic.hygienic false in
theorem rc_ok : FnOk 13 181 42 rcS := by
  refine (fnC_Y (n := 60) (fn := noF) (tab := none) (room := 10) (D := 10) (U := 170) hd_rc (by decide) (by decide) (fun _ h => nomatch h) fun _ _ h => nomatch h).prefix.mono ?_
  rintro vs led K - - ⟨T, ln, c, c2, rest, rfl, rfl, hT, k⟩
  refine ⟨lexLed T ln c c2, rest, rfl, ?_, lexLed_closed, ?_⟩
  · exact fun v hv => by rw [List.mem_singleton.mp hv]; exact Nat.le_of_ble_eq_true rfl
  conv => whnf
  refine ⟨rfl, ?_⟩
  conv => whnf
  refine xClo.mk ⟨[Str.ofString "size"], ?_, by kernel_rfl, ?_⟩
  · intro fd e1 e2 e3 xs hx
    obtain ⟨a, rfl⟩ := len1 hx
    cases fd
    cases e1
    cases e2
    cases e3
    kernel_rfl
  conv => whnf
  refine ⟨by decide, by decide, ?_⟩
  conv => whnf
  refine ⟨by omega, ?_⟩
  conv => whnf
  refine ⟨by decide, by decide, ?_⟩
  conv => whnf
  refine ⟨by omega, ?_⟩
  conv => whnf
  refine ⟨Int.le_refl _, Int.lt_of_le_of_lt (Int.le_refl 0) Int.one_pos, Nat.le_of_ble_eq_true rfl, ?_⟩
  conv => whnf
  rw [show (Txt.slice (strOf T) none (some 1)).cps.toList = T.take 1 from sl_to T 1, show (Txt.slice (strOf T) (some 1) none).cps.toList = T.drop 1 from sl_from T 1]
  unfold lnOf at k
  by_cases h : T.take 1 = [10]
  · rw [if_pos h] at k
    rw [decide_eq_true (show T.take 1 = (Str.ofString "\n").cps.toList from h)]
    conv => whnf
    refine ⟨rfl, _, rfl, ?_⟩
    conv => whnf
    refine ⟨Nat.le_of_ble_eq_true rfl, ?_⟩
    conv => whnf
    exact ⟨True.intro, Nat.le_of_ble_eq_true rfl, lexLed_closed (T := T.drop 1) (ln := ln + 1) (c := c) (c2 := c2), k⟩
  · rw [if_neg h] at k
    rw [decide_eq_false (show ¬ T.take 1 = (Str.ofString "\n").cps.toList from h)]
    conv => whnf
    exact ⟨True.intro, Nat.le_of_ble_eq_true rfl, lexLed_closed (T := T.drop 1) (ln := ln) (c := c) (c2 := c2), k⟩
end Mine
end
section
open PySem PySem.W PyProof.Rows PySem.Calls PyProof.V PySem.Spec
namespace Mine
set_option maxRecDepth 100000
set_option maxHeartbeats 8000000
set_option pp.deepTerms false
set_option pp.maxSteps 600
noncomputable def gqX : List Nat → List Nat × List Nat × Nat × Bool
  | [] => ([], [], 0, false)
  | 34 :: r => ([], r, 0, true)
  | [92] => ([], [], 0, false)
  | 92 :: c :: r => (c :: (gqX r).1, (gqX r).2.1, (gqX r).2.2.1 + (if c = 10 then 1 else 0), (gqX r).2.2.2)
  | c :: r => (c :: (gqX r).1, (gqX r).2.1, (gqX r).2.2.1 + (if c = 10 then 1 else 0), (gqX r).2.2.2)
set_option tactic.hygienic false in
theorem gqX_other {c : Nat} {r : List Nat} (h : c ≠ 34) (h2 : c ≠ 92) : gqX (c :: r) = (c :: (gqX r).1, (gqX r).2.1, (gqX r).2.2.1 + (if c = 10 then 1 else 0), (gqX r).2.2.2) := by
  rw [gqX] <;> simp_all
set_option tactic.hygienic false in
theorem lnOf_cons {x : Nat} {b : List Nat} {ln : Int} : lnOf (x :: b) ln = ln + ((if x = 10 then 1 else 0 : Nat) : Int) := by
  unfold lnOf
  show (if [x] = [10] then ln + 1 else ln) = _
  by_cases h : x = 10
  · rw [if_pos h, if_pos (by rw [h])]; rfl
  · rw [if_neg h, if_neg (fun e => h (List.head_eq_of_cons_eq e))]; exact (Int.add_zero _).symm
set_option tactic.hygienic false in
theorem hd_gt : FnHd 49 [Str.ofString "self"] := ⟨fun w => by kernel_rfl, fun w => by kernel_rfl, by decide +kernel, fun xs hl => by
  obtain ⟨a, rfl⟩ := len1 hl
  kernel_rfl⟩
noncomputable def gtF (q : Addr) : Option Spec := if @Eq Nat q 42 then some rcS else none
set_option tactic.hygienic false in
theorem gtF_ok : ∀ q sp, gtF q = some sp → FnOk 13 181 q sp ∧ ∀ w : World, (hd.heap_39 w.params).lookup q = some (fnObj q) := by
  intro q sp h
  unfold gtF at h
  by_cases h1 : @Eq Nat q 42
  · rw [if_pos h1] at h; injection h with h; subst h; subst h1; exact ⟨rc_ok, hd_rc.ho⟩
  rw [if_neg h1] at h
  cases h
noncomputable def gtIn : Stmt := match forBody (stOf 49 3) with
  | [_, .If _ (s :: _) _ _] => s
  | _ => default
noncomputable def gtLoc (tok ch : List Nat) : Loc := [(Str.ofString "self", .loc 6), (Str.ofString "token", .str tok), (Str.ofString "fiter", .loc 9), (Str.ofString "ch", .str ch)]
noncomputable def gtLed (b : List Nat) (ln : Int) (c c2 : Addr) : Led := lexLed b ln c c2 ++ [.meth 42 6, .cit 8]
theorem gt_inner {f : Nat} {c c2 : Addr} {K : Fl → Loc → Led → Prop} : ∀ (k : Nat) (b : List Nat) (ln : Int) (tok ch : List Nat), b.length < k → tok.length + b.length ≤ 1000000 →
    ((gqX b).2.2.2 = true → ∀ loc, K (.ret (.str (tok ++ (gqX b).1))) loc (gtLed (gqX b).2.1 (ln + ((gqX b).2.2.1 : Int)) c c2)) →
    ((gqX b).2.2.2 = false → ∀ ch, K .next (gtLoc (tok ++ (gqX b).1) ch) (lexLed (gqX b).2.1 (ln + ((gqX b).2.2.1 : Int)) c c2 ++ [.meth 42 6, .frz citE])) →
    citP (run (f + 40)) (cxC 49 gtF 0 none 8) 10 (forTgt gtIn) (forBody gtIn) 9 k (gtLoc tok ch) (gtLed b ln c c2) K := by
  intro k
  induction k with
  | zero => intros; omega
  | succ k ih =>
    intro b ln tok ch hk hl q1 q2
    cases b with
    | nil =>
      conv => whnf
      refine ⟨[], ln, c, c2, _, rfl, rfl, by decide, ?_⟩
      conv => whnf
      refine ⟨rfl, rfl, ?_⟩
      have z := q2 rfl ch
      rw [show tok ++ (gqX []).1 = tok from List.append_nil _, show ln + ((gqX []).2.2.1 : Int) = ln from Int.add_zero _] at z
      exact z
    | cons x b =>
      rw [List.length_cons] at hk hl
      conv => whnf
      refine ⟨x :: b, ln, c, c2, _, rfl, rfl, by rw [List.length_cons]; omega, ?_⟩
      conv => whnf
      refine ⟨rfl, ?_⟩
      conv => whnf
      by_cases h34 : x = 34
      · subst h34
        rw [decide_eq_true (show List.take 1 (34 :: b) = (Str.ofString "\"").cps.toList from rfl)]
        conv => whnf
        have z := q1 rfl (gtLoc tok [34])
        rw [show tok ++ (gqX (34 :: b)).1 = tok from List.append_nil _, show ln + ((gqX (34 :: b)).2.2.1 : Int) = lnOf (34 :: b) ln by rw [lnOf_cons]; rfl] at z
        exact z
      · rw [decide_eq_false (show ¬ List.take 1 (x :: b) = (Str.ofString "\"").cps.toList from fun e => h34 (List.head_eq_of_cons_eq e))]
        conv => whnf
        by_cases h92 : x = 92
        · subst h92
          rw [decide_eq_true (show List.take 1 (92 :: b) = (Str.ofString "\\").cps.toList from rfl)]
          conv => whnf
          refine ⟨rfl, ?_⟩
          conv => whnf
          refine ⟨b, lnOf (92 :: b) ln, c, c2, _, rfl, rfl, by omega, ?_⟩
          conv => whnf
          refine ⟨_, rfl, by rw [List.length_take]; omega, ?_⟩
          conv => whnf
          refine ⟨_, _, Trim.stay, ?_⟩
          cases b with
          | nil =>
            refine ih [] (lnOf [] (lnOf [92] ln)) (tok ++ []) [] (by show 0 < k; omega) (by rw [List.append_nil]; show _ + 0 ≤ _; omega) (fun e => nomatch e) ?_
            have e2 : ln + ((gqX [92]).2.2.1 : Int) = lnOf [] (lnOf [92] ln) + ((gqX []).2.2.1 : Int) := by rw [lnOf_cons]; show ln + (0 : Int) = (ln + 0) + 0; omega
            rw [e2] at q2
            rw [List.append_nil]
            exact q2
          | cons y b =>
            rw [List.length_cons] at hk hl
            have e0 : gqX (92 :: y :: b) = (y :: (gqX b).1, (gqX b).2.1, (gqX b).2.2.1 + (if y = 10 then 1 else 0), (gqX b).2.2.2) := by rw [gqX]
            have e1 : tok ++ (gqX (92 :: y :: b)).1 = (tok ++ [y]) ++ (gqX b).1 := by rw [e0, List.append_assoc]; rfl
            have e2 : ln + ((gqX (92 :: y :: b)).2.2.1 : Int) = lnOf (y :: b) (lnOf (92 :: y :: b) ln) + ((gqX b).2.2.1 : Int) := by
              rw [e0, lnOf_cons, lnOf_cons]
              simp only [show (if (92 : Nat) = 10 then 1 else 0 : Nat) = 0 from rfl]
              omega
            rw [e1, e2, e0] at q1 q2
            exact ih b (lnOf (y :: b) (lnOf (92 :: y :: b) ln)) (tok ++ [y]) [y] (by omega) (by rw [List.length_append]; show _ + 1 + _ ≤ _; omega) q1 q2
        · rw [decide_eq_false (show ¬ List.take 1 (x :: b) = (Str.ofString "\\").cps.toList from fun e => h92 (List.head_eq_of_cons_eq e))]
          conv => whnf
          refine ⟨_, rfl, by show _ + 1 ≤ _; omega, ?_⟩
          conv => whnf
          have e0 := gqX_other (r := b) h34 h92
          have e1 : tok ++ (gqX (x :: b)).1 = (tok ++ [x]) ++ (gqX b).1 := by rw [e0, List.append_assoc]; rfl
          have e2 : ln + ((gqX (x :: b)).2.2.1 : Int) = lnOf (x :: b) ln + ((gqX b).2.2.1 : Int) := by
            rw [e0, lnOf_cons]
            show ln + (((gqX b).2.2.1 + _ : Nat) : Int) = _
            omega
          rw [e1, e2, e0] at q1 q2
          refine ⟨_, _, Trim.stay, ?_⟩
          exact ih b (lnOf (x :: b) ln) (tok ++ [x]) [x] (by omega) (by rw [List.length_append]; show _ + 1 + _ ≤ _; omega) q1 q2
noncomputable def gtS : Spec := fun vs led K => ∃ (b : List Nat) (ln : Int) (c c2 : Addr) (rest : Led), vs = [.loc 6] ∧ led = lexLed (34 :: b) ln c c2 ++ rest ∧ b.length ≤ 900000 ∧ K (.str (gqX b).1) (lexLed (gqX b).2.1 (ln + ((gqX b).2.2.1 : Int)) c c2 ++ rest)
set_option tactic.hygienic false in
theorem gt_ok : FnOk 16 192 49 gtS := by
  refine (fnC_Y (n := 100) (fn := gtF) (tab := none) (room := 0) hd_gt (Nat.zero_le 13) (by decide) (fun _ h => nomatch h) gtF_ok).prefix.mono ?_
  rintro vs led K - - ⟨b, ln, c, c2, rest, rfl, rfl, hb, k⟩
  refine ⟨lexLed (34 :: b) ln c c2, rest, rfl, ?_, lexLed_closed, ?_⟩
  · exact fun v hv => by rw [List.mem_singleton.mp hv]; exact Nat.le_of_ble_eq_true rfl
  conv => whnf
  refine ⟨rfl, ?_⟩
  conv => whnf
  refine ⟨Nat.le_of_ble_eq_true rfl, ?_⟩
  conv => whnf
  refine ⟨by kernel_rfl, ?_⟩
  conv => whnf
  refine ⟨rfl, b.length + 3, ?_⟩
  conv => whnf
  refine ⟨34 :: b, ln, c, c2, _, rfl, rfl, by rw [List.length_cons]; omega, ?_⟩
  conv => whnf
  refine ⟨rfl, ?_⟩
  conv => whnf
  refine ⟨rfl, ?_⟩
  conv => whnf
  refine ⟨34, rfl, ?_⟩
  conv => whnf
  refine ⟨rfl, b.length + 1, ?_⟩
  refine gt_inner (f := 50) (b.length + 1) b ln [] [34] (Nat.lt_succ_self _) (by show 0 + _ ≤ _; omega) (fun hq loc => ?_) fun hq ch => ?_
  · conv => whnf
    exact ⟨True.intro, Nat.le_of_ble_eq_true rfl, lexLed_closed (T := (gqX b).2.1) (ln := ln + ((gqX b).2.2.1 : Int)) (c := c) (c2 := c2), k⟩
  · conv => whnf
    refine ⟨_, _, Trim.stay, ?_⟩
    conv => whnf
    refine ⟨rfl, ?_⟩
    conv => whnf
    exact ⟨True.intro, Nat.le_of_ble_eq_true rfl, lexLed_closed (T := (gqX b).2.1) (ln := ln + ((gqX b).2.2.1 : Int)) (c := c) (c2 := c2), k⟩
end Mine
end
section
open PySem PySem.W PyProof.Rows PySem.Calls PyProof.V PySem.Spec
namespace Mine
noncomputable def wr0 : List Nat → List Nat
  | [] => []
  | c :: r => if c = 34 then 34 :: 34 :: wr0 r else c :: wr0 r
noncomputable def wr1 : List Nat → List Nat
  | [] => []
  | c :: r => if c = 34 ∨ c = 92 then 92 :: c :: wr1 r else c :: wr1 r
noncomputable def und0 : List Nat → Option (List Nat)
  | [] => some []
  | c :: r => if c = 34 then (match r with | [] => none | d :: r' => if d = 34 then (und0 r').map (34 :: ·) else none) else (und0 r).map (c :: ·)
noncomputable def und1 : List Nat → Option (List Nat)
  | [] => some []
  | c :: r => if c = 34 then none else if c = 92 then (match r with | [] => none | d :: r' => if d = 34 ∨ d = 92 then (und1 r').map (d :: ·) else none) else (und1 r).map (c :: ·)
noncomputable def wrh (h : Nat) (t : List Nat) : List Nat := if h = 0 then wr0 t else wr1 t
noncomputable def und (h : Nat) (t : List Nat) : Option (List Nat) := if h = 0 then und0 t else und1 t
noncomputable def chain : Nat → Nat → List Nat → List (List Nat)
  | 0, _, _ => []
  | n + 1, h, t => match und h t with
    | none => []
    | some v => v :: chain n (1 - h) v
noncomputable def bare (t : List Nat) : Bool := t.all fun c => !(c == 34) && !(c == 92)
noncomputable def partner (h : Nat) (t : List Nat) : List Nat := match bare t with
  | true => t
  | false => match chain (2 * t.length + 2) h t with
    | [] => wrh (1 - h) t
    | v :: vs => if vs.length % 2 = 0 then v else wrh (1 - h) t
noncomputable def unitsOf : Nat → List Nat → List (Nat × List Nat)
  | k, [] => [(k, [])]
  | k, c :: r => if c = 92 then unitsOf (k + 1) r else (k, [c]) :: unitsOf 0 r
noncomputable def fitsN (depth size : Nat) : Nat → List (Nat × List Nat) → Bool
  | _, [] => true
  | p, (k, sg) :: us => if sg = [34] then
      (match decide (if p % 2 ^ depth = 0 then (k + 1) % size = 0 else k = p ^^^ (p - 1)) with | true => fitsN depth size (p + 1) us | false => false)
    else (match decide (p % 2 ^ depth + k % size = 0) with | true => fitsN depth size 0 us | false => false)
noncomputable def layersN (us : List (Nat × List Nat)) : Nat → Nat → Nat
  | 0, k => k - 1
  | n + 1, k => match fitsN ((k + 1) / 2) (2 ^ (k / 2 + 1)) 0 us with
    | true => layersN us n (k + 1)
    | false => k
noncomputable def halves (us : List (Nat × List Nat)) : List Nat := us.flatMap fun u => List.replicate (u.1 / 2) 92 ++ u.2
noncomputable def toldN (t : List Nat) : List Nat := match bare t with
  | true => t
  | false => if layersN (unitsOf 0 t) 40 0 % 2 = 0 then wr0 t else halves (unitsOf 0 t)
noncomputable def texts : Nat → List (List Nat)
  | 0 => [[]]
  | n + 1 => [] :: ([34, 92, 2, 3].flatMap fun c => (texts n).map (c :: ·))
noncomputable def writes : List Nat → List Nat → List Nat
  | [], t => t
  | h :: w, t => writes w (wrh h t)
noncomputable def okT (t : List Nat) : Bool := decide (partner 1 t = toldN t) && decide (partner 0 (partner 1 t) = t) && decide (partner 1 (partner 0 t) = t) && decide (t.length ≤ 40) && decide ((partner 1 t).length ≤ 40) && (partner 1 t).all fun c => decide (c ∈ [34, 92, 2, 3])
set_option tactic.hygienic false in
theorem fin1 : (texts 4).all (fun t => okT t) = true := by decide +kernel
set_option tactic.hygienic false in
theorem fin2 : (texts 4).all (fun t => okT (wr0 t)) = true := by decide +kernel
set_option tactic.hygienic false in
theorem fin3 : (texts 4).all (fun t => okT (wr1 t)) = true := by decide +kernel
set_option tactic.hygienic false in
theorem fin4 : ([[0,1],[1,0],[1,1],[0,0]] : List (List Nat)).all (fun w => (texts 2).all (fun t => okT (writes w t))) = true := by decide +kernel
set_option tactic.hygienic false in
theorem fin5 : ([[0,1,0],[1,0,1],[0,1,0,1]] : List (List Nat)).all (fun w => (texts 1).all (fun t => okT (writes w t))) = true := by decide +kernel
noncomputable def wordsL : List (List Nat) := [[], [0], [1], [0, 1], [1, 0], [0, 1, 0], [1, 0, 1], [0, 1, 0, 1], [1, 1], [0, 0]]
noncomputable def capOf (w : List Nat) : Nat := ([4, 4, 2, 1, 1][w.length]?).getD 0
set_option tactic.hygienic false in
theorem fin_ok {w t : List Nat} (hw : w ∈ wordsL) (ht : t ∈ texts (capOf w)) : okT (writes w t) = true := by
  unfold wordsL at hw
  simp only [List.mem_cons, List.not_mem_nil, or_false] at hw
  rcases hw with rfl | rfl | rfl | rfl | rfl | rfl | rfl | rfl | rfl | rfl
  · exact List.all_eq_true.mp fin1 t ht
  · exact List.all_eq_true.mp fin2 t ht
  · exact List.all_eq_true.mp fin3 t ht
  · exact List.all_eq_true.mp (List.all_eq_true.mp fin4 [0, 1] (.head _)) t ht
  · exact List.all_eq_true.mp (List.all_eq_true.mp fin4 [1, 0] (.tail _ (.head _))) t ht
  · exact List.all_eq_true.mp (List.all_eq_true.mp fin5 [0, 1, 0] (.head _)) t ht
  · exact List.all_eq_true.mp (List.all_eq_true.mp fin5 [1, 0, 1] (.tail _ (.head _))) t ht
  · exact List.all_eq_true.mp (List.all_eq_true.mp fin5 [0, 1, 0, 1] (.tail _ (.tail _ (.head _)))) t ht
  · exact List.all_eq_true.mp (List.all_eq_true.mp fin4 [1, 1] (.tail _ (.tail _ (.head _)))) t ht
  · exact List.all_eq_true.mp (List.all_eq_true.mp fin4 [0, 0] (.tail _ (.tail _ (.tail _ (.head _))))) t ht
noncomputable def Lf (f : Nat → Nat) : Prop := ∀ c, (f c = 34 ↔ c = 34) ∧ (f c = 92 ↔ c = 92)
section
variable {f : Nat → Nat} (hf : Lf f)
include hf
set_option tactic.hygienic false in
theorem Lf.m : f 34 = 34 := (hf 34).1.mpr rfl
set_option tactic.hygienic false in
theorem Lf.b : f 92 = 92 := (hf 92).2.mpr rfl
set_option tactic.hygienic false in
theorem wr0_map : ∀ t, wr0 (t.map f) = (wr0 t).map f
  | [] => rfl
  | c :: r => by
    rw [List.map_cons]
    unfold wr0
    rw [wr0_map r]
    by_cases h : c = 34
    · rw [if_pos h, if_pos ((hf c).1.mpr h), List.map_cons, List.map_cons, hf.m]
    · rw [if_neg h, if_neg (fun e => h ((hf c).1.mp e)), List.map_cons]
set_option tactic.hygienic false in
theorem wr1_map : ∀ t, wr1 (t.map f) = (wr1 t).map f
  | [] => rfl
  | c :: r => by
    rw [List.map_cons]
    unfold wr1
    rw [wr1_map r]
    by_cases h : c = 34 ∨ c = 92
    · rw [if_pos h, if_pos (h.imp (hf c).1.mpr (hf c).2.mpr), List.map_cons, List.map_cons, hf.b]
    · rw [if_neg h, if_neg (fun e => h (e.imp (hf c).1.mp (hf c).2.mp)), List.map_cons]
set_option tactic.hygienic false in
theorem wrh_map (h : Nat) (t : List Nat) : wrh h (t.map f) = (wrh h t).map f := by
  unfold wrh
  split
  · exact wr0_map hf t
  · exact wr1_map hf t
set_option tactic.hygienic false in
theorem writes_map : ∀ (w t : List Nat), writes w (t.map f) = (writes w t).map f
  | [], _ => rfl
  | h :: w, t => by
    show writes w (wrh h (t.map f)) = _
    rw [wrh_map hf, writes_map w]; rfl
set_option tactic.hygienic false in
theorem und0_map : ∀ (n : Nat) (t : List Nat), t.length ≤ n → und0 (t.map f) = (und0 t).map (List.map f)
  | _, [], _ => rfl
  | n + 1, c :: r, hl => by
    rw [List.length_cons] at hl
    rw [List.map_cons]
    unfold und0
    by_cases h : c = 34
    · rw [if_pos h, if_pos ((hf c).1.mpr h)]
      cases r with
      | nil => rfl
      | cons d r =>
        rw [List.length_cons] at hl
        rw [List.map_cons]
        dsimp only
        by_cases h2 : d = 34
        · rw [if_pos h2, if_pos ((hf d).1.mpr h2), und0_map n r (by omega)]
          cases und0 r with
          | none => rfl
          | some v =>
            show some (34 :: v.map f) = some ((34 :: v).map f)
            rw [List.map_cons, hf.m]
        · rw [if_neg h2, if_neg (fun e => h2 ((hf d).1.mp e))]; rfl
    · rw [if_neg h, if_neg (fun e => h ((hf c).1.mp e)), und0_map n r (by omega)]
      cases und0 r <;> rfl
set_option tactic.hygienic false in
theorem und1_map : ∀ (n : Nat) (t : List Nat), t.length ≤ n → und1 (t.map f) = (und1 t).map (List.map f)
  | _, [], _ => rfl
  | n + 1, c :: r, hl => by
    rw [List.length_cons] at hl
    rw [List.map_cons]
    unfold und1
    by_cases h : c = 34
    · rw [if_pos h, if_pos ((hf c).1.mpr h)]; rfl
    · rw [if_neg h, if_neg (fun e => h ((hf c).1.mp e))]
      by_cases h9 : c = 92
      · rw [if_pos h9, if_pos ((hf c).2.mpr h9)]
        cases r with
        | nil => rfl
        | cons d r =>
          rw [List.length_cons] at hl
          rw [List.map_cons]
          dsimp only
          by_cases h2 : d = 34 ∨ d = 92
          · rw [if_pos h2, if_pos (h2.imp (hf d).1.mpr (hf d).2.mpr), und1_map n r (by omega)]
            cases und1 r <;> rfl
          · rw [if_neg h2, if_neg (fun e => h2 (e.imp (hf d).1.mp (hf d).2.mp))]; rfl
      · rw [if_neg h9, if_neg (fun e => h9 ((hf c).2.mp e)), und1_map n r (by omega)]
        cases und1 r <;> rfl
set_option tactic.hygienic false in
theorem und_map (h : Nat) (t : List Nat) : und h (t.map f) = (und h t).map (List.map f) := by
  unfold und
  split
  · exact und0_map hf _ t (Nat.le_refl _)
  · exact und1_map hf _ t (Nat.le_refl _)
set_option tactic.hygienic false in
theorem chain_map : ∀ (n h : Nat) (t : List Nat), chain n h (t.map f) = (chain n h t).map (List.map f)
  | 0, _, _ => rfl
  | n + 1, h, t => by
    unfold chain
    rw [und_map hf]
    cases und h t with
    | none => rfl
    | some v =>
      show v.map f :: chain n (1 - h) (v.map f) = _
      rw [chain_map n]; rfl
theorem bare_map (t : List Nat) : bare (t.map f) = bare t := by
  unfold bare
  rw [List.all_map]
  congr 1
  funext c
  show (!(f c == 34) && !(f c == 92)) = _
  have e1 : (f c == 34) = (c == 34) := by rw [Bool.eq_iff_iff, beq_iff_eq, beq_iff_eq]; exact (hf c).1
  have e2 : (f c == 92) = (c == 92) := by rw [Bool.eq_iff_iff, beq_iff_eq, beq_iff_eq]; exact (hf c).2
  rw [e1, e2]
set_option tactic.hygienic false in
theorem partner_map (h : Nat) (t : List Nat) : partner h (t.map f) = (partner h t).map f := by
  unfold partner
  rw [bare_map hf, List.length_map, chain_map hf, wrh_map hf]
  cases bare t with
  | true => rfl
  | false =>
    cases chain (2 * t.length + 2) h t with
    | nil => rfl
    | cons v vs =>
      rw [List.map_cons]
      dsimp only
      rw [List.length_map]
      split <;> rfl
set_option tactic.hygienic false in
theorem units_map : ∀ (k : Nat) (t : List Nat), unitsOf k (t.map f) = (unitsOf k t).map fun u => (u.1, u.2.map f)
  | _, [] => rfl
  | k, c :: r => by
    rw [List.map_cons]
    unfold unitsOf
    by_cases h : c = 92
    · rw [if_pos h, if_pos ((hf c).2.mpr h), units_map (k + 1) r]
    · rw [if_neg h, if_neg (fun e => h ((hf c).2.mp e)), units_map 0 r]; rfl
set_option tactic.hygienic false in
theorem sg_map (sg : List Nat) : sg.map f = [34] ↔ sg = [34] := by
  cases sg with
  | nil => exact Iff.intro (fun e => by cases e) (fun e => by cases e)
  | cons c r =>
    cases r with
    | nil => exact Iff.intro (fun e => by rw [(hf c).1.mp (List.head_eq_of_cons_eq e)]) (fun e => by rw [List.head_eq_of_cons_eq e]; exact congrArg (fun x => [x]) hf.m)
    | cons d r => exact Iff.intro (fun e => absurd (congrArg List.length e) (by simp)) (fun e => absurd (congrArg List.length e) (by simp))
set_option tactic.hygienic false in
theorem fits_map (d s : Nat) : ∀ (p : Nat) (us : List (Nat × List Nat)), fitsN d s p (us.map fun u => (u.1, u.2.map f)) = fitsN d s p us
  | _, [] => rfl
  | p, (k, sg) :: us => by
    rw [List.map_cons]
    unfold fitsN
    rw [fits_map d s (p + 1) us, fits_map d s 0 us]
    by_cases h : sg = [34]
    · rw [if_pos h, if_pos ((sg_map hf sg).mpr h)]
    · rw [if_neg h, if_neg (fun e => h ((sg_map hf sg).mp e))]
set_option tactic.hygienic false in
theorem layers_map {us : List (Nat × List Nat)} : ∀ (n k : Nat), layersN (us.map fun u => (u.1, u.2.map f)) n k = layersN us n k
  | 0, _ => rfl
  | n + 1, k => by
    unfold layersN
    rw [fits_map hf, layers_map n]
set_option tactic.hygienic false in
theorem halves_map : ∀ us : List (Nat × List Nat), halves (us.map fun u => (u.1, u.2.map f)) = (halves us).map f
  | [] => rfl
  | u :: us => by
    have ih := halves_map us
    unfold halves at ih ⊢
    rw [List.map_cons, List.flatMap_cons, List.flatMap_cons, ih, List.map_append, List.map_append, List.map_replicate, hf.b]
set_option tactic.hygienic false in
theorem told_map (t : List Nat) : toldN (t.map f) = (toldN t).map f := by
  unfold toldN
  rw [bare_map hf, units_map hf, layers_map hf, halves_map hf, wr0_map hf]
  cases bare t with
  | true => rfl
  | false =>
    dsimp only
    split <;> rfl
set_option tactic.hygienic false in
theorem law_fin {w t : List Nat} (hw : w ∈ wordsL) (ht : t ∈ texts (capOf w)) : partner 1 (writes w (t.map f)) = toldN (writes w (t.map f)) ∧ partner 0 (partner 1 (writes w (t.map f))) = writes w (t.map f) ∧ partner 1 (partner 0 (writes w (t.map f))) = writes w (t.map f) ∧
    (writes w (t.map f)).length ≤ 40 ∧ ∃ P : List Nat, partner 1 (writes w (t.map f)) = P.map f ∧ P.length ≤ 40 ∧ ∀ c ∈ P, c ∈ [34, 92, 2, 3] := by
  have h := fin_ok hw ht
  unfold okT at h
  simp only [Bool.and_eq_true, decide_eq_true_eq] at h
  obtain ⟨⟨⟨⟨⟨h1, h2⟩, h3⟩, h4⟩, h5⟩, h6⟩ := h
  rw [writes_map hf]
  refine ⟨?_, ?_, ?_, ?_, partner 1 (writes w t), partner_map hf _ _, h5, fun c hc => of_decide_eq_true (List.all_eq_true.mp h6 c hc)⟩
  · rw [partner_map hf, told_map hf, h1]
  · rw [partner_map hf, partner_map hf, h2]
  · rw [partner_map hf, partner_map hf, h3]
  · rw [List.length_map]; exact h4
end
set_option tactic.hygienic false in
theorem mem_texts : ∀ {n : Nat} {t : List Nat}, (∀ c ∈ t, c ∈ [34, 92, 2, 3]) → t.length ≤ n → t ∈ texts n
  | 0, t, _, h => by rw [List.eq_nil_of_length_eq_zero (Nat.le_zero.mp h)]; exact .head _
  | n + 1, [], _, _ => .head _
  | n + 1, c :: r, hc, h => .tail _ (List.mem_flatMap.mpr ⟨c, hc c (.head _), List.mem_map.mpr ⟨r, mem_texts (fun d hd => hc d (.tail _ hd)) (by rw [List.length_cons] at h; omega), rfl⟩⟩)
set_option tactic.hygienic false in
theorem gqX1_esc {c : Nat} {r : List Nat} : (gqX (92 :: c :: r)).1 = c :: (gqX r).1 := by rw [gqX]
set_option tactic.hygienic false in
theorem gqX1_other {c : Nat} {r : List Nat} (h : c ≠ 34) (h2 : c ≠ 92) : (gqX (c :: r)).1 = c :: (gqX r).1 := by rw [gqX_other h h2]
noncomputable def rdW (h : Nat) (t u : List Nat) : List Nat := if h = 0 then pf (t ++ 34 :: u) else (gqX (t ++ 34 :: u)).1
set_option tactic.hygienic false in
theorem und0_rd {u : List Nat} (hu : u.head? ≠ some 34) : ∀ (n : Nat) (t : List Nat), t.length ≤ n → match und0 t with
    | some v => pf (t ++ 34 :: u) = v ∧ wr0 v = t
    | none => wr0 (pf (t ++ 34 :: u)) ≠ t
  | _, [], _ => ⟨pf_end hu, rfl⟩
  | n + 1, c :: r, hl => by
    rw [List.length_cons] at hl
    unfold und0
    by_cases h : c = 34
    · rw [if_pos h]
      subst h
      cases r with
      | nil =>
        show wr0 (pf (34 :: 34 :: u)) ≠ [34]
        rw [pf_two]
        unfold wr0
        rw [if_pos rfl]
        exact fun e => nomatch (List.cons.inj e).2
      | cons d r =>
        rw [List.length_cons] at hl
        dsimp only
        by_cases h2 : d = 34
        · rw [if_pos h2]
          subst h2
          have ih := und0_rd hu n r (by omega)
          show match (und0 r).map (34 :: ·) with
            | some v => pf (34 :: 34 :: (r ++ 34 :: u)) = v ∧ wr0 v = 34 :: 34 :: r
            | none => wr0 (pf (34 :: 34 :: (r ++ 34 :: u))) ≠ 34 :: 34 :: r
          rw [pf_two]
          cases hr : und0 r with
          | none =>
            rw [hr] at ih
            show wr0 (34 :: pf (r ++ 34 :: u)) ≠ _
            rw [wr0, if_pos rfl]
            exact fun e => ih (List.cons.inj (List.cons.inj e).2).2
          | some v =>
            rw [hr] at ih
            refine ⟨congrArg (34 :: ·) ih.1, ?_⟩
            show wr0 (34 :: v) = _
            rw [wr0, if_pos rfl, ih.2]
        · rw [if_neg h2]
          show wr0 (pf (34 :: d :: (r ++ 34 :: u))) ≠ _
          rw [pf_end (by simpa using h2)]
          exact fun e => nomatch e
    · rw [if_neg h]
      have ih := und0_rd hu n r (by omega)
      show match (und0 r).map (c :: ·) with
        | some v => pf (c :: (r ++ 34 :: u)) = v ∧ wr0 v = c :: r
        | none => wr0 (pf (c :: (r ++ 34 :: u))) ≠ c :: r
      rw [pf_other h]
      cases hr : und0 r with
      | none =>
        rw [hr] at ih
        show wr0 (c :: pf (r ++ 34 :: u)) ≠ _
        rw [wr0, if_neg h]
        exact fun e => ih (List.cons.inj e).2
      | some v =>
        rw [hr] at ih
        refine ⟨congrArg (c :: ·) ih.1, ?_⟩
        show wr0 (c :: v) = _
        rw [wr0, if_neg h, ih.2]
set_option tactic.hygienic false in
theorem und1_rd {u : List Nat} : ∀ (n : Nat) (t : List Nat), t.length ≤ n → match und1 t with
    | some v => (gqX (t ++ 34 :: u)).1 = v ∧ wr1 v = t
    | none => wr1 (gqX (t ++ 34 :: u)).1 ≠ t
  | _, [], _ => ⟨rfl, rfl⟩
  | n + 1, c :: r, hl => by
    rw [List.length_cons] at hl
    unfold und1
    by_cases h : c = 34
    · rw [if_pos h]
      subst h
      exact fun e => nomatch e
    · rw [if_neg h]
      by_cases h9 : c = 92
      · rw [if_pos h9]
        subst h9
        cases r with
        | nil =>
          show wr1 (gqX (92 :: 34 :: u)).1 ≠ [92]
          rw [gqX1_esc, wr1, if_pos (.inl rfl)]
          exact fun e => nomatch (List.cons.inj e).2
        | cons d r =>
          rw [List.length_cons] at hl
          dsimp only
          by_cases h2 : d = 34 ∨ d = 92
          · rw [if_pos h2]
            have ih := und1_rd (u := u) n r (by omega)
            show match (und1 r).map (d :: ·) with
              | some v => (gqX (92 :: d :: (r ++ 34 :: u))).1 = v ∧ wr1 v = 92 :: d :: r
              | none => wr1 (gqX (92 :: d :: (r ++ 34 :: u))).1 ≠ 92 :: d :: r
            rw [gqX1_esc]
            cases hr : und1 r with
            | none =>
              rw [hr] at ih
              show wr1 (d :: (gqX (r ++ 34 :: u)).1) ≠ _
              rw [wr1, if_pos h2]
              exact fun e => ih (List.cons.inj (List.cons.inj e).2).2
            | some v =>
              rw [hr] at ih
              refine ⟨congrArg (d :: ·) ih.1, ?_⟩
              show wr1 (d :: v) = _
              rw [wr1, if_pos h2, ih.2]
          · rw [if_neg h2]
            show wr1 (gqX (92 :: d :: (r ++ 34 :: u))).1 ≠ _
            rw [gqX1_esc, wr1, if_neg h2]
            exact fun e => h2 (.inr (List.cons.inj e).1)
      · rw [if_neg h9]
        have ih := und1_rd (u := u) n r (by omega)
        show match (und1 r).map (c :: ·) with
          | some v => (gqX (c :: (r ++ 34 :: u))).1 = v ∧ wr1 v = c :: r
          | none => wr1 (gqX (c :: (r ++ 34 :: u))).1 ≠ c :: r
        rw [gqX1_other h h9]
        have hn : ¬ (c = 34 ∨ c = 92) := fun e => e.elim h h9
        cases hr : und1 r with
        | none =>
          rw [hr] at ih
          show wr1 (c :: (gqX (r ++ 34 :: u)).1) ≠ _
          rw [wr1, if_neg hn]
          exact fun e => ih (List.cons.inj e).2
        | some v =>
          rw [hr] at ih
          refine ⟨congrArg (c :: ·) ih.1, ?_⟩
          show wr1 (c :: v) = _
          rw [wr1, if_neg hn, ih.2]
set_option tactic.hygienic false in
theorem und_rd {h : Nat} {t u : List Nat} (hu : u.head? ≠ some 34) : match und h t with
    | some v => rdW h t u = v ∧ wrh h v = t
    | none => wrh h (rdW h t u) ≠ t := by
  unfold und rdW wrh
  by_cases h0 : h = 0
  · simp only [if_pos h0]; exact und0_rd hu _ t (Nat.le_refl _)
  · simp only [if_neg h0]; exact und1_rd _ t (Nat.le_refl _)
theorem wrh_len (h : Nat) : ∀ t : List Nat, t.length ≤ (wrh h t).length ∧ (wrh h t).length ≤ 2 * t.length
  | [] => by unfold wrh; split <;> exact ⟨Nat.le_refl _, Nat.le_refl _⟩
  | c :: r => by
    have ih := wrh_len h r
    unfold wrh at ih ⊢
    split at ih
    · rename_i h0
      rw [if_pos h0, wr0]
      split <;> simp only [List.length_cons] <;> omega
    · rename_i h0
      rw [if_neg h0, wr1]
      split <;> simp only [List.length_cons] <;> omega
theorem und_len {h : Nat} {t v : List Nat} (e : und h t = some v) : v.length ≤ t.length := by
  have z := und_rd (h := h) (t := t) (u := []) (fun e => nomatch e)
  rw [e] at z
  have := (wrh_len h v).1
  rw [z.2] at this
  exact this
theorem partner_len (h : Nat) (t : List Nat) : (partner h t).length ≤ 2 * t.length := by
  unfold partner
  split
  · omega
  · split
    · exact (wrh_len _ _).2
    · rename_i v vs e
      split
      · have e : chain (2 * t.length + 2) h t = v :: vs := e
        unfold chain at e
        cases hu : und h t with
        | none => rw [hu] at e; cases e
        | some w =>
          rw [hu] at e
          have e := (List.cons.inj e).1
          subst e
          have := und_len hu
          omega
      · exact (wrh_len _ _).2
end Mine
end
section
open PySem PySem.W PyProof.Rows PySem.Calls PyProof.V PySem.Spec
namespace Mine
noncomputable def rep1 (c : Nat) (z : List Nat) : List Nat → List Nat
  | [] => []
  | x :: r => if x = c then z ++ rep1 c z r else x :: rep1 c z r
noncomputable def rep2 (a b : Nat) (z : List Nat) : List Nat → List Nat
  | [] => []
  | [x] => [x]
  | x :: y :: r => if x = a ∧ y = b then z ++ rep2 a b z r else x :: rep2 a b z (y :: r)
section
open StrLaws Builtin Builtin.Str
variable {x y z : Str} {F : List Nat → List Nat}
set_option tactic.hygienic false in
theorem rep_gap (h2 : ∀ i c, ¬ StrLaws.At x y x.length i → x.cps.toList[i]? = some c → F (x.cps.toList.drop i) = c :: F (x.cps.toList.drop (i + 1))) : ∀ (n a : Nat), (∀ k, a ≤ k → k < a + n → ¬ StrLaws.At x y x.length k) → a + n ≤ x.cps.toList.length →
    F (x.cps.toList.drop a) = (x.cps.toList.drop a).take n ++ F (x.cps.toList.drop (a + n))
  | 0, a, _, _ => by rw [List.take_zero]; rfl
  | n + 1, a, h, hl => by
    have hc := List.getElem?_eq_getElem (show a < x.cps.toList.length by omega)
    rw [h2 a _ (h a (Nat.le_refl _) (by omega)) hc, rep_gap h2 n (a + 1) (fun k h1 h3 => h k (by omega) (by omega)) (by omega), drop_cons hc, List.take_succ_cons, show a + 1 + n = a + (n + 1) by omega]
    rfl
set_option tactic.hygienic false in
theorem rep_parts (h1 : ∀ i, StrLaws.At x y x.length i → F (x.cps.toList.drop i) = z.cps.toList ++ F (x.cps.toList.drop (i + y.length))) (h2 : ∀ i c, ¬ StrLaws.At x y x.length i → x.cps.toList[i]? = some c → F (x.cps.toList.drop i) = c :: F (x.cps.toList.drop (i + 1))) (h3 : F [] = []) :
    ∀ (cuts : List Nat) (a f : Nat), ChainG x y x.length a cuts f → (∀ k, f ≤ k → ¬ StrLaws.At x y x.length k) → a ≤ x.cps.toList.length → (Str.join z (partsFrom x y.length a cuts)).cps.toList = F (x.cps.toList.drop a)
  | [], a, f, h, hn, ha => by
    have e : f = a := h
    subst e
    have hx : x.length = x.cps.toList.length := by simp [Str.length]
    have g := rep_gap (n := x.cps.toList.length - f) (a := f) h2 (fun k h1 _ => hn k h1) (by omega)
    rw [show f + (x.cps.toList.length - f) = x.cps.toList.length by omega, List.drop_length, h3, List.append_nil] at g
    show (strSub x f x.length).cps.toList = _
    rw [strSub_toList, g, hx]
  | c :: r, a, f, h, hn, ha => by
    have hx : x.length = x.cps.toList.length := by simp [Str.length]
    have hc := h.2.1.1
    have ih := rep_parts h1 h2 h3 r (c + y.length) f h.2.2.2 hn (by omega)
    have g := rep_gap (n := c - a) (a := a) h2 (fun k h4 h5 => h.2.2.1 k h4 (by have := h.1; omega)) (by have := h.1; omega)
    rw [show a + (c - a) = c by have := h.1; omega, h1 c h.2.1] at g
    obtain ⟨p, ps, e⟩ := partsFrom_ne x y.length (c + y.length) r
    show (Str.join z (strSub x a c :: partsFrom x y.length (c + y.length) r)).cps.toList = _
    rw [e] at ih ⊢
    show (strSub x a c ++ z ++ Str.join z (p :: ps)).cps.toList = _
    rw [Str.cps_append, Str.cps_append, Array.toList_append, Array.toList_append, ih, g, strSub_toList, List.append_assoc]
theorem replace_gen (hy : 1 ≤ y.length) (h1 : ∀ i, StrLaws.At x y x.length i → F (x.cps.toList.drop i) = z.cps.toList ++ F (x.cps.toList.drop (i + y.length))) (h2 : ∀ i c, ¬ StrLaws.At x y x.length i → x.cps.toList[i]? = some c → F (x.cps.toList.drop i) = c :: F (x.cps.toList.drop (i + 1))) (h3 : F [] = []) :
    (Txt.replace x y z).cps.toList = F x.cps.toList := by
  obtain ⟨f, hG, hn⟩ := occ_tight x y hy
  have key := rep_parts h1 h2 h3 _ 0 f hG hn (Nat.zero_le _)
  rw [List.drop_zero] at key
  have e0 : (y.length == 0) = false := by rw [beq_eq_false_iff_ne]; omega
  unfold Txt.replace
  rw [e0, Bool.false_and, Bool.or_false]
  split
  · rename_i he
    rw [List.isEmpty_iff.mp he] at key
    rw [← key]
    show x.cps.toList = (strSub x 0 x.length).cps.toList
    rw [sub_whole]
  · rw [glued_eq_join, partsBetween_eq]
    exact key
end
open StrLaws in
set_option tactic.hygienic false in
theorem replace1 (l z : List Nat) (c : Nat) : (Txt.replace (strOf l) (strOf [c]) (strOf z)).cps.toList = rep1 c z l := by
  refine replace_gen (F := rep1 c z) (Nat.le_refl 1) (fun i h => ?_) (fun i d h e => ?_) rfl
  · have e := (subAt_one (strOf l) c i).mp h
    rw [drop_cons e, rep1, if_pos rfl]; rfl
  · have hne : d ≠ c := fun z => h ((subAt_one (strOf l) c i).mpr (z ▸ e))
    rw [drop_cons e, rep1, if_neg hne]
set_option tactic.hygienic false in
theorem rep2_other {a b x : Nat} {z r : List Nat} (h : x ≠ a) : rep2 a b z (x :: r) = x :: rep2 a b z r := by
  cases r with
  | nil => rfl
  | cons y r => rw [rep2, if_neg (fun e => h e.1)]
open StrLaws in
set_option tactic.hygienic false in
theorem replace2 (l z : List Nat) (a b : Nat) : (Txt.replace (strOf l) (strOf [a, b]) (strOf z)).cps.toList = rep2 a b z l := by
  have hA : ∀ i, StrLaws.At (strOf l) (strOf [a, b]) (strOf l).length i ↔ (l.drop i).take 2 = [a, b] := fun i => by
    unfold StrLaws.At
    rw [subAt_eq]
    show i + 2 ≤ l.length ∧ ((l.drop i).take 2 == [a, b]) = true ↔ _
    rw [beq_iff_eq]
    refine ⟨fun h => h.2, fun h => ⟨?_, h⟩⟩
    have e := congrArg List.length h
    rw [List.length_take, List.length_drop] at e
    have e : min 2 (l.length - i) = 2 := e
    omega
  refine replace_gen (F := rep2 a b z) (by show 1 ≤ 2; decide) (fun i h => ?_) (fun i d h e => ?_) rfl
  · have h := (hA i).mp h
    show rep2 a b z (l.drop i) = z ++ rep2 a b z (l.drop (i + 2))
    rw [← List.drop_drop]
    match hr : l.drop i, h with
    | x :: y :: r, h =>
      injection h with h1 h2
      injection h2 with h2 _
      rw [rep2, if_pos ⟨h1, h2⟩]; rfl
    | [], h => cases h
    | [_], h => cases h
  · have h : ¬ (l.drop i).take 2 = [a, b] := fun q => h ((hA i).mpr q)
    have e : l[i]? = some d := e
    show rep2 a b z (l.drop i) = d :: rep2 a b z (l.drop (i + 1))
    rw [drop_cons e] at h ⊢
    cases hr : l.drop (i + 1) with
    | nil => rfl
    | cons y r =>
      rw [hr] at h
      rw [rep2, if_neg (fun q => h (by rw [q.1, q.2]; rfl))]
set_option tactic.hygienic false in
theorem tw_free {c : Nat} : ∀ p : List Nat, c ∉ p → p.takeWhile (fun x => x != c) = p
  | [], _ => rfl
  | x :: r, h => by
    have hx : x ≠ c := fun e => h (by rw [e]; exact .head _)
    rw [List.takeWhile_cons, if_pos (bne_iff_ne.mpr hx), tw_free r fun z => h (.tail _ z)]
open StrLaws in
set_option tactic.hygienic false in
theorem split_head (l : List Nat) (c : Nat) : ∃ ps, (Txt.split (strOf l) (strOf [c])).map (fun p => p.cps.toList) = l.takeWhile (fun x => x != c) :: ps := by
  have hj := join_split (strOf l) ⟨#[c]⟩
  have hf := split_free (strOf l) c
  cases hs : Txt.split (strOf l) ⟨#[c]⟩ with
  | nil =>
    exfalso
    unfold Txt.split at hs
    split at hs
    · cases hs
    · split at hs
      · cases hs
      · rw [partsBetween_eq] at hs
        obtain ⟨p, ps, e⟩ := partsFrom_ne (strOf l) (⟨#[c]⟩ : Str).length 0 (Builtin.Str.occurrences (strOf l) ⟨#[c]⟩ 0 (strOf l).length ((strOf l).length + 1))
        rw [e] at hs
        cases hs
  | cons p ps =>
    rw [hs] at hj hf
    refine ⟨ps.map fun p => p.cps.toList, ?_⟩
    show (Txt.split (strOf l) ⟨#[c]⟩).map _ = _
    rw [hs, List.map_cons]
    congr 1
    have hp := hf p (.head _)
    cases ps with
    | nil =>
      have e : p = strOf l := hj
      rw [← tw_free _ hp, e]; rfl
    | cons q r =>
      have e : p ++ ⟨#[c]⟩ ++ Str.join ⟨#[c]⟩ (q :: r) = strOf l := hj
      have e := congrArg (fun s : Str => s.cps.toList) e
      simp only [Str.cps_append, Array.toList_append] at e
      have e : p.cps.toList ++ [c] ++ (Str.join ⟨#[c]⟩ (q :: r)).cps.toList = l := e
      rw [← e, List.append_assoc, List.takeWhile_append, tw_free _ hp, if_pos rfl]
      show _ = p.cps.toList ++ List.takeWhile (fun x => x != c) (c :: _)
      rw [List.takeWhile_cons, if_neg (by simp), List.append_nil]
noncomputable def fold0 (t : List Nat) : List Nat := rep1 33 [34] ((rep2 34 34 [33] t).takeWhile (fun x => x != 34))
noncomputable def foldG (t : List Nat) : List Nat := rep2 92 34 [63] (rep2 92 92 [33] t)
noncomputable def foldW (t : List Nat) : List Nat := rep1 33 [92] (rep1 63 [34] (rep1 92 [] ((foldG t).takeWhile (fun x => x != 34))))
noncomputable def foldL (t : List Nat) : List Nat := rep1 33 [92, 92] (rep1 63 [92, 34] ((foldG t).drop (((foldG t).takeWhile (fun x => x != 34)).length + 1)))
set_option tactic.hygienic false in
theorem rep1_eq {c : Nat} {z r : List Nat} : rep1 c z (c :: r) = z ++ rep1 c z r := by rw [rep1, if_pos rfl]
set_option tactic.hygienic false in
theorem rep1_ne {c x : Nat} {z r : List Nat} (h : x ≠ c) : rep1 c z (x :: r) = x :: rep1 c z r := by rw [rep1, if_neg h]
set_option tactic.hygienic false in
theorem rep2_eq {a b : Nat} {z r : List Nat} : rep2 a b z (a :: b :: r) = z ++ rep2 a b z r := by rw [rep2, if_pos ⟨rfl, rfl⟩]
set_option tactic.hygienic false in
theorem rep2_ne {a b x y : Nat} {z r : List Nat} (h : y ≠ b) : rep2 a b z (x :: y :: r) = x :: rep2 a b z (y :: r) := by rw [rep2, if_neg (fun e => h e.2)]
set_option tactic.hygienic false in
theorem tw_eq {r : List Nat} : (34 :: r).takeWhile (fun x => x != 34) = [] := by rw [List.takeWhile_cons, if_neg (by decide)]
set_option tactic.hygienic false in
theorem tw_ne {c : Nat} {r : List Nat} (h : c ≠ 34) : (c :: r).takeWhile (fun x => x != 34) = c :: r.takeWhile (fun x => x != 34) := by rw [List.takeWhile_cons, if_pos (bne_iff_ne.mpr h)]
set_option tactic.hygienic false in
theorem fold0_eq : ∀ (n : Nat) (t : List Nat), t.length ≤ n → (∀ c ∈ t, c ≠ 33 ∧ c ≠ 63) → fold0 t = pf t
  | _, [], _, _ => by rw [pf_nil]; rfl
  | n + 1, c :: r, hl, hc => by
    rw [List.length_cons] at hl
    have h33 := (hc c (.head _)).1
    unfold fold0
    by_cases h : c = 34
    · subst h
      cases r with
      | nil => rw [pf_end (by simp)]; rfl
      | cons d r =>
        rw [List.length_cons] at hl
        by_cases h2 : d = 34
        · subst h2
          have ih := fold0_eq n r (by omega) fun c h => hc c (.tail _ (.tail _ h))
          unfold fold0 at ih
          rw [rep2_eq, pf_two, ← ih]
          show rep1 33 [34] ((33 :: rep2 34 34 [33] r).takeWhile _) = _
          rw [tw_ne (by decide), rep1_eq]; rfl
        · rw [rep2_ne h2, tw_eq, pf_end (by simpa using h2)]; rfl
    · have ih := fold0_eq n r (by omega) fun c h => hc c (.tail _ h)
      unfold fold0 at ih
      rw [rep2_other h, pf_other h, ← ih, tw_ne h, rep1_ne h33]
set_option tactic.hygienic false in
theorem fG_bb {r : List Nat} : foldG (92 :: 92 :: r) = 33 :: foldG r := by
  unfold foldG
  rw [rep2_eq]
  exact rep2_other (by decide)
set_option tactic.hygienic false in
theorem fG_bm {r : List Nat} : foldG (92 :: 34 :: r) = 63 :: foldG r := by
  unfold foldG
  rw [rep2_ne (by decide), rep2_other (a := 92) (b := 92) (x := 34) (by decide), rep2_eq]; rfl
set_option tactic.hygienic false in
theorem fG_other {c : Nat} {r : List Nat} (h : c ≠ 92) : foldG (c :: r) = c :: foldG r := by
  unfold foldG
  rw [rep2_other h, rep2_other h]
set_option tactic.hygienic false in
theorem fG_bc {c : Nat} {r : List Nat} (h : c ≠ 92) (h2 : c ≠ 34) : foldG (92 :: c :: r) = 92 :: c :: foldG r := by
  unfold foldG
  rw [rep2_ne h, rep2_other h, rep2_ne h2, rep2_other h]
set_option tactic.hygienic false in
theorem unfold_ok : ∀ (n : Nat) (t : List Nat), t.length ≤ n → (∀ c ∈ t, c ≠ 33 ∧ c ≠ 63) → rep1 33 [92, 92] (rep1 63 [92, 34] (foldG t)) = t
  | _, [], _, _ => rfl
  | n + 1, c :: r, hl, hc => by
    rw [List.length_cons] at hl
    have hcc := hc c (.head _)
    by_cases h : c = 92
    · subst h
      cases r with
      | nil => rfl
      | cons d r =>
        rw [List.length_cons] at hl
        have ih := unfold_ok n r (by omega) fun c h => hc c (.tail _ (.tail _ h))
        have hd := hc d (.tail _ (.head _))
        by_cases h2 : d = 92
        · subst h2
          rw [fG_bb, rep1_ne (by decide), rep1_eq, ih]; rfl
        · by_cases h3 : d = 34
          · subst h3
            rw [fG_bm, rep1_eq]
            show rep1 33 [92, 92] (92 :: 34 :: rep1 63 [92, 34] (foldG r)) = _
            rw [rep1_ne (by decide), rep1_ne (by decide), ih]
          · rw [fG_bc h2 h3, rep1_ne (by decide), rep1_ne hd.2, rep1_ne (by decide), rep1_ne hd.1, ih]
    · have ih := unfold_ok n r (by omega) fun c h => hc c (.tail _ h)
      rw [fG_other h, rep1_ne hcc.2, rep1_ne hcc.1, ih]
set_option tactic.hygienic false in
theorem foldWL : ∀ (n : Nat) (t : List Nat), t.length ≤ n → (∀ c ∈ t, c ≠ 33 ∧ c ≠ 63) → foldW t = (gqX t).1 ∧ foldL t = (gqX t).2.1 ∧ ((gqX t).1.filter fun c => c == 10).length = (gqX t).2.2.1
  | _, [], _, _ => ⟨rfl, rfl, rfl⟩
  | n + 1, c :: r, hl, hc => by
    rw [List.length_cons] at hl
    have hcc := hc c (.head _)
    by_cases h : c = 92
    · subst h
      cases r with
      | nil => exact ⟨rfl, rfl, rfl⟩
      | cons d r =>
        rw [List.length_cons] at hl
        obtain ⟨ih1, ih2, ih3⟩ := foldWL n r (by omega) fun c h => hc c (.tail _ (.tail _ h))
        have hd := hc d (.tail _ (.head _))
        have e : gqX (92 :: d :: r) = (d :: (gqX r).1, (gqX r).2.1, (gqX r).2.2.1 + (if d = 10 then 1 else 0), (gqX r).2.2.2) := by rw [gqX]
        rw [e]
        unfold foldW at ih1
        unfold foldL at ih2
        unfold foldW foldL
        have hn : ((d :: (gqX r).1).filter fun c => c == 10).length = (gqX r).2.2.1 + (if d = 10 then 1 else 0) := by
          rw [List.filter_cons]
          by_cases h10 : d = 10
          · rw [if_pos (by rw [h10]; rfl), if_pos h10, List.length_cons, ih3]
          · rw [if_neg (by simpa using h10), if_neg h10, ih3]; rfl
        refine ⟨?_, ?_, hn⟩
        · by_cases h2 : d = 92
          · subst h2
            rw [fG_bb, tw_ne (by decide), rep1_ne (by decide), rep1_ne (by decide), rep1_eq, ih1]; rfl
          · by_cases h3 : d = 34
            · subst h3
              rw [fG_bm, tw_ne (by decide), rep1_ne (by decide), rep1_eq]
              show rep1 33 [92] (34 :: rep1 63 [34] (rep1 92 [] ((foldG r).takeWhile fun x => x != 34))) = _
              rw [rep1_ne (by decide), ih1]
            · rw [fG_bc h2 h3, tw_ne (by decide), tw_ne h3, rep1_eq]
              show rep1 33 [92] (rep1 63 [34] (rep1 92 [] (d :: _))) = _
              rw [rep1_ne h2, rep1_ne hd.2, rep1_ne hd.1, ih1]
        · rw [← ih2]
          by_cases h2 : d = 92
          · subst h2
            rw [fG_bb, tw_ne (by decide)]; rfl
          · by_cases h3 : d = 34
            · subst h3
              rw [fG_bm, tw_ne (by decide)]; rfl
            · rw [fG_bc h2 h3, tw_ne (by decide), tw_ne h3]; rfl
    · rw [show foldW (c :: r) = rep1 33 [92] (rep1 63 [34] (rep1 92 [] ((foldG (c :: r)).takeWhile (fun x => x != 34)))) from rfl,
        show foldL (c :: r) = rep1 33 [92, 92] (rep1 63 [92, 34] ((foldG (c :: r)).drop (((foldG (c :: r)).takeWhile (fun x => x != 34)).length + 1))) from rfl, fG_other h]
      by_cases h3 : c = 34
      · subst h3
        rw [tw_eq]
        refine ⟨rfl, ?_, rfl⟩
        show rep1 33 [92, 92] (rep1 63 [92, 34] (foldG r)) = r
        exact unfold_ok n r (by omega) fun c h => hc c (.tail _ h)
      · obtain ⟨ih1, ih2, ih3⟩ := foldWL n r (by omega) fun c h => hc c (.tail _ h)
        unfold foldW at ih1
        unfold foldL at ih2
        rw [tw_ne h3, gqX_other h3 h]
        refine ⟨?_, ?_, ?_⟩
        · rw [rep1_ne h, rep1_ne hcc.2, rep1_ne hcc.1, ih1]
        · exact ih2
        · show ((c :: (gqX r).1).filter fun c => c == 10).length = _
          rw [List.filter_cons]
          by_cases h10 : c = 10
          · rw [if_pos (by rw [h10]; rfl), if_pos h10, List.length_cons, ih3]
          · rw [if_neg (by simpa using h10), if_neg h10, ih3]; rfl
end Mine
end
section
open PySem PySem.W PyProof.Rows PySem.Calls PyProof.V PySem.Spec
namespace Mine
set_option maxRecDepth 100000
set_option maxHeartbeats 8000000
set_option pp.deepTerms false
set_option pp.maxSteps 600
set_option tactic.hygienic false in
theorem compP_st {tn : Nat} {turn : SV → Loc → List SV → Led → KC → Prop} {keep : Led → Prop} {led : Led} {K : KC} {f : SV → List SV} (kp : keep led) :
    ∀ (items acc : List SV), (∀ v ∈ items, ∀ (acc : List SV) (K : KC), acc.length + (f v).length ≤ 100000 → (∀ e, K e (acc ++ f v) led) → turn v [] acc led K) → acc.length + (items.flatMap f).length ≤ 100000 → K [] (acc ++ items.flatMap f) led → compP tn turn keep items [] acc led K
  | [], acc, _, _, k => by
    rw [List.flatMap_nil, List.append_nil] at k
    exact k
  | v :: vs, acc, ht, hl, k => by
    rw [List.flatMap_cons] at k hl
    rw [List.length_append] at hl
    refine ht v (.head _) acc _ (by omega) fun e => ⟨kp, led, [], ⟨⟨0, rfl⟩, .inl rfl⟩, kp, ?_⟩
    exact compP_st kp vs (acc ++ f v) (fun w hw => ht w (.tail _ hw)) (by rw [List.length_append]; omega) (by rw [List.append_assoc]; exact k)
noncomputable def nlF : SV → List SV
  | .str [c] => if c = 10 then [.str [c]] else []
  | _ => []
set_option tactic.hygienic false in
theorem nl_flat : ∀ t : List Nat, (t.map fun c => SV.str [c]).flatMap nlF = (t.filter fun c => c == 10).map fun c => SV.str [c]
  | [] => rfl
  | c :: t => by
    rw [List.map_cons, List.flatMap_cons, nl_flat t, List.filter_cons]
    by_cases h : c = 10
    · rw [if_pos (by rw [h]; rfl), show nlF (.str [c]) = [.str [c]] from if_pos h]; rfl
    · rw [if_neg (by simpa using h), show nlF (.str [c]) = [] from if_neg h]; rfl
set_option tactic.hygienic false in
theorem hd_fo : FnHd 166 [Str.ofString "hand", Str.ofString "shut"] := ⟨fun w => by kernel_rfl, fun w => by kernel_rfl, by decide +kernel, fun xs hl => by
  obtain ⟨a, b, rfl⟩ := len2 hl
  kernel_rfl⟩
set_option tactic.hygienic false in
theorem rep1_len {c : Nat} {z : List Nat} (hz : z.length ≤ 2) : ∀ t : List Nat, (rep1 c z t).length ≤ 2 * t.length
  | [] => Nat.le_refl _
  | x :: r => by
    have ih := rep1_len (c := c) hz r
    rw [rep1]
    split
    · rw [List.length_append, List.length_cons]; omega
    · rw [List.length_cons, List.length_cons]; omega
set_option tactic.hygienic false in
theorem rep2_len {a b : Nat} {z : List Nat} (hz : z.length ≤ 2) : ∀ (n : Nat) (t : List Nat), t.length ≤ n → (rep2 a b z t).length ≤ t.length
  | _, [], _ => Nat.le_refl _
  | _, [_], _ => Nat.le_refl _
  | n + 1, x :: y :: r, h => by
    rw [List.length_cons, List.length_cons] at h
    rw [rep2]
    split
    · have := rep2_len (a := a) (b := b) hz n r (by omega)
      rw [List.length_append, List.length_cons, List.length_cons]; omega
    · have := rep2_len (a := a) (b := b) hz n (y :: r) (by rw [List.length_cons]; omega)
      have e : (y :: r).length = r.length + 1 := rfl
      rw [List.length_cons, List.length_cons, List.length_cons]
      omega
set_option tactic.hygienic false in
theorem split_V (l : List Nat) (c : Nat) : ∃ ps, (Txt.split (strOf l) (strOf [c])).map (fun p => SV.str p.cps.toList) = .str (l.takeWhile (fun x => x != c)) :: ps := by
  obtain ⟨ps, e⟩ := split_head l c
  refine ⟨ps.map SV.str, ?_⟩
  have e2 := congrArg (List.map SV.str) e
  rw [List.map_map, List.map_cons] at e2
  exact e2
set_option tactic.hygienic false in
theorem tw_len (l : List Nat) : (l.takeWhile (fun x => x != 34)).length ≤ l.length := (List.takeWhile_sublist _).length_le
set_option tactic.hygienic false in
theorem split_X1 {l : List Nat} {led : Led} {K : SV → Led → Prop} (hl : l.length ≤ 100000) (q : ∀ g, K (.str (l.takeWhile (fun x => x != 34))) (led ++ g)) : xSplit (.str l) (.str (Str.ofString "\"").cps.toList) led fun o led => xItem o (.int 0) led K := by
  obtain ⟨ps, e⟩ := split_V l 34
  refine ⟨(fun e => nomatch e), hl, ?_⟩
  rw [show (Txt.split (strOf l) (strOf (Str.ofString "\"").cps.toList)).map (fun p => SV.str p.cps.toList) = _ from e]
  unfold xItem
  dsimp only
  rw [List.getElem?_concat_length]
  exact ⟨Int.le_refl _, by decide, q _⟩
noncomputable def foS : Spec := fun vs led K => ∃ (hand : Int) (t : List Nat), vs = [.int hand, .str t] ∧ t.length ≤ 1000 ∧ (∀ c ∈ t, c ≠ 33 ∧ c ≠ 63) ∧ ((hand = 0 ∧ K (.loc led.length) (led ++ [.list [.str (pf t)]])) ∨ (hand = 1 ∧ K (.loc led.length) (led ++ [.list [.str (gqX t).1, .str (gqX t).2.1, .int (1 + ((gqX t).2.2.1 : Int))]])))
set_option tactic.hygienic false in
theorem fo_ok : FnOk 3 111 166 foS := by
  refine (fnR_Y (runR_ok 60) (fn := noF) (tab := none) (room := 0) hd_fo (Nat.le_refl 0) (Nat.le_refl 100) (fun _ h => nomatch h) fun _ _ h => nomatch h).obj.mono ?_
  rintro vs led K - - ⟨hand, t, rfl, hl, hc, h⟩
  refine ⟨by simp [cV], ?_⟩
  conv => whnf
  rcases h with ⟨rfl, k⟩ | ⟨rfl, k⟩
  · rw [decide_eq_true rfl]
    conv => whnf
    refine ⟨by kernel_rfl, ?_⟩
    conv => whnf
    refine ⟨by kernel_rfl, ?_⟩
    conv => whnf
    refine ⟨by kernel_rfl, ?_⟩
    conv => whnf
    refine ⟨t, rfl, by omega, ?_⟩
    rw [show (Txt.replace (strOf t) (Str.ofString "\"\"") (Str.ofString "!")).cps.toList = rep2 34 34 [33] t from replace2 t [33] 34 34]
    have l1 := rep2_len (a := 34) (b := 34) (z := [33]) (by decide) _ t (Nat.le_refl _)
    refine ⟨_, rfl, split_X1 (by omega) fun g => ?_⟩
    have l2 := tw_len (rep2 34 34 [33] t)
    refine ⟨_, rfl, by omega, ?_⟩
    rw [show (Txt.replace (strOf ((rep2 34 34 [33] t).takeWhile fun x => x != 34)) (Str.ofString "!") (Str.ofString "\"")).cps.toList = pf t from (replace1 _ [34] 33).trans (fold0_eq _ t (Nat.le_refl _) hc)]
    conv => whnf
    exact ⟨_, _, rfl, List.getElem?_concat_length, by simp [plO, cV], k⟩
  · rw [decide_eq_false (by decide)]
    conv => whnf
    refine ⟨rfl, ?_⟩
    conv => whnf
    refine ⟨by kernel_rfl, ?_⟩
    conv => whnf
    refine ⟨by kernel_rfl, ?_⟩
    conv => whnf
    refine ⟨t, rfl, by omega, ?_⟩
    rw [show (Txt.replace (strOf t) (Str.ofString "\\\\") (Str.ofString "!")).cps.toList = rep2 92 92 [33] t from replace2 t [33] 92 92]
    have l1 := rep2_len (a := 92) (b := 92) (z := [33]) (by decide) _ t (Nat.le_refl _)
    refine ⟨_, rfl, by omega, ?_⟩
    rw [show (Txt.replace (strOf (rep2 92 92 [33] t)) (Str.ofString "\\\"") (Str.ofString "?")).cps.toList = foldG t from replace2 _ [63] 92 34]
    have l2 : (foldG t).length ≤ t.length := Nat.le_trans (rep2_len (a := 92) (b := 34) (z := [63]) (by decide) _ _ (Nat.le_refl _)) l1
    conv => whnf
    refine ⟨rfl, ?_⟩
    conv => whnf
    refine ⟨by kernel_rfl, ?_⟩
    conv => whnf
    refine ⟨_, rfl, split_X1 (by omega) fun g => ?_⟩
    have l3 := tw_len (foldG t)
    obtain ⟨e1, e2, e3⟩ := foldWL _ t (Nat.le_refl _) hc
    unfold foldW at e1
    unfold foldL at e2
    generalize (foldG t).takeWhile (fun x => x != 34) = w0 at *
    generalize foldG t = gg at *
    conv => whnf
    refine ⟨rfl, ?_⟩
    conv => whnf
    refine ⟨by kernel_rfl, ?_⟩
    conv => whnf
    refine ⟨by kernel_rfl, ?_⟩
    conv => whnf
    refine ⟨by omega, ?_⟩
    conv => whnf
    refine ⟨by omega, ?_⟩
    rw [show (Txt.slice (strOf gg) (some ((w0.length : Int) + 1)) none).cps.toList = gg.drop (w0.length + 1) from sl_from gg (w0.length + 1)]
    have l4 : (gg.drop (w0.length + 1)).length ≤ gg.length := by rw [List.length_drop]; omega
    generalize gg.drop (w0.length + 1) = ll at *
    refine ⟨_, rfl, by omega, ?_⟩
    rw [show (Txt.replace (strOf ll) (Str.ofString "?") (Str.ofString "\\\"")).cps.toList = rep1 63 [92, 34] ll from replace1 _ [92, 34] 63]
    have l5 := rep1_len (c := 63) (z := [92, 34]) (by decide) ll
    refine ⟨_, rfl, by omega, ?_⟩
    rw [show (Txt.replace (strOf (rep1 63 [92, 34] ll)) (Str.ofString "!") (Str.ofString "\\\\")).cps.toList = (gqX t).2.1 from (replace1 _ [92, 92] 33).trans e2]
    conv => whnf
    refine ⟨rfl, ?_⟩
    conv => whnf
    refine ⟨by kernel_rfl, ?_⟩
    conv => whnf
    refine ⟨by kernel_rfl, ?_⟩
    conv => whnf
    refine ⟨by kernel_rfl, ?_⟩
    conv => whnf
    refine ⟨_, rfl, by omega, ?_⟩
    rw [show (Txt.replace (strOf w0) (Str.ofString "\\") (Str.ofString "")).cps.toList = rep1 92 [] w0 from replace1 _ [] 92]
    have l6 := rep1_len (c := 92) (z := []) (by decide) w0
    refine ⟨_, rfl, by omega, ?_⟩
    rw [show (Txt.replace (strOf (rep1 92 [] w0)) (Str.ofString "?") (Str.ofString "\"")).cps.toList = rep1 63 [34] (rep1 92 [] w0) from replace1 _ [34] 63]
    have l7 := rep1_len (c := 63) (z := [34]) (by decide) (rep1 92 [] w0)
    refine ⟨_, rfl, by omega, ?_⟩
    rw [show (Txt.replace (strOf (rep1 63 [34] (rep1 92 [] w0))) (Str.ofString "!") (Str.ofString "\\")).cps.toList = (gqX t).1 from (replace1 _ [92] 33).trans e1]
    have l8 := rep1_len (c := 33) (z := [92]) (by decide) (rep1 63 [34] (rep1 92 [] w0))
    rw [e1] at l8
    have l9 : (gqX t).1.length ≤ 100000 := by omega
    generalize (gqX t).1 = wd at *
    generalize (gqX t).2.1 = lf at *
    conv => whnf
    refine ⟨by kernel_rfl, ?_⟩
    conv => whnf
    refine ⟨by omega, True.intro, ?_⟩
    refine compP_st (f := nlF) True.intro (wd.map fun c => SV.str [c]) [] ?_ ?_ ?_
    · intro v hv acc K hacc k
      obtain ⟨c, hc, rfl⟩ := List.mem_map.mp hv
      conv => whnf
      by_cases h : c = 10
      · rw [decide_eq_true (show [c] = (Str.ofString "\n").cps.toList by rw [h]; rfl)]
        rw [show nlF (.str [c]) = [.str [c]] from if_pos h] at k hacc
        have hacc : acc.length + 1 ≤ 100000 := hacc
        conv => whnf
        exact ⟨by omega, k _⟩
      · rw [decide_eq_false (show ¬ [c] = (Str.ofString "\n").cps.toList from fun e => h (List.head_eq_of_cons_eq e))]
        rw [show nlF (.str [c]) = [] from if_neg h, List.append_nil] at k
        conv => whnf
        exact k _
    · rw [nl_flat, List.length_map]
      have := List.length_filter_le (fun c => c == 10) wd
      show 0 + _ ≤ _
      omega
    · rw [nl_flat]
      have l10 := List.length_filter_le (fun c => c == 10) wd
      conv => whnf
      refine ⟨_, TrimC.stay, ?_⟩
      conv => whnf
      rw [List.getElem?_concat_length]
      refine ⟨by rw [List.nil_append, List.length_map]; omega, ?_⟩
      rw [List.nil_append, List.length_map, e3]
      conv => whnf
      refine ⟨Nat.le_of_ble_eq_true rfl, ?_⟩
      conv => whnf
      exact ⟨_, _, rfl, List.getElem?_concat_length, by simp [plO, cV], k⟩
end Mine
end
section
open PySem PySem.W PyProof.Rows PySem.Calls PyProof.V
namespace Mine
set_option tactic.hygienic false in
theorem foldl_rep (c : Nat) : ∀ (k : Nat) (acc : Array Nat), (List.replicate k #[c]).foldl (· ++ ·) acc = acc ++ (List.replicate k c).toArray
  | 0, acc => by simp
  | k + 1, acc => by
    rw [List.replicate_succ, List.foldl_cons, foldl_rep c k, List.replicate_succ]
    apply Array.ext'
    simp
theorem mul_one (c : Nat) (n : Int) (h : 0 ≤ n) : Txt.mul ⟨#[c]⟩ n = ⟨(List.replicate n.toNat c).toArray⟩ := by
  unfold Txt.mul
  split
  · have e : n.toNat = 0 := by omega
    rw [e]; rfl
  · split
    · rename_i h1 h2
      have e : n = 1 := by
        have e2 : ((⟨#[c]⟩ : Str).length == 0) = false := rfl
        rw [e2] at h2
        simpa using h2
      rw [e]; rfl
    · show (⟨(List.replicate n.toNat #[c]).foldl (· ++ ·) #[]⟩ : Str) = _
      rw [foldl_rep]
      simp
set_option tactic.hygienic false in
theorem mul_ok {c : Nat} {n : Int} (h0 : 0 ≤ n) (h : n ≤ 1000) : PySem.MulOk ⟨#[c]⟩ n := mulOk_of 1 1000 (Nat.le_refl 1) (by omega) (by omega) (by decide) (by decide)
end Mine
end
section
open PySem PySem.W PyProof.Rows PySem.Calls PyProof.V PySem.Spec
namespace Mine
set_option maxRecDepth 100000
set_option maxHeartbeats 8000000
set_option pp.deepTerms false
set_option pp.maxSteps 600
set_option tactic.hygienic false in
theorem hd_wr : FnHd 154 [Str.ofString "hand", Str.ofString "text"] := ⟨fun w => by kernel_rfl, fun w => by kernel_rfl, by decide +kernel, fun xs hl => by
  obtain ⟨a, b, rfl⟩ := len2 hl
  kernel_rfl⟩
noncomputable def sgF (g : Nat → List Nat) : SV → List SV
  | .str [c] => [.str (g c)]
  | _ => []
set_option tactic.hygienic false in
theorem sg_flat (g : Nat → List Nat) : ∀ t : List Nat, (t.map fun c => SV.str [c]).flatMap (sgF g) = (t.map g).map .str
  | [] => rfl
  | c :: t => by
    rw [List.map_cons, List.flatMap_cons, sg_flat g t]
    rfl
noncomputable def w0 (c : Nat) : List Nat := if c = 34 then [34, 34] else [c]
noncomputable def w1 (c : Nat) : List Nat := if c = 34 ∨ c = 92 then [92, c] else [c]
set_option tactic.hygienic false in
theorem w0_flat : ∀ t : List Nat, (t.map w0).flatten = wr0 t
  | [] => rfl
  | c :: t => by
    rw [List.map_cons, List.flatten_cons, w0_flat t, wr0]
    unfold w0
    split <;> rfl
set_option tactic.hygienic false in
theorem w1_flat : ∀ t : List Nat, (t.map w1).flatten = wr1 t
  | [] => rfl
  | c :: t => by
    rw [List.map_cons, List.flatten_cons, w1_flat t, wr1]
    unfold w1
    split <;> rfl
noncomputable def wrS : Spec := fun vs led K => ∃ (h : Nat) (t : List Nat), vs = [.int (h : Int), .str t] ∧ t.length ≤ 10000 ∧ K (.str (wrh h t)) led
set_option tactic.hygienic false in
theorem wr_ok : FnOk 3 111 154 wrS := by
  refine (fnC_Y (n := 60) (fn := noF) (tab := none) (room := 0) hd_wr (Nat.le_refl 0) (Nat.le_refl 100) (fun _ h => nomatch h) fun _ _ h => nomatch h).plain.mono ?_
  rintro vs led K - - ⟨h, t, rfl, hl, k⟩
  refine ⟨by simp [cV], ?_⟩
  conv => whnf
  by_cases h0 : h = 0
  · rw [decide_eq_true (show (h : Int) = 0 by rw [h0]; rfl)]
    unfold wrh at k
    rw [if_pos h0] at k
    conv => whnf
    refine ⟨by kernel_rfl, ?_⟩
    conv => whnf
    refine ⟨by omega, True.intro, ?_⟩
    refine compP_st (f := sgF w0) True.intro (t.map fun c => SV.str [c]) [] ?_ ?_ ?_
    · intro v hv acc K hacc k
      obtain ⟨c, hc, rfl⟩ := List.mem_map.mp hv
      have hacc : acc.length + 1 ≤ 100000 := hacc
      conv => whnf
      by_cases h : c = 34
      · rw [decide_eq_true (show [c] = (Str.ofString "\"").cps.toList by rw [h]; rfl)]
        conv => whnf
        refine ⟨mul_ok (c := c) (by decide) (by decide), ?_⟩
        rw [show (Txt.mul (strOf [c]) 2).cps.toList = w0 c by
          show (Txt.mul ⟨#[c]⟩ 2).cps.toList = _
          rw [mul_one _ _ (by decide)]
          unfold w0
          rw [if_pos h, h]; rfl]
        conv => whnf
        exact ⟨by omega, k _⟩
      · rw [decide_eq_false (show ¬ [c] = (Str.ofString "\"").cps.toList from fun e => h (List.head_eq_of_cons_eq e))]
        rw [show sgF w0 (.str [c]) = [.str [c]] by show [SV.str (w0 c)] = _; unfold w0; rw [if_neg h]] at k
        conv => whnf
        exact ⟨by omega, k _⟩
    · rw [sg_flat, List.length_map, List.length_map]; show 0 + _ ≤ _; omega
    · rw [sg_flat]
      conv => whnf
      refine ⟨_, TrimC.stay, ?_⟩
      conv => whnf
      refine ⟨rfl, _, List.nil_append _, by rw [List.length_map]; omega, ?_, ?_⟩
      · intro w hw
        obtain ⟨c, hc, rfl⟩ := List.mem_map.mp hw
        unfold w0
        split <;> exact Nat.le_of_ble_eq_true rfl
      rw [w0_flat]
      conv => whnf
      exact ⟨True.intro, k⟩
  · rw [decide_eq_false (show ¬ (h : Int) = 0 by omega)]
    unfold wrh at k
    rw [if_neg h0] at k
    conv => whnf
    refine ⟨by kernel_rfl, ?_⟩
    conv => whnf
    refine ⟨by omega, True.intro, ?_⟩
    refine compP_st (f := sgF w1) True.intro (t.map fun c => SV.str [c]) [] ?_ ?_ ?_
    · intro v hv acc K hacc k
      obtain ⟨c, hc, rfl⟩ := List.mem_map.mp hv
      have hacc : acc.length + 1 ≤ 100000 := hacc
      conv => whnf
      refine ⟨c, rfl, ?_⟩
      by_cases h : c = 34 ∨ c = 92
      · rw [decide_eq_true (show c ∈ (Str.ofString "\"\\").cps.toList by rcases h with rfl | rfl; exact .head _; exact .tail _ (.head _))]
        conv => whnf
        refine ⟨Nat.le_of_ble_eq_true rfl, ?_⟩
        rw [show sgF w1 (.str [c]) = [.str [92, c]] by show [SV.str (w1 c)] = _; unfold w1; rw [if_pos h]] at k
        conv => whnf
        exact ⟨by omega, k _⟩
      · rw [decide_eq_false (show ¬ c ∈ (Str.ofString "\"\\").cps.toList from fun e => h (by
          rcases List.mem_cons.mp (show c ∈ [34, 92] from e) with e | e
          · exact .inl e
          · exact .inr (List.mem_singleton.mp e)))]
        rw [show sgF w1 (.str [c]) = [.str [c]] by show [SV.str (w1 c)] = _; unfold w1; rw [if_neg h]] at k
        conv => whnf
        exact ⟨by omega, k _⟩
    · rw [sg_flat, List.length_map, List.length_map]; show 0 + _ ≤ _; omega
    · rw [sg_flat]
      conv => whnf
      refine ⟨_, TrimC.stay, ?_⟩
      conv => whnf
      refine ⟨rfl, _, List.nil_append _, by rw [List.length_map]; omega, ?_, ?_⟩
      · intro w hw
        obtain ⟨c, hc, rfl⟩ := List.mem_map.mp hw
        unfold w1
        split <;> exact Nat.le_of_ble_eq_true rfl
      rw [w1_flat]
      conv => whnf
      exact ⟨True.intro, k⟩
end Mine
end
section
open PySem PySem.W PyProof.Rows PySem.Calls
namespace Mine
noncomputable def d2i (n : Int) : List Int → Int
  | [] => 0
  | x :: r => x + 2 ^ n.toNat * d2i n r
set_option tactic.hygienic false in
theorem d2i_append (n : Int) : ∀ a b : List Int, d2i n (a ++ b) = d2i n a + 2 ^ (n.toNat * a.length) * d2i n b
  | [], b => by simp [d2i]
  | x :: r, b => by
    simp only [List.cons_append, d2i, d2i_append n r b, List.length_cons, Nat.mul_add, Nat.mul_one, Int.mul_add, Int.add_assoc]
    congr 2
    rw [← Int.mul_assoc, ← Int.pow_add, Nat.add_comm]
theorem d2i_bound (n : Int) (B : Nat) : ∀ l : List Int, (∀ x ∈ l, 0 ≤ x ∧ x < 2 ^ B) → 0 ≤ d2i n l ∧ d2i n l < 2 ^ (B + (n.toNat + 1) * l.length)
  | [], _ => ⟨by simp [d2i], by simp only [d2i]; exact Int.pow_pos (by decide)⟩
  | x :: r, h => by
    obtain ⟨h1, h2⟩ := h x (.head _)
    obtain ⟨i1, i2⟩ := d2i_bound n B r fun y hy => h y (.tail _ hy)
    have hp : (0 : Int) < 2 ^ n.toNat := Int.pow_pos (by decide)
    have hp1 : (1 : Int) ≤ 2 ^ n.toNat := hp
    refine ⟨Int.add_nonneg h1 (Int.mul_nonneg (Int.le_of_lt hp) i1), ?_⟩
    simp only [d2i, List.length_cons, Nat.mul_add, Nat.mul_one]
    have e : (2 : Int) ^ (B + ((n.toNat + 1) * r.length + (n.toNat + 1))) = 2 * (2 ^ n.toNat * 2 ^ (B + (n.toNat + 1) * r.length)) := by
      rw [← Int.pow_add, show B + ((n.toNat + 1) * r.length + (n.toNat + 1)) = (n.toNat + (B + (n.toNat + 1) * r.length)) + 1 by omega, Int.pow_succ, Int.mul_comm]
    rw [e]
    have hB : (2 : Int) ^ B ≤ 2 ^ (B + (n.toNat + 1) * r.length) := by
      have : (2 : Nat) ^ B ≤ 2 ^ (B + (n.toNat + 1) * r.length) := Nat.pow_le_pow_right (by decide) (Nat.le_add_right _ _)
      exact_mod_cast this
    have m1 : (2 : Int) ^ (B + (n.toNat + 1) * r.length) ≤ 2 ^ n.toNat * 2 ^ (B + (n.toNat + 1) * r.length) := by
      have := Int.mul_le_mul_of_nonneg_right hp1 (Int.le_of_lt (Int.lt_of_le_of_lt i1 i2))
      simpa using this
    have m2 : 2 ^ n.toNat * d2i n r < 2 ^ n.toNat * 2 ^ (B + (n.toNat + 1) * r.length) := Int.mul_lt_mul_of_pos_left i2 hp
    omega
noncomputable def d2iSum (n : Int) (ns : List Int) (lo hi : Int) : Int := d2i n ((ns.drop lo.toNat).take (hi - lo).toNat)
set_option tactic.hygienic false in
theorem d2iSum_one {n : Int} {ns : List Int} {lo hi : Int} (h0 : 0 ≤ lo) (h1 : lo + 1 = hi) (h2 : hi ≤ ns.length) : d2iSum n ns lo hi = ns.getD lo.toNat 0 := by
  subst h1
  unfold d2iSum
  have hl : lo.toNat < ns.length := by omega
  rw [show (lo + 1 - lo).toNat = 1 by omega, List.drop_eq_getElem_cons hl, List.take_succ_cons, List.take_zero]
  simp only [d2i, Int.mul_zero, Int.add_zero]
  rw [List.getD_eq_getElem?_getD, List.getElem?_eq_getElem hl]
  rfl
set_option tactic.hygienic false in
theorem d2iSum_all {n : Int} {ns : List Int} : d2iSum n ns 0 ns.length = d2i n ns := by
  unfold d2iSum
  simp
set_option tactic.hygienic false in
theorem mid2 (x : Int) : Int.fdiv x (2 ^ Int.toNat 1) = x / 2 := by
  show Int.fdiv x 2 = x / 2
  rw [Int.fdiv_eq_ediv_of_nonneg _ (by decide)]
set_option tactic.hygienic false in
theorem sub3 {lo mid hi : Int} (h1 : lo ≤ mid) (h2 : mid ≤ hi) : (hi - lo).toNat = (mid - lo).toNat + (hi - mid).toNat := by
  rw [← Int.toNat_add (Int.sub_nonneg_of_le h1) (Int.sub_nonneg_of_le h2)]
  congr 1
  omega
set_option tactic.hygienic false in
theorem add2 {lo mid : Int} (h0 : 0 ≤ lo) (h1 : lo ≤ mid) : lo.toNat + (mid - lo).toNat = mid.toNat := by
  rw [← Int.toNat_add h0 (Int.sub_nonneg_of_le h1)]
  congr 1
  omega
set_option tactic.hygienic false in
theorem d2iSum_split {n : Int} {ns : List Int} {lo mid hi : Int} (h0 : 0 ≤ lo) (h1 : lo ≤ mid) (h2 : mid ≤ hi) (h3 : hi ≤ ns.length) (hn : 0 ≤ n) :
    d2iSum n ns mid hi * 2 ^ ((mid - lo) * n).toNat + d2iSum n ns lo mid = d2iSum n ns lo hi := by
  unfold d2iSum
  have e : (ns.drop lo.toNat).take (hi - lo).toNat = (ns.drop lo.toNat).take (mid - lo).toNat ++ (ns.drop mid.toNat).take (hi - mid).toNat := by
    rw [sub3 h1 h2, List.take_add, List.drop_drop, add2 h0 h1]
  rw [e, d2i_append, List.length_take, List.length_drop]
  have e2 : ((mid - lo) * n).toNat = n.toNat * min (mid - lo).toNat (ns.length - lo.toNat) := by
    rw [Nat.min_eq_left (by omega), Int.mul_comm, Int.toNat_mul hn (by omega)]
  rw [e2, Int.add_comm, Int.mul_comm]
set_option tactic.hygienic false in
theorem d2iSum_step {n : Int} {ns : List Int} {lo hi : Int} (h0 : 0 ≤ lo) (h1 : lo < hi) (h3 : hi ≤ ns.length) (hn : 0 ≤ n) :
    d2iSum n ns ((lo + hi).fdiv (2 ^ Int.toNat 1)) hi * 2 ^ (((lo + hi).fdiv (2 ^ Int.toNat 1) - lo) * n).toNat + d2iSum n ns lo ((lo + hi).fdiv (2 ^ Int.toNat 1)) = d2iSum n ns lo hi := by
  simp only [mid2]
  exact d2iSum_split h0 (by omega) (by omega) h3 hn
set_option tactic.hygienic false in
theorem d2i_shift_nn {n lo hi : Int} (hn : 0 ≤ n) (h1 : lo < hi) : 0 ≤ ((lo + hi).fdiv (2 ^ Int.toNat 1) - lo) * n := by
  simp only [mid2]
  exact Int.mul_nonneg (by omega) hn
theorem d2iSum_bits {n : Int} {ns : List Int} {lo hi : Int} (hb : ∀ x ∈ ns, 0 ≤ x ∧ x < 2 ^ 4000) (hlen : ns.length ≤ 100) (hn0 : 0 ≤ n) (hn1 : n ≤ 4000) :
    Builtin.Int.intBits (d2iSum n ns lo hi) ≤ 500000 := by
  have hm : ∀ x ∈ (ns.drop lo.toNat).take (hi - lo).toNat, 0 ≤ x ∧ x < 2 ^ 4000 := fun x hx => hb x (List.mem_of_mem_drop (List.mem_of_mem_take hx))
  obtain ⟨b1, b2⟩ := d2i_bound n 4000 _ hm
  have hl : ((ns.drop lo.toNat).take (hi - lo).toNat).length ≤ 100 := by rw [List.length_take, List.length_drop]; exact Nat.le_trans (Nat.min_le_right _ _) (Nat.le_trans (Nat.sub_le _ _) hlen)
  unfold d2iSum
  generalize (ns.drop lo.toNat).take (hi - lo).toNat = l at *
  refine intBits_le ?_
  have hk : 4000 + (n.toNat + 1) * l.length ≤ 500000 := by
    have : (n.toNat + 1) * l.length ≤ 4001 * 100 := Nat.mul_le_mul (by omega) hl
    omega
  have h3 : (2 : Nat) ^ (4000 + (n.toNat + 1) * l.length) ≤ 2 ^ 500000 := Nat.pow_le_pow_right (by decide) hk
  have h4 : (d2i n l).natAbs < 2 ^ (4000 + (n.toNat + 1) * l.length) := by
    have : ((d2i n l).natAbs : Int) < ((2 ^ (4000 + (n.toNat + 1) * l.length) : Nat) : Int) := by
      rw [Int.natAbs_of_nonneg b1]; exact_mod_cast b2
    exact_mod_cast this
  exact Nat.lt_of_lt_of_le h4 h3
set_option tactic.hygienic false in
theorem d2i_shift_sz {n : Int} {ns : List Int} {lo hi : Int} (hb : ∀ x ∈ ns, 0 ≤ x ∧ x < 2 ^ 4000) (hlen : ns.length ≤ 100) (hn0 : 0 ≤ n) (hn1 : n ≤ 4000) (h0 : 0 ≤ lo) (h1 : lo < hi) (h2 : hi ≤ ns.length) :
    (Builtin.Int.intBits (d2iSum n ns ((lo + hi).fdiv (2 ^ Int.toNat 1)) hi) : Int) + ((lo + hi).fdiv (2 ^ Int.toNat 1) - lo) * n ≤ 2 ^ 27 := by
  have hb' := d2iSum_bits (lo := (lo + hi).fdiv (2 ^ Int.toNat 1)) (hi := hi) hb hlen hn0 hn1
  have hm : ((lo + hi).fdiv (2 ^ Int.toNat 1) - lo) * n ≤ 100 * 4000 := by
    simp only [mid2]
    exact Int.mul_le_mul (by omega) hn1 hn0 (by decide)
  have : (2 : Int) ^ 27 = 134217728 := by decide
  omega
noncomputable def digN (n x : Nat) : Nat → List Nat
  | 0 => []
  | 1 => [x]
  | k + 2 => x % 2 ^ n :: digN n (x / 2 ^ n) (k + 1)
set_option tactic.hygienic false in
theorem digN_length (n : Nat) : ∀ (k x : Nat), (digN n x k).length = k
  | 0, _ => rfl
  | 1, _ => rfl
  | k + 2, x => by simp only [digN, List.length_cons, digN_length n (k + 1)]
set_option tactic.hygienic false in
theorem digN_split (n : Nat) : ∀ (i j x : Nat), digN n x (i + 1 + (j + 1)) = digN n (x % 2 ^ (n * (i + 1))) (i + 1) ++ digN n (x / 2 ^ (n * (i + 1))) (j + 1)
  | 0, j, x => by
    rw [show 0 + 1 + (j + 1) = j + 2 by omega]
    simp only [digN, Nat.zero_add, Nat.mul_one, List.cons_append, List.nil_append]
  | i + 1, j, x => by
    rw [show i + 1 + 1 + (j + 1) = (i + 1 + j) + 2 by omega]
    have e : i + 1 + j + 1 = i + 1 + (j + 1) := by omega
    simp only [digN, List.cons_append]
    rw [e, digN_split n i j (x / 2 ^ n)]
    have h1 : x % 2 ^ (n * (i + 1 + 1)) % 2 ^ n = x % 2 ^ n := Nat.mod_mod_of_dvd _ (Nat.pow_dvd_pow 2 (by rw [Nat.mul_succ]; omega))
    have h2 : x % 2 ^ (n * (i + 1 + 1)) / 2 ^ n = x / 2 ^ n % 2 ^ (n * (i + 1)) := by
      rw [show n * (i + 1 + 1) = n + n * (i + 1) by rw [Nat.mul_succ n (i + 1), Nat.add_comm], Nat.pow_add]
      exact Nat.mod_mul_right_div_self ..
    have h3 : x / 2 ^ n / 2 ^ (n * (i + 1)) = x / 2 ^ (n * (i + 1 + 1)) := by
      rw [Nat.div_div_eq_div_mul, ← Nat.pow_add, show n + n * (i + 1) = n * (i + 1 + 1) by rw [Nat.mul_succ n (i + 1), Nat.add_comm]]
    rw [h1, h2, h3]
noncomputable def dig (n x : Int) (k : Nat) : List Int := (digN n.toNat x.toNat k).map Int.ofNat
set_option tactic.hygienic false in
theorem dig_length (n x : Int) (k : Nat) : (dig n x k).length = k := by simp [dig, digN_length]
noncomputable def segOf (ns : List Int) (lo hi : Int) (ws : List Int) : List Int := ns.take lo.toNat ++ (ws ++ ns.drop hi.toNat)
set_option tactic.hygienic false in
theorem segOf_length {ns : List Int} {lo hi : Int} {ws : List Int} (h0 : 0 ≤ lo) (h1 : lo < hi) (h2 : hi ≤ ns.length) (hw : ws.length = (hi - lo).toNat) : (segOf ns lo hi ws).length = ns.length := by
  have e1 : hi.toNat ≤ ns.length := Int.toNat_le.mpr h2
  have e2 := add2 h0 (Int.le_of_lt h1)
  simp only [segOf, List.length_append, List.length_take, List.length_drop, hw]
  generalize lo.toNat = a at *
  generalize hi.toNat = b at *
  generalize (hi - lo).toNat = c at *
  generalize ns.length = d at *
  clear h0 h1 h2 hw
  subst e2
  rw [Nat.min_eq_left (Nat.le_trans (Nat.le_add_right _ _) e1), ← Nat.add_assoc, Nat.add_sub_cancel' e1]
set_option tactic.hygienic false in
theorem segOf_one {n x lo hi : Int} {ns : List Int} (hx : 0 ≤ x) (h0 : 0 ≤ lo) (h1 : lo + 1 = hi) (h2 : hi ≤ ns.length) : segOf ns lo hi (dig n x (hi - lo).toNat) = ns.set lo.toNat x := by
  subst h1
  have hl : lo.toNat < ns.length := by omega
  rw [List.set_eq_take_append_cons_drop, if_pos hl]
  simp only [segOf, show (lo + 1 - lo).toNat = 1 by omega, dig, digN, List.map_cons, List.map_nil, show (lo + 1).toNat = lo.toNat + 1 by omega]
  rw [show Int.ofNat x.toNat = x from Int.toNat_of_nonneg hx]
  rfl
set_option tactic.hygienic false in
theorem segOf_two {ns a b : List Int} {lo mid hi : Int} (h0 : 0 ≤ lo) (h1 : lo < mid) (h2 : mid < hi) (h3 : hi ≤ ns.length) (ha : a.length = (mid - lo).toNat) :
    segOf (segOf ns lo mid a) mid hi b = segOf ns lo hi (a ++ b) := by
  unfold segOf
  have hm := add2 h0 (Int.le_of_lt h1)
  have g2 : mid.toNat ≤ hi.toNat := Int.toNat_le_toNat (Int.le_of_lt h2)
  have g3 : hi.toNat ≤ ns.length := Int.toNat_le.mpr h3
  rw [← ha] at hm
  generalize lo.toNat = l at *
  generalize mid.toNat = m at *
  generalize hi.toNat = h at *
  clear h0 h1 h2 h3 ha
  have hl : (ns.take l ++ a).length = m := by rw [List.length_append, List.length_take, Nat.min_eq_left (Nat.le_trans (Nat.le_trans (hm ▸ Nat.le_add_right _ _) g2) g3), hm]
  have e1 : (ns.take l ++ (a ++ ns.drop m)).take m = ns.take l ++ a := by
    rw [← List.append_assoc, List.take_append_of_le_length (Nat.le_of_eq hl.symm), List.take_of_length_le (Nat.le_of_eq hl)]
  have e2 : (ns.take l ++ (a ++ ns.drop m)).drop h = ns.drop h := by
    rw [← List.append_assoc, List.drop_append, List.drop_eq_nil_of_le (by rw [hl]; exact g2), List.nil_append, hl, List.drop_drop, Nat.add_sub_cancel' g2]
  rw [e1, e2]
  simp only [List.append_assoc]
set_option tactic.hygienic false in
theorem and_high (x s : Nat) : x &&& (x / 2 ^ s * 2 ^ s) = x / 2 ^ s * 2 ^ s := by
  rw [← Nat.shiftRight_eq_div_pow, ← Nat.shiftLeft_eq]
  apply Nat.eq_of_testBit_eq
  intro i
  rw [Nat.testBit_and, Nat.testBit_shiftLeft, Nat.testBit_shiftRight]
  by_cases h : i ≥ s
  · simp [h]
  · simp [h]
theorem xor_low {x s : Int} (hx : 0 ≤ x) : Builtin.bitXor x (x.fdiv (2 ^ s.toNat) * 2 ^ s.toNat) = x % 2 ^ s.toNat := by
  have hp : (0 : Int) < 2 ^ s.toNat := Int.pow_pos (by decide)
  rw [bitXor_and, Int.fdiv_eq_ediv_of_nonneg _ (Int.le_of_lt hp)]
  have hy : 0 ≤ x / 2 ^ s.toNat * 2 ^ s.toNat := Int.mul_nonneg (Int.ediv_nonneg hx (Int.le_of_lt hp)) (Int.le_of_lt hp)
  have ha : Builtin.bitAnd x (x / 2 ^ s.toNat * 2 ^ s.toNat) = x / 2 ^ s.toNat * 2 ^ s.toNat := by
    unfold Builtin.bitAnd
    rw [decide_eq_true hx, decide_eq_true hy]
    show ((x.toNat &&& (x / 2 ^ s.toNat * 2 ^ s.toNat).toNat : Nat) : Int) = _
    have e : (x / 2 ^ s.toNat * 2 ^ s.toNat).toNat = x.toNat / 2 ^ s.toNat * 2 ^ s.toNat := by
      obtain ⟨y, rfl⟩ := Int.eq_ofNat_of_zero_le hx
      have : ((y : Int) / 2 ^ s.toNat * 2 ^ s.toNat) = ((y / 2 ^ s.toNat * 2 ^ s.toNat : Nat) : Int) := by push_cast; rfl
      rw [this]; rfl
    rw [e, and_high, ← e, Int.toNat_of_nonneg hy]
  rw [ha]
  have := Int.mul_ediv_add_emod x (2 ^ s.toNat)
  have h2 := Int.mul_comm (2 ^ s.toNat) (x / 2 ^ s.toNat)
  omega
theorem dig_split {n x lo mid hi : Int} (hn : 0 ≤ n) (hx : 0 ≤ x) (h1 : lo < mid) (h2 : mid < hi) :
    dig n (x % 2 ^ ((mid - lo) * n).toNat) (mid - lo).toNat ++ dig n (x.fdiv (2 ^ ((mid - lo) * n).toNat)) (hi - mid).toNat = dig n x (hi - lo).toNat := by
  obtain ⟨i, hi'⟩ : ∃ i, (mid - lo).toNat = i + 1 := ⟨(mid - lo).toNat - 1, by omega⟩
  obtain ⟨j, hj'⟩ : ∃ j, (hi - mid).toNat = j + 1 := ⟨(hi - mid).toNat - 1, by omega⟩
  have hk : (hi - lo).toNat = i + 1 + (j + 1) := by omega
  have hs : ((mid - lo) * n).toNat = n.toNat * (i + 1) := by rw [← hi', Int.mul_comm, Int.toNat_mul hn (by omega)]
  have hp : (0 : Int) < 2 ^ (n.toNat * (i + 1)) := Int.pow_pos (by decide)
  rw [hs, hi', hj', hk, Int.fdiv_eq_ediv_of_nonneg _ (Int.le_of_lt hp)]
  unfold dig
  rw [digN_split, List.map_append]
  obtain ⟨y, rfl⟩ := Int.eq_ofNat_of_zero_le hx
  have e1 : ((y : Int) % 2 ^ (n.toNat * (i + 1))).toNat = y % 2 ^ (n.toNat * (i + 1)) := by
    have : ((y : Int) % 2 ^ (n.toNat * (i + 1))) = ((y % 2 ^ (n.toNat * (i + 1)) : Nat) : Int) := by push_cast; rfl
    rw [this]; rfl
  have e2 : ((y : Int) / 2 ^ (n.toNat * (i + 1))).toNat = y / 2 ^ (n.toNat * (i + 1)) := by
    have : ((y : Int) / 2 ^ (n.toNat * (i + 1))) = ((y / 2 ^ (n.toNat * (i + 1)) : Nat) : Int) := by push_cast; rfl
    rw [this]; rfl
  rw [e1, e2]; rfl
set_option tactic.hygienic false in
theorem fdiv_bits {x : Int} {s : Nat} {b : Nat} (hx : 0 ≤ x) (hb : Builtin.Int.intBits x ≤ b) : Builtin.Int.intBits (x.fdiv (2 ^ s)) ≤ b := by
  have hp : (0 : Int) < 2 ^ s := Int.pow_pos (by decide)
  rw [Int.fdiv_eq_ediv_of_nonneg _ (Int.le_of_lt hp)]
  refine intBits_le_of_natAbs ?_ hb
  have h1 := Int.ediv_nonneg hx (Int.le_of_lt hp)
  have h2 : x / 2 ^ s ≤ x := Int.ediv_le_self _ hx
  omega
set_option tactic.hygienic false in
theorem mod_bits {x : Int} {s : Nat} {b : Nat} (hx : 0 ≤ x) (hb : Builtin.Int.intBits x ≤ b) : Builtin.Int.intBits (x % 2 ^ s) ≤ b := by
  have hp : (0 : Int) < 2 ^ s := Int.pow_pos (by decide)
  refine intBits_le_of_natAbs ?_ hb
  have h1 := Int.emod_nonneg x (Int.ne_of_gt hp)
  have h2 : x % 2 ^ s ≤ x := by
    have := Int.mul_ediv_add_emod x (2 ^ s)
    have := Int.mul_nonneg (Int.le_of_lt hp) (Int.ediv_nonneg hx (Int.le_of_lt hp))
    omega
  omega
set_option tactic.hygienic false in
theorem i2d_shift_sz {n x lo hi : Int} (hx : 0 ≤ x) (hb : Builtin.Int.intBits x ≤ 500000) (hn0 : 0 ≤ n) (hn1 : n ≤ 4000) (h0 : 0 ≤ lo) (h1 : lo < hi) (h2 : hi ≤ 100) :
    (Builtin.Int.intBits (x.fdiv (2 ^ (((lo + hi).fdiv (2 ^ Int.toNat 1) - lo) * n).toNat)) : Int) + ((lo + hi).fdiv (2 ^ Int.toNat 1) - lo) * n ≤ 2 ^ 27 := by
  have hb' := fdiv_bits (s := (((lo + hi).fdiv (2 ^ Int.toNat 1) - lo) * n).toNat) hx hb
  have hm : ((lo + hi).fdiv (2 ^ Int.toNat 1) - lo) * n ≤ 100 * 4000 := by
    simp only [mid2]
    exact Int.mul_le_mul (by omega) hn1 hn0 (by decide)
  have : (2 : Int) ^ 27 = 134217728 := by decide
  omega
set_option tactic.hygienic false in
theorem fdiv_nn {x : Int} {s : Nat} (hx : 0 ≤ x) : 0 ≤ x.fdiv (2 ^ s) := by
  have hp : (0 : Int) < 2 ^ s := Int.pow_pos (by decide)
  rw [Int.fdiv_eq_ediv_of_nonneg _ (Int.le_of_lt hp)]
  exact Int.ediv_nonneg hx (Int.le_of_lt hp)
set_option tactic.hygienic false in
theorem mod_nn {x : Int} {s : Nat} : 0 ≤ x % 2 ^ s := Int.emod_nonneg x (Int.ne_of_gt (Int.pow_pos (by decide)))
set_option tactic.hygienic false in
theorem i2d_step {n x lo hi : Int} {ns : List Int} (hn : 0 ≤ n) (hx : 0 ≤ x) (h0 : 0 ≤ lo) (h1 : lo < hi) (h2 : lo + 1 ≠ hi) (h3 : hi ≤ ns.length) :
    segOf (segOf ns lo ((lo + hi).fdiv (2 ^ Int.toNat 1)) (dig n (x % 2 ^ (((lo + hi).fdiv (2 ^ Int.toNat 1) - lo) * n).toNat) ((lo + hi).fdiv (2 ^ Int.toNat 1) - lo).toNat)) ((lo + hi).fdiv (2 ^ Int.toNat 1)) hi
      (dig n (x.fdiv (2 ^ (((lo + hi).fdiv (2 ^ Int.toNat 1) - lo) * n).toNat)) (hi - (lo + hi).fdiv (2 ^ Int.toNat 1)).toNat) = segOf ns lo hi (dig n x (hi - lo).toNat) := by
  simp only [mid2]
  rw [segOf_two h0 (by omega) (by omega) h3 (dig_length ..), dig_split hn hx (by omega) (by omega)]
set_option tactic.hygienic false in
theorem segOf_all {ns ws : List Int} : segOf ns 0 ns.length ws = ws := by
  unfold segOf
  simp
noncomputable def figs (n x : Int) : Int := ((Builtin.Int.intBits x : Int) + n - 1).fdiv n
noncomputable def i2d (n x : Int) : List Int := dig n x (figs n x).toNat
set_option tactic.hygienic false in
theorem figs_pos {n x : Int} (hn : 1 ≤ n) (hx : x ≠ 0) : 1 ≤ ((Builtin.Int.intBits x : Int) + n - 1).fdiv n := by
  have h : 1 ≤ Builtin.Int.intBits x := by
    unfold Builtin.Int.intBits
    rw [if_neg (by simpa using hx)]
    omega
  rw [Int.fdiv_eq_ediv_of_nonneg _ (by omega)]
  exact (Int.le_ediv_iff_mul_le (by omega)).mpr (by omega)
set_option tactic.hygienic false in
theorem bits_pos {b : Int} (h : b ≠ 0) : 1 ≤ Builtin.Int.intBits b := by
  unfold Builtin.Int.intBits
  rw [if_neg (by simpa using h)]
  omega
set_option tactic.hygienic false in
theorem figs_zero {n : Int} (hn : 1 ≤ n) : figs n 0 = 0 := by
  unfold figs
  show ((0 : Int) + n - 1).fdiv n = 0
  rw [Int.fdiv_eq_ediv_of_nonneg _ (by omega)]
  exact Int.ediv_eq_zero_of_lt (by omega) (by omega)
set_option tactic.hygienic false in
theorem i2d_zero {n : Int} (hn : 1 ≤ n) : i2d n 0 = [] := by
  unfold i2d
  rw [figs_zero hn]
  rfl
noncomputable def d2iN (n : Nat) : List Nat → Nat
  | [] => 0
  | x :: r => x + 2 ^ n * d2iN n r
set_option tactic.hygienic false in
theorem d2iN_int (n : Int) : ∀ l : List Nat, d2i n (l.map Int.ofNat) = (d2iN n.toNat l : Int)
  | [] => rfl
  | x :: r => by
    simp only [List.map_cons, d2i, d2iN, d2iN_int n r]
    push_cast
    rfl
set_option tactic.hygienic false in
theorem digN_val (n : Nat) : ∀ (k x : Nat), 1 ≤ k → d2iN n (digN n x k) = x
  | 0, _, h => absurd h (by decide)
  | 1, x, _ => by simp [digN, d2iN]
  | k + 2, x, _ => by
    simp only [digN, d2iN, digN_val n (k + 1) (x / 2 ^ n) (by omega)]
    exact Nat.mod_add_div x (2 ^ n)
set_option tactic.hygienic false in
theorem digN_lt (n : Nat) : ∀ (k x : Nat), x < 2 ^ (n * k) → ∀ d ∈ digN n x k, d < 2 ^ n
  | 0, _, _, _, h => by simp [digN] at h
  | 1, x, hx, d, h => by
    simp only [digN, List.mem_singleton] at h
    rw [h]; simpa using hx
  | k + 2, x, hx, d, h => by
    simp only [digN, List.mem_cons] at h
    rcases h with rfl | h
    · exact Nat.mod_lt _ (Nat.pow_pos (by decide))
    · refine digN_lt n (k + 1) (x / 2 ^ n) ?_ d h
      rw [Nat.div_lt_iff_lt_mul (Nat.pow_pos (by decide)), ← Nat.pow_add]
      rw [show n * (k + 1) + n = n * (k + 2) by rw [Nat.mul_succ n (k + 1)]]
      exact hx
set_option tactic.hygienic false in
theorem lt_of_bits {x : Int} (hx : 0 ≤ x) : x.toNat < 2 ^ Builtin.Int.intBits x := by
  have := intBits_le_iff.mp (Nat.le_refl (Builtin.Int.intBits x))
  omega
set_option tactic.hygienic false in
theorem figs_nn {n x : Int} (hn : 1 ≤ n) : 0 ≤ figs n x := by
  by_cases hx : x = 0
  · subst hx; rw [figs_zero hn]; exact Int.le_refl _
  · exact Int.le_trans (by decide) (figs_pos hn hx)
set_option tactic.hygienic false in
theorem figs_enough {n x : Int} (hn : 1 ≤ n) : Builtin.Int.intBits x ≤ n.toNat * (figs n x).toNat := by
  have h0 := figs_nn (x := x) hn
  have h1 : (Builtin.Int.intBits x : Int) ≤ n * figs n x := by
    unfold figs
    rw [Int.fdiv_eq_ediv_of_nonneg _ (by omega)]
    have := Int.mul_ediv_add_emod ((Builtin.Int.intBits x : Int) + n - 1) n
    have := Int.emod_lt_of_pos ((Builtin.Int.intBits x : Int) + n - 1) (show 0 < n by omega)
    omega
  have h2 : ((n.toNat * (figs n x).toNat : Nat) : Int) = n * figs n x := by
    push_cast
    rw [Int.toNat_of_nonneg (by omega), Int.toNat_of_nonneg h0]
  omega
set_option tactic.hygienic false in
theorem i2d_val {n x : Int} (hn : 1 ≤ n) (hx : 0 ≤ x) : d2i n (i2d n x) = x := by
  by_cases h : x = 0
  · subst h; rw [i2d_zero hn]; rfl
  · unfold i2d dig
    have := figs_pos hn h
    rw [d2iN_int, digN_val _ _ _ (by unfold figs; omega)]
    exact Int.toNat_of_nonneg hx
set_option tactic.hygienic false in
theorem i2d_mem {n x : Int} (hn : 1 ≤ n) (hx : 0 ≤ x) : ∀ d ∈ i2d n x, 0 ≤ d ∧ d < 2 ^ n.toNat := by
  intro d hd
  unfold i2d dig at hd
  obtain ⟨e, he, rfl⟩ := List.mem_map.mp hd
  have h1 : x.toNat < 2 ^ (n.toNat * (figs n x).toNat) := Nat.lt_of_lt_of_le (lt_of_bits hx) (Nat.pow_le_pow_right (by decide) (figs_enough hn))
  have h2 := digN_lt _ _ _ h1 e he
  refine ⟨Int.natCast_nonneg e, ?_⟩
  show (e : Int) < 2 ^ n.toNat
  exact_mod_cast h2
set_option tactic.hygienic false in
theorem i2d_length {n x : Int} : (i2d n x).length = (figs n x).toNat := dig_length ..
set_option tactic.hygienic false in
theorem dm_turn {b x Q r d S : Int} (hb : 0 < b) (hq : Q = x.fdiv b) (hr : r = x.fmod b) :
    (r * S + d).fdiv b + S * Q = (d + S * x).fdiv b ∧ (r * S + d).fmod b = (d + S * x).fmod b := by
  subst hq hr
  have h1 := Int.mul_fdiv_add_fmod x b
  have e : d + S * x = (x.fmod b * S + d) + b * (S * x.fdiv b) := by
    have h2 : S * (b * x.fdiv b + x.fmod b) = S * x := by rw [h1]
    rw [Int.mul_add, ← Int.mul_assoc, Int.mul_comm S b, Int.mul_assoc, Int.mul_comm S (x.fmod b)] at h2
    omega
  rw [e]
  constructor
  · rw [Int.add_mul_fdiv_left _ _ (by omega)]
  · rw [Int.add_mul_fmod_self_left]
noncomputable abbrev nb (b : Int) : Int := (Builtin.Int.intBits b : Int)
noncomputable def DmP (b : Int) (ns : List Int) (i : Nat) (r : Int) (qs : List Value) : Prop :=
  ∃ js, IntsAre qs js ∧ js.length = i ∧ (∀ j ∈ js, 0 ≤ j ∧ j < 2 ^ 4000) ∧ 0 ≤ r ∧ r < b ∧ d2i (nb b) js.reverse = (d2i (nb b) (ns.drop (ns.length - i))).fdiv b ∧ r = (d2i (nb b) (ns.drop (ns.length - i))).fmod b
set_option tactic.hygienic false in
theorem lt_pow_bits {b : Int} (hb : 0 < b) : b < 2 ^ (nb b).toNat := by
  have h := lt_of_bits (Int.le_of_lt hb)
  have h2 : ((b.toNat : Nat) : Int) < ((2 ^ Builtin.Int.intBits b : Nat) : Int) := by exact_mod_cast h
  rw [Int.toNat_of_nonneg (Int.le_of_lt hb)] at h2
  push_cast at h2
  exact h2
set_option tactic.hygienic false in
theorem DmP.bound {b r d : Int} (hb : 0 < b) (h0 : 0 ≤ r) (h1 : r < b) (d0 : 0 ≤ d) (d1 : d < 2 ^ (nb b).toNat) :
    0 ≤ r * 2 ^ (nb b).toNat + d ∧ r * 2 ^ (nb b).toNat + d < b * 2 ^ (nb b).toNat := by
  have hp : (0 : Int) < 2 ^ (nb b).toNat := Int.pow_pos (by decide)
  have h2 := Int.mul_nonneg h0 (Int.le_of_lt hp)
  have h3 : (r + 1) * 2 ^ (nb b).toNat ≤ b * 2 ^ (nb b).toNat := Int.mul_le_mul_of_nonneg_right h1 (Int.le_of_lt hp)
  rw [Int.add_mul, Int.one_mul] at h3
  omega
theorem DmP.bits {b r d : Int} (hb : 0 < b) (hbb : Builtin.Int.intBits b ≤ 4000) (h0 : 0 ≤ r) (h1 : r < b) (d0 : 0 ≤ d) (d1 : d < 2 ^ (nb b).toNat) :
    (Builtin.Int.intBits (r * 2 ^ (nb b).toNat + d) : Int) - nb b ≤ 4000 := by
  obtain ⟨h2, h3⟩ := DmP.bound hb h0 h1 d0 d1
  have h4 : b * 2 ^ (nb b).toNat < 2 ^ ((nb b).toNat + (nb b).toNat) := by
    rw [Int.pow_add]
    exact Int.mul_lt_mul_of_pos_right (lt_pow_bits hb) (Int.pow_pos (by decide))
  have h5 : Builtin.Int.intBits (r * 2 ^ (nb b).toNat + d) ≤ (nb b).toNat + (nb b).toNat := by
    refine intBits_le ?_
    have : ((r * 2 ^ (nb b).toNat + d).natAbs : Int) < ((2 ^ ((nb b).toNat + (nb b).toNat) : Nat) : Int) := by
      rw [Int.natAbs_of_nonneg h2]; push_cast; exact Int.lt_trans h3 h4
    exact_mod_cast this
  have h6 : ((nb b).toNat : Int) = nb b := Int.toNat_of_nonneg (Int.natCast_nonneg _)
  have h7 : nb b ≤ 4000 := by show (Builtin.Int.intBits b : Int) ≤ 4000; omega
  omega
set_option tactic.hygienic false in
theorem DmP.shift {b r : Int} (hbb : Builtin.Int.intBits b ≤ 4000) (h0 : 0 ≤ r) (h1 : r < b) : (Builtin.Int.intBits r : Int) + nb b ≤ 2 ^ 27 := by
  have h2 : Builtin.Int.intBits r ≤ 4000 := intBits_le_of_natAbs (by omega) hbb
  have h7 : nb b ≤ 4000 := by show (Builtin.Int.intBits b : Int) ≤ 4000; omega
  have : (2 : Int) ^ 27 = 134217728 := by decide
  omega
end Mine
end
section
open PySem PySem.W PyProof.Rows PySem.Calls PyProof.V PySem.Spec
namespace Mine
set_option maxRecDepth 100000
set_option maxHeartbeats 8000000
set_option pp.deepTerms false
set_option pp.maxSteps 500
set_option tactic.hygienic false in
theorem log2_of_bits {b : Int} (h : Builtin.Int.intBits b ≤ 4000) : b.natAbs.log2 < 9000 := by
  unfold Builtin.Int.intBits at h
  by_cases hb : b = 0
  · subst hb; decide
  · rw [if_neg (by simpa using hb)] at h
    omega
set_option tactic.hygienic false in
theorem mid_ok {lo hi n : Int} (h0 : 0 ≤ lo) (h1 : lo < hi) (h2 : hi ≤ 100) (hn0 : 0 ≤ n) (hn1 : n ≤ 4000) : IntMulOk ((lo + hi).fdiv (2 ^ Int.toNat 1) - lo) n := by
  rw [mid2]
  refine IntMulOk.of_le (m := 7) (n := 12) (intBits_le_iff.mpr ?_) (intBits_le_iff.mpr ?_) (by decide)
  · show _ < 128; omega
  · show _ < 4096; omega
set_option tactic.hygienic false in
theorem bits_small {n : Int} (h0 : 0 ≤ n) (h1 : n ≤ 4000) : Builtin.Int.intBits n ≤ 4000 := by
  have z : Builtin.Int.intBits n ≤ 12 := intBits_le_iff.mpr (by show _ < 4096; omega)
  omega
set_option tactic.hygienic false in
theorem hd_div2n1n : FnHd 70 [Str.ofString "a", Str.ofString "b", Str.ofString "n"] := ⟨fun w => by kernel_rfl, fun w => by kernel_rfl, by decide +kernel, fun xs hl => by
  obtain ⟨a, b, c, rfl⟩ := len3 hl
  kernel_rfl⟩
noncomputable def div2S : Spec := fun vs led K => ∃ a b n, vs = [.int a, .int b, .int n] ∧ b ≠ 0 ∧ Builtin.Int.intBits b ≤ 4000 ∧ (Builtin.Int.intBits a : Int) - n ≤ 4000 ∧ K (.loc led.length) (led ++ [.tup [.int (a.fdiv b), .int (a.fmod b)]])
set_option tactic.hygienic false in
theorem div2_ok : FnOk 3 111 70 div2S := by
  refine (fnC_Y (n := 30) (fn := noF) (tab := none) hd_div2n1n (Nat.le_refl 0) (Nat.le_refl 100) (fun _ h => nomatch h) fun _ _ h => nomatch h).obj.mono ?_
  rintro vs led K - - ⟨a, b, n, rfl, hb, hbb, hs, k⟩
  refine ⟨by simp [cV], ?_⟩
  conv => whnf
  rw [decide_eq_true hs]
  conv => whnf
  exact ⟨hb, PyProof.noPylong_of_log2 (log2_of_bits hbb), _, _, rfl, rfl, by simp [plO, cV], k⟩
set_option tactic.hygienic false in
theorem hd_d2i : FnHd 91 [Str.ofString "digits", Str.ofString "n"] := ⟨fun w => by kernel_rfl, fun w => by kernel_rfl, by decide +kernel, fun xs hl => by
  obtain ⟨a, b, rfl⟩ := len2 hl
  kernel_rfl⟩
noncomputable def d2iS : Spec := fun vs led K => ∃ k n ns, vs = [.loc k, .int n] ∧ led[k]? = some (.list (List.map SV.int ns)) ∧ ns.length ≤ 100 ∧ (∀ x ∈ ns, 0 ≤ x ∧ x < 2 ^ 4000) ∧ 0 ≤ n ∧ n ≤ 4000 ∧ K (.int (d2i n ns)) led
noncomputable def d2iClo : CloD := cloOf 91 "_digits2int" 0
noncomputable def d2iCells : List (Str × Nat) := [(Str.ofString "n", 2), (Str.ofString "inner", 1), (Str.ofString "digits", 3)]
noncomputable def d2iLed (ns : List Int) (n : Int) (c : Addr) : Led := [.list (ns.map .int), .cell (some (.loc 4)), .cell (some (.int n)), .cell (some (.loc 0)), .clo d2iClo d2iCells c none]
set_option tactic.hygienic false in
theorem d2i_rec {ns : List Int} {n : Int} {c : Addr} (hl : ns.length ≤ 100) (hb : ∀ x ∈ ns, 0 ≤ x ∧ x < 2 ^ 4000) (hn0 : 0 ≤ n) (hn1 : n ≤ 4000) : ∀ (k f r : Nat) (lo hi : Int) (kd : Str → Option NameKind) (cel : List (Str × Nat)) (fn : Addr → Option Spec) (tab : Option TabD) (K : SV → Led → Prop),
    40 * k ≤ f → k ≤ r → 0 ≤ lo → lo < hi → hi ≤ ns.length → (hi - lo).toNat ≤ k → K (.int (d2iSum n ns lo hi)) (d2iLed ns n c) → xClo (run f) ⟨kd, cel, globX, fn, r, tab, none⟩ d2iClo d2iCells [.int lo, .int hi] (d2iLed ns n c) K := by
  intro k
  induction k with
  | zero => intros; omega
  | succ k ih =>
    intro f r lo hi kd cel fn tab K hf hr h0 h1 h2 h3 q
    obtain ⟨f, rfl⟩ : ∃ f', f = f' + 40 := ⟨f - 40, by omega⟩
    obtain ⟨r, rfl⟩ : ∃ r', r = r' + 1 := ⟨r - 1, by omega⟩
    refine xClo.mk ⟨[Str.ofString "L", Str.ofString "R"], ?_, by kernel_rfl, ?_⟩
    · intro fd e1 e2 e3 xs hx
      obtain ⟨a, b, rfl⟩ := len2 hx
      cases fd
      cases e1
      cases e2
      cases e3
      kernel_rfl
    · conv => whnf
      by_cases hone : lo + 1 = hi
      · have hlt : lo.toNat < ns.length := by omega
        rw [decide_eq_true hone]
        conv => whnf
        rw [List.getElem?_map, List.getElem?_eq_getElem hlt, Option.map_some]
        refine ⟨h0, by omega, ?_⟩
        conv => whnf
        rw [d2iSum_one h0 hone h2, List.getD_eq_getElem?_getD, List.getElem?_eq_getElem hlt] at q
        exact q
      · have hm := mid2 (lo + hi)
        rw [decide_eq_false hone]
        conv => whnf
        refine ⟨by decide, ?_⟩
        conv => whnf
        refine ⟨mid_ok h0 h1 (by omega) hn0 hn1, ?_⟩
        conv => whnf
        refine ih _ _ _ _ _ _ _ _ _ ?_ (show k ≤ r by omega) ?_ ?_ h2 ?_ ?_
        · omega
        · rw [hm]; omega
        · rw [hm]; omega
        · rw [hm]; omega
        conv => whnf
        refine ⟨d2i_shift_nn hn0 h1, d2i_shift_sz hb hl hn0 hn1 h0 h1 h2, ?_⟩
        conv => whnf
        refine ih _ _ _ _ _ _ _ _ _ ?_ (show k ≤ r by omega) h0 ?_ ?_ ?_ ?_
        · omega
        · rw [hm]; omega
        · rw [hm]; omega
        · rw [hm]; omega
        conv => whnf
        rw [d2iSum_step h0 h1 h2 hn0]
        exact q
set_option tactic.hygienic false in
theorem d2i_ok : FnOk 153 571 91 d2iS := by
  refine (fnC_Y (n := 5000) (fn := noF) (tab := tables[1]?) hd_d2i (Nat.le_refl 150) (by decide) (fun t h => ?_) fun _ _ h => nomatch h).plain1.mono ?_
  · injection h with h
    subst h
    exact ⟨.tail _ (.head _), by kernel_rfl, by kernel_rfl⟩
  rintro vs led K - - ⟨k, n, ns, rfl, ho, hl, hb, hn0, hn1, hk⟩
  show match led[k]? with | some o => _ | none => False
  rw [ho]
  refine ⟨pl_ints, by simp [cV], ?_⟩
  conv => whnf
  refine ⟨by kernel_rfl, fun env => rfl, fun c => ?_⟩
  cases ns with
  | nil =>
    conv => whnf
    refine ⟨by decide, ?_⟩
    conv => whnf
    exact ⟨True.intro, rfl, hk⟩
  | cons x xs =>
    conv => whnf
    refine ⟨by rw [List.length_map]; omega, ?_⟩
    conv => whnf
    refine ⟨by rw [List.length_map]; omega, ?_⟩
    conv => whnf
    refine d2i_rec hl hb hn0 hn1 100 4995 150 0 (((x :: xs).map SV.int).length) _ _ _ _ _ (by decide) (by decide) (by decide) ?_ ?_ ?_ ?_
    · rw [List.length_map]; simp only [List.length_cons]; omega
    · rw [List.length_map]; exact Int.le_refl _
    · rw [List.length_map]; omega
    · conv => whnf
      rw [List.length_map, d2iSum_all]
      exact ⟨True.intro, rfl, hk⟩
set_option tactic.hygienic false in
theorem rep0 (k : Nat) : (List.replicate k [SV.int 0]).flatten = (List.replicate k (0 : Int)).map SV.int := by
  induction k with
  | zero => rfl
  | succ k ih => rw [List.replicate_succ, List.flatten_cons, ih]; rfl
set_option tactic.hygienic false in
theorem hd_i2d : FnHd 84 [Str.ofString "a", Str.ofString "n"] := ⟨fun w => by kernel_rfl, fun w => by kernel_rfl, by decide +kernel, fun xs hl => by
  obtain ⟨a, b, rfl⟩ := len2 hl
  kernel_rfl⟩
noncomputable def i2dS : Spec := fun vs led K => ∃ x n, vs = [.int x, .int n] ∧ 0 ≤ x ∧ Builtin.Int.intBits x ≤ 500000 ∧ 1 ≤ n ∧ n ≤ 4000 ∧ figs n x ≤ 100 ∧ K (.loc led.length) (led ++ [.list ((i2d n x).map .int)])
noncomputable def i2dClo : CloD := cloOf 84 "_int2digits" 1
noncomputable def i2dCells : List (Str × Nat) := [(Str.ofString "n", 2), (Str.ofString "inner", 0), (Str.ofString "a_digits", 1)]
noncomputable def i2dLed (ns : List Int) (n : Int) (c : Addr) : Led := [.cell (some (.loc 5)), .cell (some (.loc 4)), .cell (some (.int n)), .list [.int 0], .list (ns.map .int), .clo i2dClo i2dCells c none]
set_option tactic.hygienic false in
theorem i2d_rec {n : Int} {c : Addr} (hn0 : 1 ≤ n) (hn1 : n ≤ 4000) : ∀ (k f r : Nat) (x lo hi : Int) (ns : List Int) (kd : Str → Option NameKind) (cel : List (Str × Nat)) (fn : Addr → Option Spec) (tab : Option TabD) (K : SV → Led → Prop),
    40 * k ≤ f → k ≤ r → 0 ≤ x → Builtin.Int.intBits x ≤ 500000 → 0 ≤ lo → lo < hi → hi ≤ ns.length → ns.length ≤ 100 → (hi - lo).toNat ≤ k → K .none (i2dLed (segOf ns lo hi (dig n x (hi - lo).toNat)) n c) →
    xClo (run f) ⟨kd, cel, globX, fn, r, tab, none⟩ i2dClo i2dCells [.int x, .int lo, .int hi] (i2dLed ns n c) K := by
  intro k
  induction k with
  | zero => intros; omega
  | succ k ih =>
    intro f r x lo hi ns kd cel fn tab K hf hr hx hxb h0 h1 h2 hl h3 q
    obtain ⟨f, rfl⟩ : ∃ f', f = f' + 40 := ⟨f - 40, by omega⟩
    obtain ⟨r, rfl⟩ : ∃ r', r = r' + 1 := ⟨r - 1, by omega⟩
    refine xClo.mk ⟨[Str.ofString "x", Str.ofString "L", Str.ofString "R"], ?_, by kernel_rfl, ?_⟩
    · intro fd e1 e2 e3 xs hx
      obtain ⟨a, b, c, rfl⟩ := len3 hx
      cases fd
      cases e1
      cases e2
      cases e3
      kernel_rfl
    · conv => whnf
      by_cases hone : lo + 1 = hi
      · have hlt : lo.toNat < ns.length := by omega
        rw [decide_eq_true hone]
        conv => whnf
        refine ⟨h0, by rw [List.length_map]; omega, by rw [List.length_map]; omega, ?_⟩
        rw [← List.map_set]
        conv => whnf
        rw [segOf_one hx h0 hone h2] at q
        exact q
      · have hm := mid2 (lo + hi)
        rw [decide_eq_false hone]
        conv => whnf
        refine ⟨by decide, ?_⟩
        conv => whnf
        refine ⟨mid_ok h0 h1 (by omega) (by omega) hn1, ?_⟩
        conv => whnf
        refine ⟨d2i_shift_nn (by omega) h1, ?_⟩
        conv => whnf
        refine ⟨d2i_shift_nn (by omega) h1, i2d_shift_sz hx hxb (by omega) hn1 h0 h1 (by omega), ?_⟩
        conv => whnf
        have l1 : lo < (lo + hi).fdiv (2 ^ Int.toNat 1) := by rw [hm]; omega
        have l2 : (lo + hi).fdiv (2 ^ Int.toNat 1) < hi := by rw [hm]; omega
        rw [xor_low hx]
        refine ih _ _ _ _ _ _ _ _ _ _ _ ?_ (show k ≤ r by omega) mod_nn (mod_bits hx hxb) h0 l1 ?_ hl ?_ ?_
        · omega
        · omega
        · omega
        conv => whnf
        have hsl := segOf_length (ns := ns) (ws := dig n (x % 2 ^ (((lo + hi).fdiv (2 ^ Int.toNat 1) - lo) * n).toNat) ((lo + hi).fdiv (2 ^ Int.toNat 1) - lo).toNat) h0 l1 (by omega) (dig_length ..)
        refine ih _ _ _ _ _ _ _ _ _ _ _ ?_ (show k ≤ r by omega) (fdiv_nn hx) (fdiv_bits hx hxb) ?_ l2 ?_ ?_ ?_ ?_
        · omega
        · omega
        · omega
        · omega
        · omega
        conv => whnf
        rw [i2d_step (by omega) hx h0 h1 hone h2]
        exact q
set_option tactic.hygienic false in
theorem i2d_ok : FnOk 153 571 84 i2dS := by
  refine (fnC_Y (n := 5000) (fn := noF) (tab := tables[0]?) hd_i2d (Nat.le_refl 150) (by decide) (fun t h => ?_) fun _ _ h => nomatch h).obj.mono ?_
  · injection h with h
    subst h
    exact ⟨.head _, by kernel_rfl, by kernel_rfl⟩
  rintro vs led K - - ⟨x, n, rfl, h0, hb, hn0, hn1, hf, hk⟩
  refine ⟨by simp [cV], ?_⟩
  conv => whnf
  refine ⟨by decide, ?_⟩
  conv => whnf
  refine ⟨by omega, ?_⟩
  have hfn := figs_nn (x := x) hn0
  refine ⟨PyProof.noPylong_of_log2 (log2_of_bits (bits_small (by omega) hn1)), ?_⟩
  conv => whnf
  rw [rep0]
  show figs n x < 1000 ∧ -1000 < figs n x ∧ 1 * (figs n x).toNat ≤ 256 ∧ _
  refine ⟨by omega, by omega, by omega, ?_⟩
  conv => whnf
  refine ⟨by kernel_rfl, fun env => rfl, fun c => ?_⟩
  conv => whnf
  by_cases hx : x = 0
  · rw [decide_eq_true hx]
    conv => whnf
    refine ⟨4, _, rfl, rfl, pl_ints, ?_⟩
    subst hx
    rw [i2d_zero hn0] at hk
    rw [show ((Builtin.Int.intBits 0 : Int) + n - 1).fdiv n = 0 from figs_zero hn0]
    exact hk
  · have hfp : 1 ≤ figs n x := figs_pos hn0 hx
    have hlr : (List.replicate (figs n x).toNat (0 : Int)).length = (figs n x).toNat := List.length_replicate
    rw [decide_eq_false hx]
    conv => whnf
    refine ⟨by rw [List.length_map]; exact Nat.le_trans (Nat.le_of_eq hlr) (by omega), ?_⟩
    conv => whnf
    refine i2d_rec hn0 hn1 100 _ 150 x 0 _ (List.replicate (figs n x).toNat 0) _ _ _ _ _ (by decide) (by decide) h0 hb (by decide) ?_ ?_ ?_ ?_ ?_
    · rw [List.length_map]; exact Int.lt_of_lt_of_le (by decide) (Int.le_trans hfp (by show figs n x ≤ ((List.replicate (figs n x).toNat (0 : Int)).length : Int); omega))
    · rw [List.length_map]; exact Int.le_refl _
    · omega
    · rw [List.length_map]; show ((((List.replicate (figs n x).toNat (0 : Int)).length : Nat) : Int) - 0).toNat ≤ 100; omega
    · conv => whnf
      refine ⟨4, _, rfl, rfl, pl_ints, ?_⟩
      rw [List.length_map]
      show K _ (led ++ [.list (List.map .int (segOf (List.replicate (figs n x).toNat 0) 0 ((List.replicate (figs n x).toNat (0:Int)).length : Int) (dig n x (((List.replicate (figs n x).toNat (0:Int)).length : Int) - 0).toNat)))])
      rw [segOf_all, hlr, show ((((figs n x).toNat : Nat):Int) - 0).toNat = (figs n x).toNat by omega]
      exact hk
end Mine
end
section
open PySem PySem.W PyProof.Rows PySem.Calls PyProof.V PySem.Spec
namespace Mine
set_option maxRecDepth 100000
set_option maxHeartbeats 8000000
set_option pp.deepTerms false
set_option pp.maxSteps 500
noncomputable def divL (b S : Int) : List Int → Int → List Int → List Int × Int
  | [], r, qs => (qs, r)
  | d :: ds, r, qs => divL b S ds ((r * S + d).fmod b) (qs ++ [(r * S + d).fdiv b])
set_option tactic.hygienic false in
theorem divL_val {b n : Int} (hb : 0 < b) : ∀ (ds : List Int) (r : Int) (qs : List Int) (x : Int), r = x.fmod b → d2i n qs.reverse = x.fdiv b →
    (divL b (2 ^ n.toNat) ds r qs).2 = (ds.foldl (fun x d => d + 2 ^ n.toNat * x) x).fmod b ∧ d2i n (divL b (2 ^ n.toNat) ds r qs).1.reverse = (ds.foldl (fun x d => d + 2 ^ n.toNat * x) x).fdiv b
  | [], _, _, _, hr, hq => ⟨hr, hq⟩
  | d :: ds, r, qs, x, hr, hq => by
    obtain ⟨t1, t2⟩ := dm_turn (S := 2 ^ n.toNat) (d := d) hb hq hr
    refine divL_val hb ds _ _ (d + 2 ^ n.toNat * x) t2 ?_
    rw [List.reverse_append]
    show _ + _ * d2i n qs.reverse = _
    exact t1
set_option tactic.hygienic false in
theorem d2i_fold (n : Int) (ns : List Int) : ns.reverse.foldl (fun x d => d + 2 ^ n.toNat * x) 0 = d2i n ns := by
  rw [List.foldl_reverse]
  induction ns with
  | nil => rfl
  | cons x r ih => rw [List.foldr_cons, ih]; rfl
set_option tactic.hygienic false in
theorem divL_ok {b : Int} (hb : 0 < b) : ∀ (ds : List Int) (r : Int) (qs : List Int), 0 ≤ r → r < b → (∀ d ∈ ds, 0 ≤ d ∧ d < 2 ^ (nb b).toNat) → (∀ q ∈ qs, 0 ≤ q ∧ q < 2 ^ (nb b).toNat) →
    (divL b (2 ^ (nb b).toNat) ds r qs).1.length = qs.length + ds.length ∧ ∀ q ∈ (divL b (2 ^ (nb b).toNat) ds r qs).1, 0 ≤ q ∧ q < 2 ^ (nb b).toNat
  | [], _, qs, _, _, _, hq => ⟨rfl, hq⟩
  | d :: ds, r, qs, h0, h1, hd, hq => by
    obtain ⟨d0, d1⟩ := hd d (.head _)
    obtain ⟨k0, k1⟩ := DmP.bound hb h0 h1 d0 d1
    have hbn : b ≠ 0 := by omega
    have key : ∀ q ∈ qs ++ [(r * 2 ^ (nb b).toNat + d).fdiv b], 0 ≤ q ∧ q < 2 ^ (nb b).toNat := by
      intro q hq'
      rcases List.mem_append.mp hq' with hq' | hq'
      · exact hq q hq'
      · rw [List.mem_singleton.mp hq', Int.fdiv_eq_ediv_of_nonneg _ (Int.le_of_lt hb)]
        exact ⟨Int.ediv_nonneg k0 (Int.le_of_lt hb), Int.ediv_lt_of_lt_mul hb (by rw [Int.mul_comm b] at k1; exact k1)⟩
    obtain ⟨z1, z2⟩ := divL_ok hb ds ((r * 2 ^ (nb b).toNat + d).fmod b) (qs ++ [(r * 2 ^ (nb b).toNat + d).fdiv b]) (Int.fmod_nonneg_of_pos _ hb) (Int.fmod_lt_of_pos _ hb) (fun e he => hd e (.tail _ he)) key
    refine ⟨z1.trans ?_, z2⟩
    rw [List.length_append]
    simp +arith
set_option tactic.hygienic false in
theorem hd_dmp : FnHd 98 [Str.ofString "a", Str.ofString "b"] := ⟨fun w => by kernel_rfl, fun w => by kernel_rfl, by decide +kernel, fun xs hl => by
  obtain ⟨a, b, rfl⟩ := len2 hl
  kernel_rfl⟩
noncomputable def dmpF (q : Addr) : Option Spec := if @Eq Nat q 84 then some i2dS else if @Eq Nat q 91 then some d2iS else if @Eq Nat q 70 then some div2S else none
set_option tactic.hygienic false in
theorem dmpF_ok : ∀ q sp, dmpF q = some sp → FnOk 153 571 q sp ∧ ∀ w : World, (hd.heap_39 w.params).lookup q = some (fnObj q) := by
  intro q sp h
  unfold dmpF at h
  by_cases h1 : @Eq Nat q 84
  · rw [if_pos h1] at h; injection h with h; subst h; subst h1; exact ⟨i2d_ok, hd_i2d.ho⟩
  rw [if_neg h1] at h
  by_cases h2 : @Eq Nat q 91
  · rw [if_pos h2] at h; injection h with h; subst h; subst h2; exact ⟨d2i_ok, hd_d2i.ho⟩
  rw [if_neg h2] at h
  by_cases h3 : @Eq Nat q 70
  · rw [if_pos h3] at h; injection h with h; subst h; subst h3; exact ⟨div2_ok.more (by decide) (by decide), hd_div2n1n.ho⟩
  rw [if_neg h3] at h
  cases h
noncomputable def dmpS : Spec := fun vs led K => ∃ a b, vs = [.int a, .int b] ∧ 0 ≤ a ∧ Builtin.Int.intBits a ≤ 500000 ∧ 0 < b ∧ Builtin.Int.intBits b ≤ 4000 ∧ figs (Builtin.Int.intBits b) a ≤ 100 ∧ K (.loc led.length) (led ++ [.tup [.int (a.fdiv b), .int (a.fmod b)]])
theorem dmp_loop {a b : Int} {ob : Obj} {K : Fl → Loc → Led → Prop} (hb : 0 < b) (hbb : Builtin.Int.intBits b ≤ 4000) : ∀ (ds : List Int) (r : Int) (qs : List Int), 0 ≤ r → r < b → (∀ d ∈ ds, 0 ≤ d ∧ d < 2 ^ (nb b).toNat) → qs.length + ds.length ≤ 1000 →
    K .next [(Str.ofString "a", .int a), (Str.ofString "b", .int b), (Str.ofString "n", .int (nb b)), (Str.ofString "a_digits", .loc 0), (Str.ofString "r", .int (divL b (2 ^ (nb b).toNat) ds r qs).2), (Str.ofString "q_digits", .loc 1)] [.frz ob, .list ((divL b (2 ^ (nb b).toNat) ds r qs).1.map .int)] →
    forP 2 (xBody (run 54) (cxC 98 dmpF 0 none 0) (forTgt (stOf 98 4)) (forBody (stOf 98 4))) (fun led => led[0]? = some (.frz ob)) (ds.map .int)
      [(Str.ofString "a", .int a), (Str.ofString "b", .int b), (Str.ofString "n", .int (nb b)), (Str.ofString "a_digits", .loc 0), (Str.ofString "r", .int r), (Str.ofString "q_digits", .loc 1)] [.frz ob, .list (qs.map .int)] K := by
  intro ds
  induction ds with
  | nil =>
    intro r qs h0 h1 hd hl k
    exact k
  | cons d ds ih =>
    intro r qs h0 h1 hd hl k
    obtain ⟨d0, d1⟩ := hd d (.head _)
    rw [List.length_cons] at hl
    have hnb : 0 ≤ nb b := Int.natCast_nonneg _
    conv => whnf
    refine ⟨hnb, DmP.shift hbb h0 h1, ?_⟩
    conv => whnf
    refine ⟨_, _, _, rfl, by omega, hbb, DmP.bits hb hbb h0 h1 d0 d1, ?_⟩
    conv => whnf
    refine ⟨by rw [List.length_map]; omega, ?_⟩
    conv => whnf
    have z := ih ((r * 2 ^ (nb b).toNat + d).fmod b) (qs ++ [(r * 2 ^ (nb b).toNat + d).fdiv b]) (Int.fmod_nonneg_of_pos _ hb) (Int.fmod_lt_of_pos _ hb) (fun e he => hd e (.tail _ he)) (by rw [List.length_append]; simp only [List.length_cons, List.length_nil]; omega) k
    rw [List.map_append] at z
    exact ⟨rfl, _, _, Trim.cut (j := 6) rfl rfl (.intro True.intro (.intro (cL_app cL_ints (cL_one True.intro)) True.intro)), rfl, z⟩
set_option tactic.hygienic false in
theorem dmp_ok : FnOk 156 582 98 dmpS := by
  refine (fnC_Y (n := 60) (fn := dmpF) (tab := none) hd_dmp (Nat.zero_le 153) (by decide) (fun _ h => nomatch h) dmpF_ok).obj.mono ?_
  rintro vs led K - - ⟨a, b, rfl, ha, hab, hb, hbb, hq, k⟩
  have hb1 := bits_pos (b := b) (by omega)
  refine ⟨by simp [cV], ?_⟩
  conv => whnf
  refine ⟨_, _, rfl, ha, hab, by omega, by omega, hq, ?_⟩
  conv => whnf
  refine ⟨by decide, ?_⟩
  conv => whnf
  have hmem := i2d_mem (n := nb b) (x := a) (by show (1 : Int) ≤ (Builtin.Int.intBits b : Int); omega) ha
  have hlen1 : (i2d (nb b) a).length ≤ 100 := by rw [i2d_length]; exact Int.toNat_le.mpr hq
  refine ⟨by rw [List.length_map]; exact Nat.le_trans hlen1 (by decide), fun ob => ?_⟩
  rw [← List.map_reverse]
  have hval := divL_val (n := nb b) hb (i2d (nb b) a).reverse 0 [] 0 (by simp) (by simp [d2i])
  rw [d2i_fold, i2d_val (by show (1 : Int) ≤ (Builtin.Int.intBits b : Int); omega) ha] at hval
  have hrev : ∀ d ∈ (i2d (nb b) a).reverse, 0 ≤ d ∧ d < 2 ^ (nb b).toNat := fun d hd => hmem d (List.mem_reverse.mp hd)
  obtain ⟨o1, o2⟩ := divL_ok hb (i2d (nb b) a).reverse 0 [] (Int.le_refl _) hb hrev (fun _ h => nomatch h)
  rw [List.length_reverse] at o1
  refine dmp_loop hb hbb (i2d (nb b) a).reverse 0 [] (Int.le_refl _) hb hrev (by rw [List.length_reverse]; exact Nat.le_trans (Nat.le_of_eq (Nat.zero_add _)) (Nat.le_trans hlen1 (by decide))) ?_
  generalize divL b (2 ^ (nb b).toNat) (i2d (nb b) a).reverse 0 [] = D at *
  conv => whnf
  have hn4 : nb b ≤ 4000 := by show (Builtin.Int.intBits b : Int) ≤ 4000; omega
  have hnn : 0 ≤ nb b := Int.natCast_nonneg _
  have q2 : (2 : Nat) ^ (nb b).toNat ≤ 2 ^ 4000 := Nat.pow_le_pow_right (by decide) (by omega)
  have q3 : (2 : Int) ^ (nb b).toNat ≤ 2 ^ 4000 := by exact_mod_cast q2
  have hD : D.1.length ≤ 100 := by rw [o1]; exact Nat.le_trans (Nat.le_of_eq (Nat.zero_add _)) hlen1
  refine ⟨by rw [List.length_map]; exact Nat.le_trans hD (by decide), ?_⟩
  rw [← List.map_reverse]
  conv => whnf
  refine ⟨_, _, D.1.reverse, rfl, rfl, by rw [List.length_reverse]; exact hD, fun q hq => ?_, hnn, hn4, ?_⟩
  · obtain ⟨w1, w2⟩ := o2 q (List.mem_reverse.mp hq)
    exact ⟨w1, Int.lt_of_lt_of_le w2 q3⟩
  rw [hval.2, hval.1]
  conv => whnf
  refine ⟨Nat.le_of_ble_eq_true rfl, ?_⟩
  conv => whnf
  exact ⟨_, _, rfl, rfl, by simp [plO, cV], k⟩
set_option tactic.hygienic false in
theorem hd_dv : FnHd 105 [Str.ofString "a", Str.ofString "b"] := ⟨fun w => by kernel_rfl, fun w => by kernel_rfl, by decide +kernel, fun xs hl => by
  obtain ⟨a, b, rfl⟩ := len2 hl
  kernel_rfl⟩
noncomputable def dvF (q : Addr) : Option Spec := if @Eq Nat q 98 then some dmpS else none
set_option tactic.hygienic false in
theorem dvF_ok : ∀ q sp, dvF q = some sp → FnOk 156 582 q sp ∧ ∀ w : World, (hd.heap_39 w.params).lookup q = some (fnObj q) := by
  intro q sp h
  unfold dvF at h
  by_cases h1 : @Eq Nat q 98
  · rw [if_pos h1] at h; injection h with h; subst h; subst h1; exact ⟨dmp_ok, hd_dmp.ho⟩
  rw [if_neg h1] at h
  cases h
set_option tactic.hygienic false in
theorem dv_ok : FnOk 159 593 105 dmpS := by
  refine (fnC_Y (n := 60) (fn := dvF) (tab := none) hd_dv (Nat.zero_le 156) (by decide) (fun _ h => nomatch h) dvF_ok).obj.mono ?_
  rintro vs led K - - ⟨a, b, rfl, ha, hab, hb, hbb, hq, k⟩
  refine ⟨by simp [cV], ?_⟩
  conv => whnf
  rw [decide_eq_false (show ¬ b = 0 by omega)]
  conv => whnf
  rw [decide_eq_false (show ¬ b < 0 by omega)]
  conv => whnf
  rw [decide_eq_false (show ¬ a < 0 by omega)]
  conv => whnf
  refine ⟨_, _, rfl, ha, hab, hb, hbb, hq, ?_⟩
  conv => whnf
  exact ⟨_, _, rfl, rfl, by simp [plO, cV], k⟩
end Mine
end
section
open PySem PySem.W PyProof.Rows PySem.Calls PyProof.V PySem.Spec
namespace Mine
set_option maxRecDepth 100000
set_option maxHeartbeats 8000000
set_option pp.deepTerms false
set_option pp.maxSteps 600
set_option tactic.hygienic false in
theorem FnX.or {R : Rt} {q : Addr} {s1 s2 : Spec} (h1 : FnX R q s1) (h2 : FnX R q s2) : FnX R q (fun vs led K => s1 vs led K ∨ s2 vs led K) :=
  fun m s ρ led ex vs xs K Q E k hr F S P => k.elim (fun k => h1 m s ρ led ex vs xs K Q E k hr F S P) (fun k => h2 m s ρ led ex vs xs K Q E k hr F S P)
set_option tactic.hygienic false in
theorem FnOk.or {D U : Nat} {q : Addr} {s1 s2 : Spec} (h1 : FnOk D U q s1) (h2 : FnOk D U q s2) : FnOk D U q (fun vs led K => s1 vs led K ∨ s2 vs led K) := fun R hR => (h1 R hR).or (h2 R hR)
noncomputable def dvnS : Spec := fun vs led K => ∃ a b, vs = [.int a, .int b] ∧ a < 0 ∧ Builtin.Int.intBits (-a - 1) ≤ 500000 ∧ 0 < b ∧ Builtin.Int.intBits b ≤ 4000 ∧ figs (Builtin.Int.intBits b) (-a - 1) ≤ 100 ∧ K (.loc led.length) (led ++ [.tup [.int (a.fdiv b), .int (a.fmod b)]])
noncomputable def dvnF (q : Addr) : Option Spec := if @Eq Nat q 105 then some dmpS else none
set_option tactic.hygienic false in
theorem dvnF_ok : ∀ q sp, dvnF q = some sp → FnOk 159 593 q sp ∧ ∀ w : World, (hd.heap_39 w.params).lookup q = some (fnObj q) := by
  intro q sp h
  unfold dvnF at h
  by_cases h1 : @Eq Nat q 105
  · rw [if_pos h1] at h; injection h with h; subst h; subst h1; exact ⟨dv_ok, hd_dv.ho⟩
  rw [if_neg h1] at h
  cases h
set_option tactic.hygienic false in
theorem not_div {a b : Int} (hb : 0 < b) : -(-a - 1).fdiv b - 1 = a.fdiv b ∧ b + (-(-a - 1).fmod b - 1) = a.fmod b := by
  have h1 := Int.mul_fdiv_add_fmod (-a - 1) b
  have h2 := Int.fmod_nonneg_of_pos (-a - 1) hb
  have h3 := Int.fmod_lt_of_pos (-a - 1) hb
  have h4 := Int.mul_fdiv_add_fmod a b
  have h5 := Int.fmod_nonneg_of_pos a hb
  have h6 := Int.fmod_lt_of_pos a hb
  generalize (-a - 1).fdiv b = q at *
  generalize (-a - 1).fmod b = r at *
  generalize a.fdiv b = q2 at *
  generalize a.fmod b = r2 at *
  have e : b * (q + q2 + 1) = b - 1 - r - r2 := by
    rw [Int.mul_add, Int.mul_add, Int.mul_one]; omega
  have hq : q + q2 + 1 = 0 := by
    rcases Int.lt_trichotomy (q + q2 + 1) 0 with h | h | h
    · have := Int.mul_le_mul_of_nonneg_left (show q + q2 + 1 ≤ -1 by omega) (Int.le_of_lt hb)
      omega
    · exact h
    · have := Int.mul_le_mul_of_nonneg_left (show 1 ≤ q + q2 + 1 by omega) (Int.le_of_lt hb)
      omega
  rw [hq, Int.mul_zero] at e
  omega
set_option tactic.hygienic false in
theorem dvn_ok : FnOk 162 604 105 dvnS := by
  refine (fnC_Y (n := 60) (fn := dvnF) (tab := none) hd_dv (Nat.zero_le 159) (by decide) (fun _ h => nomatch h) dvnF_ok).obj.mono ?_
  rintro vs led K - - ⟨a, b, rfl, ha, hab, hb, hbb, hq, k⟩
  refine ⟨by simp [cV], ?_⟩
  have e0 : Builtin.bitNot a = -a - 1 := by unfold Builtin.bitNot; omega
  obtain ⟨e1, e2⟩ := not_div (a := a) hb
  conv => whnf
  rw [decide_eq_false (show ¬ b = 0 by omega)]
  conv => whnf
  rw [decide_eq_false (show ¬ b < 0 by omega)]
  conv => whnf
  rw [decide_eq_true ha]
  conv => whnf
  rw [e0]
  refine ⟨-a - 1, b, rfl, by omega, hab, hb, hbb, hq, ?_⟩
  conv => whnf
  rw [show Builtin.bitNot ((-a - 1).fdiv b) = a.fdiv b from e1, show b + Builtin.bitNot ((-a - 1).fmod b) = a.fmod b from e2]
  refine ⟨Nat.le_of_ble_eq_true rfl, ?_⟩
  conv => whnf
  exact ⟨_, _, rfl, rfl, by simp [plO, cV], k⟩
noncomputable def dvS : Spec := fun vs led K => dmpS vs led K ∨ dvnS vs led K
set_option tactic.hygienic false in
theorem dvs_ok : FnOk 162 604 105 dvS := (dv_ok.more (by decide) (by decide)).or dvn_ok
end Mine
end
section
open PySem PySem.W PyProof.Rows PySem.Calls PyProof.V PySem.Spec
namespace Mine
noncomputable def rep4 : Nat → Int
  | 0 => 0
  | n + 1 => 4 * rep4 n + 1
set_option tactic.hygienic false in
theorem rep4_pow : ∀ n : Nat, 3 * rep4 n + 1 = 4 ^ n
  | 0 => rfl
  | n + 1 => by
    have ih := rep4_pow n
    rw [Int.pow_succ, ← ih, show rep4 (n + 1) = 4 * rep4 n + 1 from rfl]
    omega
set_option tactic.hygienic false in
theorem rep4_div (n : Nat) : ((4 : Int) ^ n - 1).fdiv 3 = rep4 n := by
  rw [← rep4_pow n, Int.fdiv_eq_ediv_of_nonneg _ (by decide)]
  omega
set_option tactic.hygienic false in
theorem d2i_cons {x : Int} {r : List Int} : d2i 2 (x :: r) = x + 4 * d2i 2 r := rfl
set_option tactic.hygienic false in
theorem d2i_one : ∀ ds : List Int, d2i 2 (ds.map (· + 1)) = d2i 2 ds + rep4 ds.length
  | [] => rfl
  | x :: r => by
    rw [List.map_cons, d2i_cons, d2i_cons, d2i_one r, List.length_cons, show rep4 (r.length + 1) = 4 * rep4 r.length + 1 from rfl]
    omega
theorem d2i_pad : ∀ (k : Nat) (ds : List Int), d2i 2 (ds ++ List.replicate k 0) = d2i 2 ds
  | 0, ds => by rw [List.replicate_zero, List.append_nil]
  | k + 1, [] => by
    have := d2i_pad k []
    rw [List.nil_append] at this ⊢
    rw [List.replicate_succ, d2i_cons, this]; rfl
  | k + 1, x :: r => by
    rw [List.cons_append, d2i_cons, d2i_pad (k + 1) r, d2i_cons]
noncomputable def In4 (ds : List Int) : Prop := ∀ d ∈ ds, 0 ≤ d ∧ d < 4
set_option tactic.hygienic false in
theorem d2i_lt : ∀ {ds : List Int}, In4 ds → 0 ≤ d2i 2 ds ∧ d2i 2 ds < 4 ^ ds.length
  | [], _ => ⟨by decide, by decide⟩
  | x :: r, h => by
    have ih := d2i_lt (ds := r) fun d hd => h d (.tail _ hd)
    have hx := h x (.head _)
    rw [d2i_cons, List.length_cons, Int.pow_succ]
    omega
set_option tactic.hygienic false in
theorem d2i_inj : ∀ {ds es : List Int}, In4 ds → In4 es → ds.length = es.length → d2i 2 ds = d2i 2 es → ds = es
  | [], [], _, _, _, _ => rfl
  | x :: r, y :: s, h, g, hl, e => by
    have hx := h x (.head _)
    have hy := g y (.head _)
    rw [d2i_cons, d2i_cons] at e
    have e1 : x = y := by omega
    subst e1
    rw [d2i_inj (fun d hd => h d (.tail _ hd)) (fun d hd => g d (.tail _ hd)) (by simpa using hl) (by omega)]
  | [], _ :: _, _, _, hl, _ => by simp at hl
  | _ :: _, [], _, _, hl, _ => by simp at hl
noncomputable def szN (N : Int) : Nat := (Builtin.Int.intBits (3 * N + 1) - 1) / 2
set_option tactic.hygienic false in
theorem four (n : Nat) : (4 : Nat) ^ n = 2 ^ (2 * n) := by rw [Nat.pow_mul]
theorem sz_of {N : Int} {n : Nat} (h0 : 0 ≤ N) (h1 : (4 : Int) ^ n ≤ 3 * N + 1) (h2 : 3 * N + 1 < 4 ^ (n + 1)) : szN N = n := by
  obtain ⟨M, hM⟩ : ∃ M : Nat, 3 * N + 1 = M := ⟨(3 * N + 1).toNat, by omega⟩
  rw [hM] at h1 h2
  have h1 : 4 ^ n ≤ M := by exact_mod_cast h1
  have h2 : M < 4 ^ (n + 1) := by exact_mod_cast h2
  unfold szN
  rw [hM]
  have a : Builtin.Int.intBits (M : Int) ≤ 2 * (n + 1) := intBits_le_iff.mpr (by rw [← four]; exact h2)
  have b : ¬ Builtin.Int.intBits (M : Int) ≤ 2 * n := fun h => by
    have := intBits_le_iff.mp h
    rw [← four] at this
    have this : M < 4 ^ n := this
    omega
  omega
theorem sz_ok {N : Int} (h0 : 0 ≤ N) : (4 : Int) ^ szN N ≤ 3 * N + 1 ∧ 3 * N + 1 < 4 ^ (szN N + 1) := by
  obtain ⟨M, hM⟩ : ∃ M : Nat, 3 * N + 1 = M := ⟨(3 * N + 1).toNat, by omega⟩
  have hb := bits_pos (b := (M : Int)) (by omega)
  have a := intBits_le_iff.mp (Nat.le_refl (Builtin.Int.intBits (M : Int)))
  have b : ¬ M < 2 ^ (Builtin.Int.intBits (M : Int) - 1) := fun h => by
    have := intBits_le_iff.mpr (show (M : Int).natAbs < 2 ^ (Builtin.Int.intBits (M : Int) - 1) from h)
    omega
  have a : M < 2 ^ Builtin.Int.intBits (M : Int) := a
  unfold szN
  rw [hM]
  generalize Builtin.Int.intBits (M : Int) = k at *
  refine ⟨?_, ?_⟩
  · have : 4 ^ ((k - 1) / 2) ≤ M := by
      rw [four]
      have := Nat.pow_le_pow_right (n := 2) (by decide) (show 2 * ((k - 1) / 2) ≤ k - 1 by omega)
      omega
    exact_mod_cast this
  · have : M < 4 ^ ((k - 1) / 2 + 1) := by
      rw [four]
      have := Nat.pow_le_pow_right (n := 2) (by decide) (show k ≤ 2 * ((k - 1) / 2 + 1) by omega)
      omega
    exact_mod_cast this
noncomputable def restN (N : Int) : Int := N - rep4 (szN N)
noncomputable def digsN (N : Int) : List Int := i2d 2 (restN N) ++ List.replicate (szN N - (i2d 2 (restN N)).length) 0
set_option tactic.hygienic false in
theorem rest_ok {N : Int} (h0 : 0 ≤ N) : 0 ≤ restN N ∧ restN N < 4 ^ szN N := by
  obtain ⟨h1, h2⟩ := sz_ok h0
  have := rep4_pow (szN N)
  rw [Int.pow_succ] at h2
  unfold restN
  omega
set_option tactic.hygienic false in
theorem i2d_len {x : Int} {n : Nat} (h0 : 0 ≤ x) (h : x < 4 ^ n) : (i2d 2 x).length ≤ n := by
  obtain ⟨M, hM⟩ : ∃ M : Nat, x = M := ⟨x.toNat, by omega⟩
  subst hM
  have h : M < 4 ^ n := by exact_mod_cast h
  rw [i2d_length]
  have a : Builtin.Int.intBits (M : Int) ≤ 2 * n := intBits_le_iff.mpr (by rw [← four]; exact h)
  unfold figs
  rw [Int.fdiv_eq_ediv_of_nonneg _ (by decide)]
  omega
set_option tactic.hygienic false in
theorem code1 {N : Int} (h0 : 0 ≤ N) : In4 (digsN N) ∧ (digsN N).length = szN N ∧ d2i 2 ((digsN N).map (· + 1)) = N := by
  obtain ⟨h1, h2⟩ := rest_ok h0
  have hl := i2d_len h1 h2
  have hlen : (digsN N).length = szN N := by
    unfold digsN
    rw [List.length_append, List.length_replicate]
    omega
  refine ⟨?_, hlen, ?_⟩
  · intro d hd
    unfold digsN at hd
    rcases List.mem_append.mp hd with hd | hd
    · exact i2d_mem (by decide) h1 d hd
    · rw [List.eq_of_mem_replicate hd]; decide
  · rw [d2i_one, hlen]
    unfold digsN
    rw [d2i_pad, i2d_val (by decide) h1]
    unfold restN
    omega
set_option tactic.hygienic false in
theorem code2 {ds : List Int} (h : In4 ds) : digsN (d2i 2 (ds.map (· + 1))) = ds := by
  obtain ⟨a, b⟩ := d2i_lt h
  have hr := rep4_pow ds.length
  have hN : 0 ≤ d2i 2 (ds.map (· + 1)) := by rw [d2i_one]; have : (0 : Int) < 4 ^ ds.length := Int.pow_pos (by decide); omega
  have hs : szN (d2i 2 (ds.map (· + 1))) = ds.length := by
    refine sz_of hN ?_ ?_
    · rw [d2i_one]; omega
    · rw [d2i_one, Int.pow_succ]; omega
  obtain ⟨c1, c2, c3⟩ := code1 hN
  refine d2i_inj c1 h (c2.trans hs) ?_
  have e := d2i_one ds
  generalize d2i 2 (ds.map (· + 1)) = N at *
  rw [d2i_one, c2, hs] at c3
  omega
end Mine
end
section
open PySem PySem.W PyProof.Rows PySem.Calls PyProof.V PySem.Spec
namespace Mine
set_option maxRecDepth 100000
noncomputable def six : List Nat := [97, 32, 10, 35, 9, 40]
noncomputable def sixA (a : Nat) : Nat := (six[a]?).getD 0
noncomputable def fourOf (p q : Nat) : List Nat := [34, 92, p, q]
noncomputable def sgOf (p q r : Nat) : List Nat := (fourOf p q).drop r ++ (fourOf p q).take r
noncomputable def labOf (r d : Nat) : Nat := ([34, 92, 2, 3][(d + r) % 4]?).getD 0
noncomputable def fOf (p q c : Nat) : Nat := if c = 34 then 34 else if c = 92 then 92 else if c = 2 then p else q
noncomputable def sgT (a k r : Nat) : List Nat := sgOf (sixA a) (sixA ((a + 1 + k) % 6)) r
noncomputable def sgB (a k r : Nat) : Bool := decide ((sgT a k r).length = 4) && ((List.range 4).all fun d => decide (Txt.find (strOf (sgT a k r)) (strOf [((sgT a k r)[d]?).getD 0]) = (d : Int)) && decide (((sgT a k r)[d]?).getD 0 = fOf (sixA a) (sixA ((a + 1 + k) % 6)) (labOf r d)) && decide (labOf r d ∈ [34, 92, 2, 3])) &&
  ((sgT a k r).all fun c => decide (c ≠ 33) && decide (c ≠ 63) && decide (c < 1114112)) && ([34, 92, 2, 3].all fun c => (List.range 4).any fun d => decide (labOf r d = c)) && decide (sixA a ≠ 34) && decide (sixA a ≠ 92) && decide (sixA ((a + 1 + k) % 6) ≠ 34) && decide (sixA ((a + 1 + k) % 6) ≠ 92)
set_option tactic.hygienic false in
theorem sg_all : ∀ a : Fin 6, ∀ k : Fin 5, ∀ r : Fin 4, sgB a.val k.val r.val = true := by decide +kernel
noncomputable def sgn (sg : List Nat) (d : Int) : Nat := (sg[d.toNat]?).getD 0
structure SgOk (sg : List Nat) (f lab : Nat → Nat) : Prop where
  n : sg.length = 4
  find : ∀ d : Int, 0 ≤ d → d < 4 → Txt.find (strOf sg) (strOf [sgn sg d]) = d
  lb : ∀ d : Int, 0 ≤ d → d < 4 → sgn sg d = f (lab d.toNat) ∧ lab d.toNat ∈ [34, 92, 2, 3]
  inv : ∀ c ∈ [34, 92, 2, 3], ∃ d : Int, 0 ≤ d ∧ d < 4 ∧ lab d.toNat = c
  lf : Lf f
  ok : ∀ c ∈ sg, c ≠ 33 ∧ c ≠ 63 ∧ c < 1114112
set_option tactic.hygienic false in
theorem lf_of {p q : Nat} (h1 : p ≠ 34) (h2 : p ≠ 92) (h3 : q ≠ 34) (h4 : q ≠ 92) : Lf (fOf p q) := by
  intro c
  unfold fOf
  by_cases a : c = 34
  · subst a; simp
  · by_cases b : c = 92
    · subst b; simp
    · rw [if_neg a, if_neg b]
      by_cases e : c = 2
      · rw [if_pos e]; simp [a, b, h1, h2]
      · rw [if_neg e]; simp [a, b, h3, h4]
set_option tactic.hygienic false in
theorem sg_ok {a k r : Nat} (ha : a < 6) (hk : k < 5) (hr : r < 4) : SgOk (sgT a k r) (fOf (sixA a) (sixA ((a + 1 + k) % 6))) (labOf r) := by
  have h : sgB a k r = true := sg_all ⟨a, ha⟩ ⟨k, hk⟩ ⟨r, hr⟩
  unfold sgB at h
  simp only [Bool.and_eq_true, decide_eq_true_eq] at h
  obtain ⟨⟨⟨⟨⟨⟨⟨h1, h2⟩, h3⟩, h4⟩, h5⟩, h6⟩, h7⟩, h8⟩ := h
  have dd : ∀ d : Int, 0 ≤ d → d < 4 → ∃ n : Nat, n < 4 ∧ d = n := fun d h0 h1 => ⟨d.toNat, by omega, by omega⟩
  have h2 : ∀ n < 4, _ := fun n hn => List.all_eq_true.mp h2 n (List.mem_range.mpr hn)
  simp only [Bool.and_eq_true, decide_eq_true_eq] at h2
  refine ⟨h1, fun d h0 h9 => ?_, fun d h0 h9 => ?_, fun c hc => ?_, lf_of h5 h6 h7 h8, fun c hc => ?_⟩
  · obtain ⟨n, hn, rfl⟩ := dd d h0 h9
    exact (h2 n hn).1.1
  · obtain ⟨n, hn, rfl⟩ := dd d h0 h9
    exact ⟨(h2 n hn).1.2, (h2 n hn).2⟩
  · obtain ⟨d, hd, e⟩ := List.any_eq_true.mp (List.all_eq_true.mp h4 c hc)
    have hd := List.mem_range.mp hd
    exact ⟨(d : Int), by omega, by omega, of_decide_eq_true e⟩
  · have z := List.all_eq_true.mp h3 c hc
    simp only [Bool.and_eq_true, decide_eq_true_eq] at z
    exact ⟨z.1.1, z.1.2, z.2⟩
set_option tactic.hygienic false in
theorem back_digs {sg : List Nat} {f lab : Nat → Nat} (H : SgOk sg f lab) : ∀ {P : List Nat}, (∀ c ∈ P, c ∈ [34, 92, 2, 3]) → ∃ ds : List Int, In4 ds ∧ ds.map (sgn sg) = P.map f ∧ ds.length = P.length
  | [], _ => ⟨[], fun _ h => (nomatch h), rfl, rfl⟩
  | c :: P, h => by
    obtain ⟨ds, h1, h2, h3⟩ := back_digs H (P := P) fun d hd => h d (.tail _ hd)
    obtain ⟨d, d0, d1, e⟩ := H.inv c (h c (.head _))
    refine ⟨d :: ds, fun x hx => ?_, ?_, congrArg (· + 1) h3⟩
    · rcases List.mem_cons.mp hx with rfl | hx
      · exact ⟨d0, d1⟩
      · exact h1 x hx
    · rw [List.map_cons, List.map_cons, h2, (H.lb d d0 d1).1, e]
set_option tactic.hygienic false in
theorem map_labs {sg : List Nat} {f lab : Nat → Nat} (H : SgOk sg f lab) : ∀ {ds : List Int}, In4 ds → ds.map (sgn sg) = (ds.map fun d => lab d.toNat).map f ∧ ∀ c ∈ ds.map fun d => lab d.toNat, c ∈ [34, 92, 2, 3]
  | [], _ => ⟨rfl, fun _ h => nomatch h⟩
  | d :: ds, h => by
    obtain ⟨h1, h2⟩ := map_labs H (ds := ds) fun x hx => h x (.tail _ hx)
    obtain ⟨d0, d1⟩ := h d (.head _)
    obtain ⟨e1, e2⟩ := H.lb d d0 d1
    refine ⟨by rw [List.map_cons, h1, e1]; rfl, fun c hc => ?_⟩
    rcases List.mem_cons.mp hc with rfl | hc
    · exact e2
    · exact h2 c hc
theorem sz_cap {N : Int} {w : List Nat} {c : Int} (h0 : 0 ≤ N) (hw : w.length ≤ 4) (hc : ([341, 341, 21, 5, 5] : List Int)[w.length]? = some c) (h1 : N < c) : szN N ≤ capOf w := by
  obtain ⟨z1, -⟩ := sz_ok h0
  have key : ∀ (m : Nat) (n : Nat), (3 * N + 1 < (4 : Int) ^ (m + 1)) → n = szN N → n ≤ m := fun m n h e => by
    subst e
    refine Nat.le_of_not_lt fun hlt => ?_
    have : (4 : Int) ^ (m + 1) ≤ 4 ^ szN N := by
      have : (4 : Nat) ^ (m + 1) ≤ 4 ^ szN N := Nat.pow_le_pow_right (by decide) hlt
      exact_mod_cast this
    omega
  unfold capOf
  rcases (show w.length = 0 ∨ w.length = 1 ∨ w.length = 2 ∨ w.length = 3 ∨ w.length = 4 by omega) with h | h | h | h | h <;> rw [h] at hc ⊢ <;> injection hc with hc
  · exact key 4 _ (by show 3 * N + 1 < 1024; omega) rfl
  · exact key 4 _ (by show 3 * N + 1 < 1024; omega) rfl
  · exact key 2 _ (by show 3 * N + 1 < 64; omega) rfl
  · exact key 1 _ (by show 3 * N + 1 < 16; omega) rfl
  · exact key 1 _ (by show 3 * N + 1 < 16; omega) rfl
end Mine
end
section
open PySem PySem.W PyProof.Rows PySem.Calls PyProof.V PySem.Spec
namespace Mine
set_option maxRecDepth 100000
set_option tactic.hygienic false in
theorem pick_ints {ns : List Int} {lo hi st : Option Int} : pickS (ns.map .int) lo hi st = (pickNums ns lo hi st).map .int := by
  unfold pickS pickNums
  rw [List.length_map]
  generalize sliceRange _ _ _ = is
  induction is with
  | nil => rfl
  | cons i is ih =>
    rw [List.filterMap_cons, List.filterMap_cons, List.getElem?_map]
    cases ns[i]? with
    | none => exact ih
    | some z => exact congrArg (SV.int z :: ·) ih
set_option tactic.hygienic false in
theorem pick_len (ns : List Int) (lo hi st : Option Int) : (pickNums ns lo hi st).length ≤ ns.length := by
  have h : ∀ ns : List Int, IntsAre (ns.map fun z => Value.int z 0) ns := by
    intro ns
    induction ns with
    | nil => exact .nil
    | cons n ns ih => exact .cons _ _ ih
  have z := (h ns).pick lo hi st
  rw [← z.length, Array.length_toList]
  have y := slicePick_size_le (ns.map fun z => Value.int z 0).toArray lo hi st
  simpa using y
theorem xs_cons {n : Nat} {cx : Cx} {s : Stmt} {ss : List Stmt} {loc : Loc} {led : Led} {K : Fl → Loc → Led → Prop} (h : (run n).ex cx s loc led fun f loc led => match f with
    | .next => (run n).xs cx ss loc led K
    | .ret v => K (.ret v) loc led
    | .brk => K .brk loc led
    | .cont => K .cont loc led) : (run (n + 1)).xs cx (s :: ss) loc led K := h
theorem xs_nil {n : Nat} {cx : Cx} {loc : Loc} {led : Led} {K : Fl → Loc → Led → Prop} (h : K .next loc led) : (run (n + 1)).xs cx [] loc led K := h
theorem for_cons {tn : Nat} {body : SV → Loc → Led → (Fl → Loc → Led → Prop) → Prop} {keep : Led → Prop} {v : SV} {vs : List SV} {loc : Loc} {led : Led} {K : Fl → Loc → Led → Prop} (h : body v loc led fun f loc led => keep led ∧ match f with
    | .next => ∃ led₂ loc₂, Trim tn loc led led₂ loc₂ ∧ keep led₂ ∧ forP tn body keep vs loc₂ led₂ K
    | .cont => ∃ led₂ loc₂, Trim tn loc led led₂ loc₂ ∧ keep led₂ ∧ forP tn body keep vs loc₂ led₂ K
    | .brk => K .next loc led
    | .ret w => K (.ret w) loc led) : forP tn body keep (v :: vs) loc led K := h
set_option tactic.hygienic false in
theorem comp_cons {tn : Nat} {turn : SV → Loc → List SV → Led → KC → Prop} {keep : Led → Prop} {v : SV} {vs : List SV} {loc : Loc} {acc : List SV} {led : Led} {K : KC} (h : turn v loc acc led fun loc acc led => keep led ∧ ∃ led₂ loc₂, TrimC tn loc acc led led₂ loc₂ ∧ keep led₂ ∧ compP tn turn keep vs loc₂ acc led₂ K) : compP tn turn keep (v :: vs) loc acc led K := h
set_option tactic.hygienic false in
theorem rangeOf_from (j : Nat) : rangeOf ((j : Nat) : Int) = (List.range' 0 j).map fun (i : Nat) => SV.int (i : Int) := by
  unfold rangeOf
  rw [Int.toNat_natCast, List.range_eq_range']
end Mine
end
section
open PySem PySem.W PyProof.Rows PySem.Calls PyProof.V PySem.Spec
namespace Mine
set_option maxRecDepth 100000
set_option maxHeartbeats 8000000
set_option pp.deepTerms false
set_option pp.maxSteps 600
set_option tactic.hygienic false in
theorem hd_tx : FnHd 149 [Str.ofString "number", Str.ofString "signs"] := ⟨fun w => by kernel_rfl, fun w => by kernel_rfl, by decide +kernel, fun xs hl => by
  obtain ⟨a, b, rfl⟩ := len2 hl
  kernel_rfl⟩
noncomputable def txF (q : Addr) : Option Spec := if @Eq Nat q 84 then some i2dS else none
set_option tactic.hygienic false in
theorem txF_ok : ∀ q sp, txF q = some sp → FnOk 153 571 q sp ∧ ∀ w : World, (hd.heap_39 w.params).lookup q = some (fnObj q) := by
  intro q sp h
  unfold txF at h
  by_cases h1 : @Eq Nat q 84
  · rw [if_pos h1] at h; injection h with h; subst h; subst h1; exact ⟨i2d_ok, hd_i2d.ho⟩
  rw [if_neg h1] at h
  cases h
noncomputable def txV (sg : List Nat) : SV → List SV
  | .int d => [.str [sgn sg d]]
  | _ => []
set_option tactic.hygienic false in
theorem tx_flat (sg : List Nat) : ∀ ds : List Int, (ds.map SV.int).flatMap (txV sg) = (ds.map fun d => [sgn sg d]).map .str
  | [] => rfl
  | d :: ds => by
    rw [List.map_cons, List.flatMap_cons, tx_flat sg ds]; rfl
set_option tactic.hygienic false in
theorem ones_flat (sg : List Nat) : ∀ ds : List Int, (ds.map fun d => [sgn sg d]).flatten = ds.map (sgn sg)
  | [] => rfl
  | d :: ds => by
    rw [List.map_cons, List.flatten_cons, ones_flat sg ds]; rfl
noncomputable def ltxt (sg : List Nat) (N : Int) : List Nat := (digsN N).map (sgn sg)
noncomputable def ltS : Spec := fun vs led K => ∃ (N : Int) (sg : List Nat), vs = [.int N, .str sg] ∧ 0 ≤ N ∧ szN N ≤ 40 ∧ sg.length = 4 ∧ K (.str (ltxt sg N)) led
set_option tactic.hygienic false in
theorem sz_div {N : Int} (h0 : 0 ≤ N) : ((Builtin.Int.intBits (3 * N + 1) : Int) - 1).fdiv 2 = (szN N : Int) := by
  have := bits_pos (b := 3 * N + 1) (by omega)
  unfold szN
  rw [Int.fdiv_eq_ediv_of_nonneg _ (by decide)]
  omega
set_option tactic.hygienic false in
theorem bits100 {x : Int} (h0 : 0 ≤ x) (h : x < 4 ^ 41) : Builtin.Int.intBits x ≤ 100 := by
  refine intBits_le_iff.mpr ?_
  have e1 : (4 : Int) ^ 41 = 4835703278458516698824704 := by decide
  have e2 : (2 : Nat) ^ 100 = 1267650600228229401496703205376 := by decide
  rw [e2]
  rw [e1] at h
  omega
theorem pow41 {n : Nat} (h : n ≤ 41) : (4 : Int) ^ n ≤ 4 ^ 41 := by
  have : (4 : Nat) ^ n ≤ 4 ^ 41 := Nat.pow_le_pow_right (by decide) h
  exact_mod_cast this
set_option tactic.hygienic false in
theorem tx_ok : FnOk 156 582 149 ltS := by
  refine (fnC_Y (n := 60) (fn := txF) (tab := none) (room := 0) hd_tx (Nat.zero_le _) (by decide) (fun _ h => nomatch h) txF_ok).plain.mono ?_
  rintro vs led K - - ⟨N, sg, rfl, h0, hs, hg, k⟩
  refine ⟨by simp [cV], ?_⟩
  obtain ⟨z1, z2⟩ := sz_ok h0
  obtain ⟨r1, r2⟩ := rest_ok h0
  have hil := i2d_len r1 r2
  have hmem := i2d_mem (n := 2) (by decide) r1
  have p1 := pow41 (n := szN N + 1) (by omega)
  have p2 := pow41 (n := szN N) (by omega)
  have hb1 := bits100 h0 (by omega)
  have hb2 : Builtin.Int.intBits (restN N) ≤ 500000 := Nat.le_trans (bits100 r1 (Int.lt_of_lt_of_le r2 p2)) (by decide)
  have hf : figs 2 (restN N) ≤ 100 := by
    rw [i2d_length] at hil
    have := figs_nn (n := 2) (x := restN N) (by decide)
    omega
  conv => whnf
  refine ⟨IntMulOk.of_le (m := 2) (n := 100) (by decide) hb1 (by decide), ?_⟩
  conv => whnf
  refine ⟨by decide, PyProof.noPylong_of_log2 (by decide), ?_⟩
  rw [sz_div h0]
  conv => whnf
  refine ⟨Int.natCast_nonneg _, by omega, by decide, ?_⟩
  rw [Int.toNat_natCast]
  conv => whnf
  refine ⟨by decide, PyProof.noPylong_of_log2 (by decide), ?_⟩
  rw [rep4_div]
  conv => whnf
  refine ⟨_, _, rfl, r1, hb2, by decide, by decide, hf, ?_⟩
  change K (.str ((i2d 2 (restN N) ++ List.replicate (szN N - (i2d 2 (restN N)).length) 0).map (sgn sg))) led at k
  change _ ≤ szN N at hil
  have e0 : N - rep4 (szN N) = restN N := rfl
  rw [e0]
  generalize i2d 2 (restN N) = fs at *
  generalize szN N = sz at *
  clear e0 hf hb2 hb1 p1 p2 r1 r2 z1 z2
  conv => whnf
  refine ⟨by kernel_rfl, ?_⟩
  conv => whnf
  refine ⟨by rw [List.length_map]; omega, fun ob => ?_⟩
  refine ⟨rfl, ?_⟩
  refine compP_st (f := txV sg) ?_ (fs.map .int) [] ?_ ?_ ?_
  · exact rfl
  · intro v hv acc K hacc k
    obtain ⟨d, hd, rfl⟩ := List.mem_map.mp hv
    have hacc : acc.length + 1 ≤ 100000 := hacc
    obtain ⟨d0, d1⟩ := hmem d hd
    have d1 : d < 4 := d1
    conv => whnf
    rw [show sg[d.toNat]? = some (sgn sg d) by unfold sgn; rw [List.getElem?_eq_getElem (show d.toNat < sg.length by omega)]; rfl]
    refine ⟨d0, by omega, ?_⟩
    conv => whnf
    exact ⟨by omega, k _⟩
  · rw [tx_flat, List.length_map, List.length_map]; show 0 + _ ≤ _; omega
  · rw [tx_flat]
    conv => whnf
    refine ⟨_, TrimC.stay, ?_⟩
    conv => whnf
    refine ⟨rfl, _, List.nil_append _, by rw [List.length_map]; omega, ?_, ?_⟩
    · intro w hw
      obtain ⟨c, hc, rfl⟩ := List.mem_map.mp hw
      exact Nat.le_of_ble_eq_true rfl
    rw [ones_flat]
    conv => whnf
    rw [show sg[Int.toNat 0]? = some (sgn sg 0) by unfold sgn; rw [List.getElem?_eq_getElem (show Int.toNat 0 < sg.length by rw [hg]; decide)]; rfl]
    refine ⟨Int.le_refl _, by decide, ?_⟩
    conv => whnf
    refine ⟨by rw [List.length_map]; omega, ?_⟩
    rw [List.length_map]
    conv => whnf
    refine ⟨mul_ok (c := sgn sg 0) (by omega) (by omega), ?_⟩
    rw [show (Txt.mul (strOf [sgn sg 0]) ((sz : Int) - (fs.length : Int))).cps.toList = List.replicate (sz - fs.length) (sgn sg 0) by
      show (Txt.mul ⟨#[sgn sg 0]⟩ _).cps.toList = _
      rw [mul_one _ _ (by omega), show ((sz : Int) - (fs.length : Int)).toNat = sz - fs.length by omega]]
    conv => whnf
    refine ⟨by rw [List.length_map, List.length_replicate]; omega, ?_⟩
    conv => whnf
    rw [List.map_append, List.map_replicate] at k
    exact ⟨True.intro, k⟩
end Mine
end
section
open PySem PySem.W PyProof.Rows PySem.Calls PyProof.V PySem.Spec
namespace Mine
set_option maxRecDepth 100000
set_option maxHeartbeats 8000000
set_option pp.deepTerms false
set_option pp.maxSteps 300
set_option tactic.hygienic false in
theorem hd_p257 : FnHd 137 [Str.ofString "resp"] := ⟨fun w => by kernel_rfl, fun w => by kernel_rfl, by decide +kernel, fun xs hl => by
  obtain ⟨a, rfl⟩ := len1 hl
  kernel_rfl⟩
noncomputable def p257S : Spec := fun vs led K => ∃ resp : List Nat, vs = [.str resp] ∧ resp.length ≤ 1000000 ∧ resp.take 3 = [50, 53, 55] ∧ K (.str (if (resp.drop 3).take 2 = [32, 34] then pf (resp.drop 5) else [])) led
theorem p257_loop {f : Nat} {resp : List Nat} (hl : resp.length ≤ 1000000) {K : Fl → Loc → Led → Prop} : ∀ (k i : Nat) (d : List Nat), resp.length ≤ i + k → d.length ≤ i → (∀ loc, loc.lookup (Str.ofString "dirname") = some (.str (d ++ pf (resp.drop i))) → K .next loc []) →
    whileP (run (f + 30)) (cxC 137 noF 0 none 0) 0 (whTest (stOf 137 5)) (whBody (stOf 137 5)) (k + 1) [(Str.ofString "resp", .str resp), (Str.ofString "dirname", .str d), (Str.ofString "i", .int (i : Int)), (Str.ofString "n", .int (resp.length : Int))] [] K := by
  intro k
  induction k with
  | zero =>
    intro i d h1 h2 q
    conv => whnf
    rw [decide_eq_false (show ¬ (i : Int) < (resp.length : Int) by omega)]
    conv => whnf
    refine q _ ?_
    rw [List.drop_of_length_le (by omega), pf_nil, List.append_nil]
    rfl
  | succ k ih =>
    intro i d h1 h2 q
    conv => whnf
    by_cases hi : i < resp.length
    · rw [decide_eq_true (show (i : Int) < (resp.length : Int) by omega)]
      conv => whnf
      have hc : resp[(i : Int).toNat]? = some (resp[i]) := List.getElem?_eq_getElem hi
      rw [hc]
      refine ⟨by omega, by omega, ?_⟩
      conv => whnf
      by_cases h3 : resp[i] = 34
      · rw [decide_eq_true (show [resp[i]] = (Str.ofString "\"").cps.toList by rw [h3]; rfl)]
        conv => whnf
        by_cases h4 : i + 1 < resp.length
        · rw [decide_eq_false (show ¬ (resp.length : Int) ≤ (i : Int) + 1 by omega)]
          conv => whnf
          have hc2 : resp[((i : Int) + 1).toNat]? = some (resp[i + 1]) := List.getElem?_eq_getElem h4
          rw [hc2]
          refine ⟨by omega, by omega, ?_⟩
          conv => whnf
          by_cases h5 : resp[i + 1] = 34
          · rw [decide_eq_true (show [resp[i + 1]] = (Str.ofString "\"").cps.toList by rw [h5]; rfl)]
            conv => whnf
            refine ⟨by show _ + 1 ≤ _; omega, ?_⟩
            conv => whnf
            refine ⟨_, _, Trim.cut (j := 4) rfl rfl True.intro, ?_⟩
            refine ih (i + 2) (d ++ [resp[i]]) (by omega) (by rw [List.length_append]; show _ + 1 ≤ _; omega) fun loc hloc => q loc (hloc.trans ?_)
            rw [drop_cons (List.getElem?_eq_getElem hi), drop_cons (List.getElem?_eq_getElem h4), h3, h5, pf_two, List.append_assoc]
            rfl
          · rw [decide_eq_false (show ¬ [resp[i + 1]] = (Str.ofString "\"").cps.toList from fun e => h5 (List.head_eq_of_cons_eq e))]
            conv => whnf
            refine q _ ?_
            rw [drop_cons (List.getElem?_eq_getElem hi), h3, pf_end (by rw [List.head?_drop, List.getElem?_eq_getElem h4]; exact fun e => h5 (Option.some.inj e)), List.append_nil]
            rfl
        · rw [decide_eq_true (show (resp.length : Int) ≤ (i : Int) + 1 by omega)]
          conv => whnf
          refine q _ ?_
          rw [drop_cons (List.getElem?_eq_getElem hi), h3, pf_end (by rw [List.head?_drop, List.getElem?_eq_none (by omega)]; exact fun e => nomatch e), List.append_nil]
          rfl
      · rw [decide_eq_false (show ¬ [resp[i]] = (Str.ofString "\"").cps.toList from fun e => h3 (List.head_eq_of_cons_eq e))]
        conv => whnf
        refine ⟨by show _ + 1 ≤ _; omega, ?_⟩
        conv => whnf
        refine ⟨_, _, Trim.cut (j := 4) rfl rfl True.intro, ?_⟩
        refine ih (i + 1) (d ++ [resp[i]]) (by omega) (by rw [List.length_append]; show _ + 1 ≤ _; omega) fun loc hloc => q loc (hloc.trans ?_)
        rw [drop_cons (List.getElem?_eq_getElem hi), pf_other h3, List.append_assoc]
        rfl
    · rw [decide_eq_false (show ¬ (i : Int) < (resp.length : Int) by omega)]
      conv => whnf
      refine q _ ?_
      rw [List.drop_of_length_le (by omega), pf_nil, List.append_nil]
      rfl
set_option tactic.hygienic false in
theorem p257_ok : FnOk 3 111 137 p257S := by
  refine (fnC_Y (n := 60) (fn := noF) (tab := none) hd_p257 (Nat.le_refl 0) (Nat.le_refl 100) (fun _ h => nomatch h) fun _ _ h => nomatch h).plain.mono ?_
  rintro vs led K - - ⟨resp, rfl, hl, h7, k⟩
  refine ⟨by simp [cV], ?_⟩
  conv => whnf
  refine ⟨by omega, ?_⟩
  conv => whnf
  rw [decide_eq_true (show (Txt.slice (strOf resp) none (some 3)).cps.toList = (Str.ofString "257").cps.toList from (sl_to resp 3).trans h7)]
  conv => whnf
  refine ⟨by omega, ?_⟩
  conv => whnf
  by_cases h2 : (resp.drop 3).take 2 = [32, 34]
  · rw [decide_eq_true (show (Txt.slice (strOf resp) (some 3) (some 5)).cps.toList = (Str.ofString " \"").cps.toList from (sl_at resp 3 5 (by decide)).trans h2)]
    conv => whnf
    refine ⟨by omega, ?_⟩
    conv => whnf
    refine ⟨resp.length + 1, ?_⟩
    rw [if_pos h2] at k
    refine p257_loop hl resp.length 5 [] (by omega) (by decide) fun loc hloc => ?_
    conv => whnf
    rw [show xname (cxC 137 noF 0 none ([] : Led).length) (Str.ofString "dirname") loc [] = _ from hloc]
    conv => whnf
    exact ⟨True.intro, k⟩
  · rw [decide_eq_false (show ¬ (Txt.slice (strOf resp) (some 3) (some 5)).cps.toList = (Str.ofString " \"").cps.toList from fun e => h2 ((sl_at resp 3 5 (by decide)).symm.trans e))]
    conv => whnf
    rw [if_neg h2] at k
    exact ⟨True.intro, k⟩
end Mine
end
section
open PySem PySem.W PyProof.Rows PySem.Calls PyProof.V PySem.Spec
namespace Mine
set_option maxRecDepth 100000
set_option maxHeartbeats 8000000
set_option pp.deepTerms false
set_option pp.maxSteps 600
noncomputable def rdF (q : Addr) : Option Spec := if @Eq Nat q 137 then some p257S else if @Eq Nat q 144 then some lexS else if @Eq Nat q 49 then some gtS else none
set_option tactic.hygienic false in
theorem rdF_ok : ∀ q sp, rdF q = some sp → FnOk 16 192 q sp ∧ ∀ w : World, (hd.heap_39 w.params).lookup q = some (fnObj q) := by
  intro q sp h
  unfold rdF at h
  by_cases h1 : @Eq Nat q 137
  · rw [if_pos h1] at h; injection h with h; subst h; subst h1; exact ⟨p257_ok.more (by decide) (by decide), hd_p257.ho⟩
  rw [if_neg h1] at h
  by_cases h2 : @Eq Nat q 144
  · rw [if_pos h2] at h; injection h with h; subst h; subst h2; exact ⟨lexer_ok.more (by decide) (by decide), hd_lexer.ho⟩
  rw [if_neg h2] at h
  by_cases h3 : @Eq Nat q 49
  · rw [if_pos h3] at h; injection h with h; subst h; subst h3; exact ⟨gt_ok, hd_gt.ho⟩
  rw [if_neg h3] at h
  cases h
set_option tactic.hygienic false in
theorem hd_rd : FnHd 161 [Str.ofString "front", Str.ofString "shut"] := ⟨fun w => by kernel_rfl, fun w => by kernel_rfl, by decide +kernel, fun xs hl => by
  obtain ⟨a, b, rfl⟩ := len2 hl
  kernel_rfl⟩
noncomputable def rdL (h : Nat) (t : List Nat) : List SV := if h = 0 then [.str (pf t)] else [.str (gqX t).1, .str (gqX t).2.1, .int (1 + ((gqX t).2.2.1 : Int))]
noncomputable def frontOf (h : Nat) : List Nat := if h = 0 then [50, 53, 55, 32, 34] else [34]
noncomputable def rdS : Spec := fun vs led K => ∃ (h : Nat) (t : List Nat), vs = [.str (frontOf h), .str t] ∧ t.length ≤ 10000 ∧ K (.loc led.length) (led ++ [.list (rdL h t)])
set_option tactic.hygienic false in
theorem rd_ok : FnOk 19 203 161 rdS := by
  refine (fnC_Y (n := 60) (fn := rdF) (tab := none) (room := 0) hd_rd (Nat.zero_le 16) (by decide) (fun _ h => nomatch h) rdF_ok).obj.mono ?_
  rintro vs led K - - ⟨h, t, rfl, hl, k⟩
  refine ⟨by simp [cV], ?_⟩
  by_cases h0 : h = 0
  · rw [show frontOf h = [50, 53, 55, 32, 34] from if_pos h0]
    rw [show rdL h t = [.str (pf t)] from if_pos h0] at k
    conv => whnf
    refine ⟨by show 5 + _ ≤ _; omega, ?_⟩
    conv => whnf
    refine ⟨_, rfl, by rw [List.length_append]; show 5 + _ ≤ _; omega, rfl, ?_⟩
    rw [show (if ((([50, 53, 55, 32, 34] : List Nat) ++ t).drop 3).take 2 = [32, 34] then pf ((([50, 53, 55, 32, 34] : List Nat) ++ t).drop 5) else []) = pf t from if_pos rfl]
    conv => whnf
    refine ⟨Nat.le_of_ble_eq_true rfl, ?_⟩
    conv => whnf
    exact ⟨_, _, rfl, rfl, by simp [plO, cV], k⟩
  · rw [show frontOf h = [34] from if_neg h0]
    rw [show rdL h t = [.str (gqX t).1, .str (gqX t).2.1, .int (1 + ((gqX t).2.2.1 : Int))] from if_neg h0] at k
    conv => whnf
    refine ⟨by show 1 + _ ≤ _; omega, ?_⟩
    conv => whnf
    refine ⟨Nat.le_of_ble_eq_true rfl, ?_⟩
    conv => whnf
    refine ⟨_, rfl, rfl, fun c c2 => ?_⟩
    conv => whnf
    refine ⟨by kernel_rfl, t, 1, c, c2, [], rfl, rfl, by omega, ?_⟩
    conv => whnf
    refine ⟨Int.le_refl _, by decide, ?_⟩
    conv => whnf
    refine ⟨rfl, ?_⟩
    conv => whnf
    refine ⟨Nat.le_of_ble_eq_true rfl, ?_⟩
    conv => whnf
    exact ⟨_, _, rfl, rfl, by simp [plO, cV], k⟩
end Mine
end
section
open PySem PySem.W PyProof.Rows PySem.Calls PyProof.V PySem.Spec
namespace Mine
set_option maxRecDepth 100000
set_option maxHeartbeats 8000000
set_option pp.deepTerms false
set_option pp.maxSteps 600
set_option tactic.hygienic false in
theorem pf_len : ∀ (n : Nat) (t : List Nat), t.length ≤ n → (pf t).length ≤ t.length
  | _, [], _ => by rw [pf_nil]; exact Nat.le_refl _
  | n + 1, c :: r, h => by
    rw [List.length_cons] at h
    rw [pf_cons]
    split
    · cases r with
      | nil => exact Nat.zero_le _
      | cons d r =>
        dsimp only
        split
        · have := pf_len n r (by rw [List.length_cons] at h; omega)
          simp only [List.length_cons]; omega
        · exact Nat.zero_le _
    · have := pf_len n r (by omega)
      simp only [List.length_cons]; omega
set_option tactic.hygienic false in
theorem gqX_len : ∀ (n : Nat) (t : List Nat), t.length ≤ n → (gqX t).1.length ≤ t.length
  | _, [], _ => Nat.le_refl _
  | n + 1, c :: r, h => by
    rw [List.length_cons] at h
    by_cases h9 : c = 92
    · subst h9
      cases r with
      | nil => exact Nat.zero_le _
      | cons d r =>
        rw [List.length_cons] at h
        have := gqX_len n r (by omega)
        rw [gqX1_esc]
        simp only [List.length_cons]; omega
    · by_cases h3 : c = 34
      · subst h3; exact Nat.zero_le _
      · have := gqX_len n r (by omega)
        rw [gqX1_other h3 h9]
        simp only [List.length_cons]; omega
set_option tactic.hygienic false in
theorem rdW_len (h : Nat) (t u : List Nat) : (rdW h t u).length ≤ t.length + 1 + u.length := by
  have e : (t ++ 34 :: u).length = t.length + 1 + u.length := by rw [List.length_append, List.length_cons]; omega
  unfold rdW
  split
  · have := pf_len _ (t ++ 34 :: u) (Nat.le_refl _)
    omega
  · have := gqX_len _ (t ++ 34 :: u) (Nat.le_refl _)
    omega
set_option tactic.hygienic false in
theorem hd_pa : FnHd 173 [Str.ofString "hand", Str.ofString "text", Str.ofString "tail"] := ⟨fun w => by kernel_rfl, fun w => by kernel_rfl, by decide +kernel, fun xs hl => by
  obtain ⟨a, b, c, rfl⟩ := len3 hl
  kernel_rfl⟩
noncomputable def paF (q : Addr) : Option Spec := if @Eq Nat q 161 then some rdS else if @Eq Nat q 154 then some wrS else none
set_option tactic.hygienic false in
theorem paF_ok : ∀ q sp, paF q = some sp → FnOk 19 203 q sp ∧ ∀ w : World, (hd.heap_39 w.params).lookup q = some (fnObj q) := by
  intro q sp h
  unfold paF at h
  by_cases h1 : @Eq Nat q 161
  · rw [if_pos h1] at h; injection h with h; subst h; subst h1; exact ⟨rd_ok, hd_rd.ho⟩
  rw [if_neg h1] at h
  by_cases h2 : @Eq Nat q 154
  · rw [if_pos h2] at h; injection h with h; subst h; subst h2; exact ⟨wr_ok.more (by decide) (by decide), hd_wr.ho⟩
  rw [if_neg h2] at h
  cases h
noncomputable def paLoc (h : Nat) (t u : List Nat) : Loc := [(Str.ofString "hand", .int (h : Int)), (Str.ofString "text", .str t), (Str.ofString "tail", .str u), (Str.ofString "seen", .loc 0)]
set_option tactic.hygienic false in
theorem last_at {S : List (List Nat)} {v : List Nat} (hS : S.getLast? = some v) : (S.map SV.str)[(S.map SV.str).length - 1]? = some (.str v) := by
  rw [List.length_map, List.getElem?_map]
  rw [List.getLast?_eq_getElem?] at hS
  rw [hS]; rfl
set_option tactic.hygienic false in
theorem mod2 (h i : Nat) : ((h : Int) + (i : Int)).fmod 2 = (((h + i) % 2 : Nat) : Int) := by
  rw [Int.fmod_eq_emod_of_nonneg _ (by decide)]
  omega
set_option tactic.hygienic false in
theorem cL_strs {n : Nat} : ∀ {l : List (List Nat)}, cL n (l.map SV.str)
  | _, v, hv => by
    obtain ⟨x, _, rfl⟩ := List.mem_map.mp hv
    exact True.intro
theorem pa_loop {f h : Nat} {t u : List Nat} (ht : t.length ≤ 1000) (hu : u.length ≤ 100) (hu2 : u.head? ≠ some 34) {K : Fl → Loc → Led → Prop} : ∀ (j i : Nat) (S : List (List Nat)) (v : List Nat), S.getLast? = some v → v.length ≤ 1000 → S.length + j ≤ 5000 →
    (∀ e g, K .next (paLoc h t u ++ e) ([SO.list ((S ++ chain j ((h + i) % 2) v).map .str)] ++ g)) →
    forP 1 (xBody (run (f + 40)) (cxC 173 paF 0 none 0) (forTgt (stOf 173 2)) (forBody (stOf 173 2))) (fun _ => True) ((List.range' i j).map fun (i : Nat) => SV.int (i : Int)) (paLoc h t u) [.list (S.map .str)] K := by
  intro j
  induction j with
  | zero =>
    intro i S v hS hv hj q
    have z := q [] []
    rw [show chain 0 ((h + i) % 2) v = [] from rfl, List.append_nil, List.append_nil, List.append_nil] at z
    exact z
  | succ j ih =>
    intro i S v hS hv hj q
    refine for_cons (v := .int (i : Int)) (vs := (List.range' (i + 1) j).map fun (i : Nat) => SV.int (i : Int)) ?_
    have hr := und_rd (h := (h + i) % 2) (t := v) hu2
    have hlw := rdW_len ((h + i) % 2) v u
    have hu9 : ∀ w, und ((h + i) % 2) v = some w → w.length ≤ v.length := fun w => und_len
    have hch : chain (j + 1) ((h + i) % 2) v = match und ((h + i) % 2) v with | none => [] | some w => w :: chain j ((h + (i + 1)) % 2) w := by
      rw [chain, show 1 - (h + i) % 2 = (h + (i + 1)) % 2 by omega]
      try (cases und ((h + i) % 2) v <;> rfl)
    rw [hch] at q
    clear hch
    have htn : (h + i) % 2 < 2 := Nat.mod_lt _ (by decide)
    have hla := last_at hS
    conv => whnf
    refine ⟨by decide, ?_⟩
    rw [mod2]
    generalize (h + i) % 2 = tn at *
    conv => whnf
    refine ⟨Nat.le_of_ble_eq_true rfl, ?_⟩
    conv => whnf
    rw [show [SV.str (Str.ofString "257 \"").cps.toList, SV.str (Str.ofString "\"").cps.toList][((tn : Nat) : Int).toNat]? = some (.str (frontOf tn)) by
      rcases (show tn = 0 ∨ tn = 1 by omega) with rfl | rfl <;> rfl]
    refine ⟨Int.natCast_nonneg _, by omega, ?_⟩
    conv => whnf
    rw [hla]
    refine ⟨rfl, ?_⟩
    conv => whnf
    refine ⟨by show v.length + 1 ≤ _; omega, ?_⟩
    conv => whnf
    refine ⟨by rw [List.length_append]; show v.length + 1 + _ ≤ _; omega, ?_⟩
    rw [show v ++ (Str.ofString "\"").cps.toList ++ u = v ++ 34 :: u from List.append_assoc v [34] u]
    conv => whnf
    refine ⟨tn, v ++ 34 :: u, rfl, by rw [List.length_append, List.length_cons]; omega, ?_⟩
    conv => whnf
    rw [show (rdL tn (v ++ 34 :: u))[Int.toNat 0]? = some (.str (rdW tn v u)) by
      unfold rdL rdW
      rcases (show tn = 0 ∨ tn = 1 by omega) with rfl | rfl <;> rfl]
    refine ⟨Int.le_refl _, by decide, ?_⟩
    generalize rdL tn (v ++ 34 :: u) = rl
    generalize rdW tn v u = w at *
    conv => whnf
    refine ⟨tn, w, rfl, by omega, ?_⟩
    conv => whnf
    rw [hla]
    refine ⟨rfl, ?_⟩
    conv => whnf
    cases hc : und tn v with
    | none =>
      rw [hc] at hr q
      rw [show decide (wrh tn w = v) = false from decide_eq_false hr]
      conv => whnf
      rw [List.append_nil] at q
      exact ⟨True.intro, q _ _⟩
    | some w2 =>
      rw [hc] at hr q
      obtain ⟨rfl, hr⟩ := hr
      rw [show decide (wrh tn w = v) = true from decide_eq_true hr]
      conv => whnf
      refine ⟨by rw [List.length_map]; omega, ?_⟩
      conv => whnf
      refine ⟨True.intro, _, _, Trim.cut (j := 4) rfl rfl ⟨cL_app cL_strs (cL_one True.intro), True.intro⟩, True.intro, ?_⟩
      have z := ih (i + 1) (S ++ [w]) w (by rw [List.getLast?_concat]) (by have := hu9 w hc; omega) (by rw [List.length_append]; show _ + 1 + _ ≤ _; omega) fun e g => by
        have z := q e g
        rw [List.append_assoc]
        exact z
      rw [List.map_append] at z
      exact z
set_option tactic.hygienic false in
theorem bare_iff (t : List Nat) : bare t = (!decide (34 ∈ t) && !decide (92 ∈ t)) := by
  unfold bare
  induction t with
  | nil => rfl
  | cons c r ih =>
    rw [List.all_cons, ih]
    by_cases h1 : c = 34
    · subst h1; simp
    · by_cases h2 : c = 92
      · subst h2; simp
      · have e1 : decide (34 ∈ c :: r) = decide (34 ∈ r) := by simp [Ne.symm h1]
        have e2 : decide (92 ∈ c :: r) = decide (92 ∈ r) := by simp [Ne.symm h2]
        rw [e1, e2, show (c == 34) = false from beq_false_of_ne h1, show (c == 92) = false from beq_false_of_ne h2]; rfl
noncomputable def paS : Spec := fun vs led K => ∃ (h : Nat) (t u : List Nat), vs = [.int (h : Int), .str t, .str u] ∧ (h = 0 ∨ h = 1) ∧ t.length ≤ 1000 ∧ u.length ≤ 100 ∧ u.head? ≠ some 34 ∧ K (.str (partner h t)) led
noncomputable def paL (h : Nat) (t u : List Nat) : Loc := [(Str.ofString "hand", .int (h : Int)), (Str.ofString "text", .str t), (Str.ofString "tail", .str u)]
theorem pa_s0 {f h : Nat} {t u : List Nat} {K : Fl → Loc → Led → Prop} (q1 : bare t = true → K (.ret (.str t)) (paL h t u) []) (q2 : bare t = false → K .next (paL h t u) []) : (run (f + 30)).ex (cxC 173 paF 0 none 0) (stOf 173 0) (paL h t u) [] K := by
  have hb := bare_iff t
  conv => whnf
  refine ⟨34, rfl, ?_⟩
  cases h34 : decide (34 ∈ t) with
  | false =>
    rw [h34] at hb
    conv => whnf
    refine ⟨92, rfl, ?_⟩
    cases h92 : decide (92 ∈ t) with
    | false =>
      rw [h92] at hb
      conv => whnf
      exact q1 hb
    | true =>
      rw [h92] at hb
      conv => whnf
      exact q2 hb
  | true =>
    rw [h34] at hb
    conv => whnf
    exact q2 hb
set_option tactic.hygienic false in
theorem pa_s3 {f h : Nat} {t u : List Nat} {C : List (List Nat)} {e : Loc} {g : Led} {K : Fl → Loc → Led → Prop} (hh : h = 0 ∨ h = 1) (ht : t.length ≤ 1000) (hC : C.length ≤ 5000) (q : ∀ loc led, K (.ret (.str (match C with | [] => wrh (1 - h) t | v :: vs => if vs.length % 2 = 0 then v else wrh (1 - h) t))) loc led) :
    (run (f + 30)).ex (cxC 173 paF 0 none 0) (stOf 173 3) (paLoc h t u ++ e) ([.list (([t] ++ C).map .str)] ++ g) K := by
  have h1 : (1 : Int) - (h : Int) = ((1 - h : Nat) : Int) := by omega
  conv => whnf
  refine ⟨by rw [List.length_map]; show C.length + 1 ≤ _; omega, ?_⟩
  rw [List.length_map]
  conv => whnf
  refine ⟨by decide, ?_⟩
  rw [show (([t] ++ C).length : Int).fmod 2 = (((C.length + 1) % 2 : Nat) : Int) by
    rw [Int.fmod_eq_emod_of_nonneg _ (by decide)]
    show ((C.length + 1 : Nat) : Int) % 2 = _
    omega]
  cases C with
  | nil =>
    conv => whnf
    rw [h1]
    refine ⟨1 - h, t, rfl, by omega, ?_⟩
    conv => whnf
    exact q _ _
  | cons v vs =>
    rw [List.length_cons] at hC ⊢
    by_cases hv : vs.length % 2 = 0
    · rw [show (vs.length + 1 + 1) % 2 = 0 by omega]
      dsimp only at q
      rw [if_pos hv] at q
      conv => whnf
      refine ⟨by decide, by decide, ?_⟩
      exact q _ _
    · rw [show (vs.length + 1 + 1) % 2 = 1 by omega]
      dsimp only at q
      rw [if_neg hv] at q
      conv => whnf
      rw [h1]
      refine ⟨1 - h, t, rfl, by omega, ?_⟩
      conv => whnf
      exact q _ _
set_option tactic.hygienic false in
theorem chain_len : ∀ (n h : Nat) (t : List Nat), (chain n h t).length ≤ n
  | 0, _, _ => Nat.le_refl _
  | n + 1, h, t => by
    unfold chain
    cases und h t with
    | none => exact Nat.zero_le _
    | some v =>
      have := chain_len n (1 - h) v
      show _ + 1 ≤ _
      omega
set_option tactic.hygienic false in
theorem pa_ok : FnOk 22 214 173 paS := by
  refine (fnC_Y (n := 60) (fn := paF) (tab := none) (room := 0) hd_pa (Nat.zero_le _) (by decide) (fun _ h => nomatch h) paF_ok).plain.mono ?_
  rintro vs led K - - ⟨h, t, u, rfl, hh, ht, hu, hu2, k⟩
  refine ⟨by simp [cV], ?_⟩
  unfold bodySpecC bodySpecR
  have hb : bodyOf 173 = [stOf 173 0, stOf 173 1, stOf 173 2, stOf 173 3] := by kernel_rfl
  have hbind : bindLoc (fdOf 173).scope [Str.ofString "hand", Str.ofString "text", Str.ofString "tail"] [.int (h : Int), .str t, .str u] = some (paL h t u) := by kernel_rfl
  rw [hbind, hb, show cellObjs [Str.ofString "hand", Str.ofString "text", Str.ofString "tail"] [.int (h : Int), .str t, .str u] (cellNs (fdOf 173).scope) = [] by kernel_rfl]
  unfold partner at k
  refine xs_cons (n := 59) (pa_s0 (f := 29) (fun e => ?_) fun e => ?_)
  · rw [e] at k
    exact ⟨True.intro, k⟩
  rw [e] at k
  refine xs_cons (n := 58) ?_
  conv => whnf
  refine ⟨Nat.le_of_ble_eq_true rfl, ?_⟩
  conv => whnf
  refine ⟨by omega, ?_⟩
  conv => whnf
  refine ⟨IntMulOk.of_le (m := 2) (n := 10) (by decide) (intBits_le_iff.mpr (by show t.length < 1024; omega)) (by decide), ?_⟩
  rw [show (2 : Int) * (t.length : Int) = ((2 * t.length : Nat) : Int) by push_cast; rfl]
  conv => whnf
  rw [show ((2 * t.length : Nat) : Int) + 2 = ((2 * t.length + 2 : Nat) : Int) by push_cast; rfl]
  refine ⟨Int.natCast_nonneg _, by omega, ?_⟩
  rw [rangeOf_from]
  have hm : (h + 0) % 2 = h := by omega
  refine pa_loop (f := 16) (t := t) ht hu hu2 (2 * t.length + 2) 0 [t] t rfl ht (by show 1 + _ ≤ _; omega) fun e g => ?_
  rw [hm]
  have hcl := chain_len (2 * t.length + 2) h t
  generalize chain (2 * t.length + 2) h t = C at *
  refine xs_cons (n := 56) (pa_s3 (f := 26) hh ht (by omega) fun loc led => ?_)
  exact ⟨True.intro, k⟩
end Mine
end
section
open PySem PySem.W PyProof.Rows PySem.Calls PyProof.V PySem.Spec
namespace Mine
set_option maxRecDepth 100000
set_option maxHeartbeats 8000000
set_option pp.deepTerms false
set_option pp.maxSteps 600
noncomputable abbrev U := Nat × List Nat
noncomputable def RowL (led : Led) : List Nat → List U → Prop
  | [], [] => True
  | j :: js, u :: us => led[j]? = some (.tup [.int (u.1 : Int), .str u.2]) ∧ RowL led js us
  | _, _ => False
noncomputable def Row (led : Led) (k : Nat) (us : List U) : Prop := ∃ js : List Nat, led[k]? = some (.list (js.map .loc)) ∧ RowL led js us
set_option tactic.hygienic false in
theorem RowL.length {led : Led} : ∀ {js : List Nat} {us : List U}, RowL led js us → js.length = us.length
  | [], [], _ => rfl
  | _ :: _, _ :: _, h => congrArg (· + 1) h.2.length
  | [], _ :: _, h => h.elim
  | _ :: _, [], h => h.elim
set_option tactic.hygienic false in
theorem RowL.conv {led led' : Led} (hg : ∀ (j : Nat) (u : U), led[j]? = some (.tup [.int (u.1 : Int), .str u.2]) → led'[j]? = some (.tup [.int (u.1 : Int), .str u.2])) : ∀ {js : List Nat} {us : List U}, RowL led js us → RowL led' js us
  | [], [], _ => trivial
  | _ :: _, _ :: _, h => ⟨hg _ _ h.1, RowL.conv hg h.2⟩
  | [], _ :: _, h => h.elim
  | _ :: _, [], h => h.elim
set_option tactic.hygienic false in
theorem RowL.app {led g : Led} {js : List Nat} {us : List U} (h : RowL led js us) : RowL (led ++ g) js us :=
  h.conv fun j u e => by rw [List.getElem?_append_left (ltOfL e)]; exact e
set_option tactic.hygienic false in
theorem RowL.put {led : Led} {k : Nat} {o' o : SO} {js : List Nat} {us : List U} (h : RowL led js us) (hk : led[k]? = some o') (ho : ∀ vs, o' ≠ .tup vs) : RowL (led.set k o) js us :=
  h.conv fun j u e => by
    have hne : k ≠ j := fun z => by
      subst z
      rw [hk] at e
      injection e with e
      exact ho _ e
    rw [List.getElem?_set_ne hne]; exact e
set_option tactic.hygienic false in
theorem RowL.snoc {led : Led} {j : Nat} {u : U} (hu : led[j]? = some (.tup [.int (u.1 : Int), .str u.2])) : ∀ {js : List Nat} {us : List U}, RowL led js us → RowL led (js ++ [j]) (us ++ [u])
  | [], [], _ => ⟨hu, trivial⟩
  | _ :: _, _ :: _, h => ⟨h.1, h.2.snoc hu⟩
  | [], _ :: _, h => h.elim
  | _ :: _, [], h => h.elim
set_option tactic.hygienic false in
theorem RowL.lt {led : Led} : ∀ {js : List Nat} {us : List U}, RowL led js us → ∀ j ∈ js, j < led.length
  | _ :: _, _ :: _, h, j, hj => by
    rcases List.mem_cons.mp hj with rfl | hj
    · exact ltOfL h.1
    · exact RowL.lt h.2 j hj
  | [], _, _, _, hj => nomatch hj
  | _ :: _, [], h, _, _ => h.elim
noncomputable def Closed (led : Led) : Prop := ∀ o ∈ led, cO led.length o
set_option tactic.hygienic false in
theorem Closed.app {led : Led} {o : SO} (h : Closed led) (ho : cO led.length o) : Closed (led ++ [o]) := fun p hp => by
  rw [List.length_append]
  rcases List.mem_append.mp hp with hp | hp
  · exact (h p hp).le (Nat.le_add_right _ _)
  · rw [List.mem_singleton.mp hp]; exact ho.le (Nat.le_add_right _ _)
set_option tactic.hygienic false in
theorem Closed.set {led : Led} {k : Nat} {o : SO} (h : Closed led) (ho : cO led.length o) : Closed (led.set k o) := fun p hp => by
  rw [List.length_set]
  rcases List.mem_or_eq_of_mem_set hp with hp | rfl
  · exact h p hp
  · exact ho
set_option tactic.hygienic false in
theorem cL_locs {n : Nat} {js : List Nat} (h : ∀ j ∈ js, j < n) : cL n (js.map .loc) := fun v hv => by
  obtain ⟨j, hj, rfl⟩ := List.mem_map.mp hv
  exact h j hj
set_option tactic.hygienic false in
theorem at_l {led : Led} {k : Nat} {o : SO} (h : led[k]? = some o) (g : Led) : (led ++ g)[k]? = some o := by rw [List.getElem?_append_left (ltOfL h)]; exact h
theorem set_back {led : Led} {k : Nat} {o x : SO} (h : led[k]? = some o) : (led.set k x).set k o = led := by
  rw [List.set_set]
  refine List.ext_getElem? fun j => ?_
  rw [List.getElem?_set]
  split
  · rename_i e; subst e; rw [if_pos (ltOfL h), h]
  · rfl
set_option tactic.hygienic false in
theorem hd_us : FnHd 180 [Str.ofString "text"] := ⟨fun w => by kernel_rfl, fun w => by kernel_rfl, by decide +kernel, fun xs hl => by
  obtain ⟨a, rfl⟩ := len1 hl
  kernel_rfl⟩
noncomputable def usLoc (t : List Nat) (k : Nat) : Loc := [(Str.ofString "text", .str t), (Str.ofString "count", .int (k : Int)), (Str.ofString "units", .loc 0)]
set_option tactic.hygienic false in
theorem ns_list {led : Led} {k : Nat} {vs : List SV} (h : led[k]? = some (.list vs)) : nsOf (.loc k) led = none := by unfold nsOf; dsimp only; rw [h]
set_option tactic.hygienic false in
theorem app_list {led : Led} {k : Nat} {vs : List SV} (h : led[k]? = some (.list vs)) : okMeth (.loc k) (Str.ofString "append") led = some "list.append" := by
  unfold okMeth
  dsimp only
  rw [h]
  exact if_pos rfl
structure UsSt (L : Led) (js : List Nat) (us : List U) : Prop where
  l : L[0]? = some (.list (js.map .loc))
  r : RowL L js us
  c : Closed L
theorem us_loop {f : Nat} {t : List Nat} {K : Fl → Loc → Led → Prop} : ∀ (r : List Nat) (k : Nat) (L : Led) (js : List Nat) (us : List U), UsSt L js us → us.length + r.length ≤ 1000 → k + r.length ≤ 1000 →
    (∀ k' L' js' us', UsSt L' js' us' → us'.length ≤ 1000 → k' ≤ 1000 → us' ++ [(k', [])] = us ++ unitsOf k r → K .next (usLoc t k') L') →
    forP 2 (xBody (run (f + 40)) (cxC 180 noF 0 none 0) (forTgt (stOf 180 1)) (forBody (stOf 180 1))) (fun _ => True) (r.map fun c => SV.str [c]) (usLoc t k) L K := by
  intro r
  induction r with
  | nil => exact fun k L js us H hl hk q => q k L js us H (by simpa using hl) (by simpa using hk) rfl
  | cons c r ih =>
    intro k L js us H hl hk q
    rw [List.length_cons] at hl hk
    refine for_cons (v := .str [c]) (vs := r.map fun c => SV.str [c]) ?_
    have hjl := H.r.length
    have hL := H.l
    by_cases h : c = 92
    · rw [show unitsOf k (c :: r) = unitsOf (k + 1) r from if_pos h] at q
      conv => whnf
      rw [decide_eq_true (show [c] = (Str.ofString "\\").cps.toList by rw [h]; rfl)]
      conv => whnf
      refine ⟨True.intro, L, usLoc t (k + 1), ⟨⟨3, rfl⟩, .inl rfl⟩, True.intro, ?_⟩
      exact ih (k + 1) L js us H (by omega) (by omega) q
    · rw [show unitsOf k (c :: r) = (k, [c]) :: unitsOf 0 r from if_neg h] at q
      conv => whnf
      rw [decide_eq_false (show ¬ [c] = (Str.ofString "\\").cps.toList from fun e => h (List.head_eq_of_cons_eq e))]
      conv => whnf
      rw [ns_list hL]
      conv => whnf
      rw [app_list hL]
      conv => whnf
      refine ⟨Nat.le_of_ble_eq_true rfl, ?_⟩
      conv => whnf
      rw [at_l hL]
      refine ⟨by rw [List.length_map]; omega, ?_⟩
      conv => whnf
      refine ⟨True.intro, _, usLoc t 0, ⟨⟨3, rfl⟩, .inl rfl⟩, True.intro, ?_⟩
      have hL1 := at_l hL [SO.tup [.int (k : Int), .str [c]]]
      have e1 : js.map SV.loc ++ [.loc L.length] = (js ++ [L.length]).map .loc := by rw [List.map_append]; rfl
      rw [e1]
      have hr1 : RowL (L ++ [SO.tup [.int (k : Int), .str [c]]]) (js ++ [L.length]) (us ++ [(k, [c])]) := H.r.app.snoc (by rw [List.getElem?_concat_length])
      have hc1 : Closed (L ++ [SO.tup [.int (k : Int), .str [c]]]) := H.c.app (by simp [cO, cL, cV])
      refine ih 0 _ (js ++ [L.length]) (us ++ [(k, [c])]) ⟨List.getElem?_set_self (ltOfL hL1), hr1.put hL1 (fun _ e => nomatch e), hc1.set (cL_locs hr1.lt)⟩ (by rw [List.length_append]; show _ + 1 + _ ≤ _; omega) (by omega) fun k' L' js' us' H' hl' hk' e => q k' L' js' us' H' hl' hk' ?_
      rw [e, List.append_assoc]; rfl
noncomputable def usS : Spec := fun vs led K => ∃ t : List Nat, vs = [.str t] ∧ t.length ≤ 500 ∧ led = [] ∧ ∀ L l, Row L l (unitsOf 0 t) → Closed L → K (.loc l) L
set_option tactic.hygienic false in
theorem us_ok : FnOk 3 111 180 usS := by
  refine (fnC_Y (n := 60) (fn := noF) (tab := none) (room := 0) hd_us (Nat.le_refl 0) (Nat.le_refl 100) (fun _ h => nomatch h) fun _ _ h => nomatch h).mono ?_
  rintro vs led K - - ⟨t, rfl, ht, rfl, q⟩
  unfold bodySpecC bodySpecR
  have hb : bodyOf 180 = [stOf 180 0, stOf 180 1, stOf 180 2] := by kernel_rfl
  have hbind : bindLoc (fdOf 180).scope [Str.ofString "text"] [.str t] = some [(Str.ofString "text", .str t)] := by kernel_rfl
  rw [hbind, hb, show cellObjs [Str.ofString "text"] [.str t] (cellNs (fdOf 180).scope) = [] by kernel_rfl]
  refine xs_cons (n := 59) ?_
  conv => whnf
  refine ⟨Nat.le_of_ble_eq_true rfl, ?_⟩
  conv => whnf
  refine ⟨Nat.le_of_ble_eq_true rfl, ?_⟩
  conv => whnf
  refine ⟨by kernel_rfl, ?_⟩
  conv => whnf
  refine ⟨by omega, ?_⟩
  refine us_loop (f := 17) t 0 [.list [], .tup [.loc 0, .int 0]] [] [] ⟨rfl, trivial, ?_⟩ (by show 0 + _ ≤ _; omega) (by omega) fun k' L' js' us' H hl hk e => ?_
  · intro o ho
    simp only [List.mem_cons, List.not_mem_nil, or_false] at ho
    rcases ho with rfl | rfl
    · exact fun v hv => nomatch hv
    · intro v hv
      simp only [List.mem_cons, List.not_mem_nil, or_false] at hv
      rcases hv with rfl | rfl
      · exact Nat.zero_lt_two
      · exact True.intro
  · have e : us' ++ [(k', [])] = unitsOf 0 t := e
    refine xs_cons (n := 57) ?_
    have hjl := H.r.length
    conv => whnf
    refine ⟨Nat.le_of_ble_eq_true rfl, ?_⟩
    conv => whnf
    refine ⟨Nat.le_of_ble_eq_true rfl, ?_⟩
    conv => whnf
    have hr1 : RowL (L' ++ [SO.tup [.int (k' : Int), .str []]]) (js' ++ [L'.length]) (us' ++ [(k', [])]) := H.r.app.snoc (by rw [List.getElem?_concat_length])
    have hc1 : Closed (L' ++ [SO.tup [.int (k' : Int), .str []]]) := H.c.app (by simp [cO, cL, cV])
    have hc2 : Closed (L' ++ [SO.tup [.int (k' : Int), .str []]] ++ [.list [.loc L'.length]]) := hc1.app (cL_one (by show L'.length < _; rw [List.length_append]; exact Nat.lt_succ_self _))
    have hr2 := hr1.app (g := [SO.list [.loc L'.length]])
    rw [e] at hr1 hr2
    rw [show (L' ++ [SO.tup [.int (k' : Int), .str (Str.ofString "").cps.toList]] ++ [SO.list [.loc L'.length]])[0]? = some (.list (js'.map .loc)) from at_l (at_l H.l _) _, List.getElem?_concat_length]
    refine ⟨by rw [List.length_map]; show _ + 1 ≤ _; omega, ?_⟩
    conv => whnf
    have z := q (L' ++ [SO.tup [.int (k' : Int), .str []]] ++ [.list [.loc L'.length]] ++ [.list ((js' ++ [L'.length]).map .loc)]) _ ⟨js' ++ [L'.length], List.getElem?_concat_length, hr2.app⟩ (hc2.app (o := .list _) (cL_locs hr2.lt))
    rw [List.map_append] at z
    exact z
end Mine
end
section
open PySem PySem.W PyProof.Rows PySem.Calls PyProof.V PySem.Spec
namespace Mine
set_option maxRecDepth 100000
set_option maxHeartbeats 8000000
set_option pp.deepTerms false
set_option pp.maxSteps 600
set_option tactic.hygienic false in
theorem hd_ft : FnHd 187 [Str.ofString "units", Str.ofString "depth", Str.ofString "size"] := ⟨fun w => by kernel_rfl, fun w => by kernel_rfl, by decide +kernel, fun xs hl => by
  obtain ⟨a, b, c, rfl⟩ := len3 hl
  kernel_rfl⟩
noncomputable def ftF (q : Addr) : Option Spec := if @Eq Nat q 105 then some dvS else none
set_option tactic.hygienic false in
theorem ftF_ok : ∀ q sp, ftF q = some sp → FnOk 162 604 q sp ∧ ∀ w : World, (hd.heap_39 w.params).lookup q = some (fnObj q) := by
  intro q sp h
  unfold ftF at h
  by_cases h1 : @Eq Nat q 105
  · rw [if_pos h1] at h; injection h with h; subst h; subst h1; exact ⟨dvs_ok, hd_dv.ho⟩
  rw [if_neg h1] at h
  cases h
set_option tactic.hygienic false in
theorem figs_le {n x : Int} (hn : 1 ≤ n) : figs n x ≤ Builtin.Int.intBits x := by
  unfold figs
  rw [Int.fdiv_eq_ediv_of_nonneg _ (by omega)]
  generalize Builtin.Int.intBits x = b
  cases b with
  | zero => rw [Int.ediv_eq_zero_of_lt (by omega) (by omega)]; exact Int.le_refl _
  | succ b =>
    refine Int.ediv_le_of_le_mul (by omega) ?_
    have := Int.mul_le_mul_of_nonneg_left hn (Int.natCast_nonneg b)
    push_cast
    rw [Int.add_mul]
    omega
set_option tactic.hygienic false in
theorem dv_facts {k : Int} {s : Nat} (h0 : 0 ≤ k) (h1 : k ≤ 1000) (hs : 1 ≤ s) (hs2 : s < 2 ^ 30) : Builtin.Int.intBits k ≤ 500000 ∧ 0 < (s : Int) ∧ Builtin.Int.intBits (s : Int) ≤ 4000 ∧ figs (Builtin.Int.intBits (s : Int)) k ≤ 100 := by
  have b1 : Builtin.Int.intBits k ≤ 10 := intBits_le_iff.mpr (by show _ < 1024; omega)
  have b2 : Builtin.Int.intBits (s : Int) ≤ 30 := intBits_le_iff.mpr hs2
  have b3 := bits_pos (b := (s : Int)) (by omega)
  have b4 := figs_le (n := Builtin.Int.intBits (s : Int)) (x := k) (by omega)
  exact ⟨by omega, by omega, by omega, by omega⟩
set_option tactic.hygienic false in
theorem xor_fin : ∀ p : Fin 1024, p.val = 0 ∨ Builtin.bitXor (p.val : Int) ((p.val : Int) - 1) = ((p.val ^^^ (p.val - 1) : Nat) : Int) := by decide +kernel
set_option tactic.hygienic false in
theorem fmodN (p q : Nat) : ((p : Nat) : Int).fmod ((q : Nat) : Int) = ((p % q : Nat) : Int) := by rw [Int.fmod_eq_emod_of_nonneg _ (Int.natCast_nonneg q)]; rfl
theorem neg_mod {k s : Nat} : (-1 - (k : Int)).fmod (s : Int) = 0 ↔ (k + 1) % s = 0 := by
  rw [Int.fmod_eq_emod_of_nonneg _ (Int.natCast_nonneg s), show -1 - (k : Int) = -((k + 1 : Nat) : Int) by push_cast; omega]
  refine ⟨fun h => ?_, fun h => ?_⟩
  · have := Int.dvd_neg.mp (Int.dvd_of_emod_eq_zero h)
    exact Nat.mod_eq_zero_of_dvd (Int.natCast_dvd_natCast.mp this)
  · exact Int.emod_eq_zero_of_dvd (Int.dvd_neg.mpr (Int.natCast_dvd_natCast.mpr (Nat.dvd_of_mod_eq_zero h)))
noncomputable def ftLoc (l d s p : Nat) : Loc := [(Str.ofString "units", .loc l), (Str.ofString "depth", .int (d : Int)), (Str.ofString "size", .int (s : Int)), (Str.ofString "place", .int (p : Int))]
theorem ft_loop {f b d s l : Nat} {ob : Obj} {led : Led} {K : Fl → Loc → Led → Prop} (hcl : Closed led) (hl : led[l]? = some (.frz ob)) (hd : d ≤ 20) (hs : 1 ≤ s) (hs2 : s < 2 ^ 30) : ∀ (us : List U) (js : List Nat) (p : Nat), RowL led js us → (∀ u ∈ us, u.1 ≤ 900) → p + us.length ≤ 1000 →
    (fitsN d s p us = true → ∀ p', K .next (ftLoc l d s p') led) → (fitsN d s p us = false → ∀ loc g, K (.ret (.bool false)) loc (led ++ g)) →
    forP led.length (xBody (run (f + 40)) (cxC 187 ftF 0 none b) (forTgt (stOf 187 1)) (forBody (stOf 187 1))) (fun led => led[l]? = some (.frz ob)) (js.map .loc) (ftLoc l d s p) led K := by
  intro us
  induction us with
  | nil =>
    intro js p hr _ _ q1 _
    cases js with
    | nil => exact q1 rfl p
    | cons _ _ => exact hr.elim
  | cons u us ih =>
    intro js p hr hu hp q1 q2
    cases js with
    | nil => exact hr.elim
    | cons j js =>
      obtain ⟨k, sg⟩ := u
      have hk := hu (k, sg) (.head _)
      have hk : k ≤ 900 := hk
      rw [List.length_cons] at hp
      refine for_cons (v := .loc j) (vs := js.map .loc) ?_
      have hj := hr.1
      have hj : led[j]? = some (.tup [.int (k : Int), .str sg]) := hj
      conv => whnf
      rw [hj]
      conv => whnf
      refine ⟨Int.natCast_nonneg _, by omega, by decide, ?_⟩
      rw [Int.toNat_natCast, show (2 : Int) ^ d = ((2 ^ d : Nat) : Int) by push_cast; rfl]
      have hpos : 0 < 2 ^ d := Nat.pow_pos (by decide)
      rw [fitsN] at q1 q2
      generalize 2 ^ d = D at *
      conv => whnf
      refine ⟨by omega, ?_⟩
      rw [fmodN]
      generalize hst : p % D = st at *
      conv => whnf
      have cut : ∀ p' : Nat, ∀ g : Led, ∀ e : Loc, ∀ K' : Fl → Loc → Led → Prop, forP led.length (xBody (run (f + 40)) (cxC 187 ftF 0 none b) (forTgt (stOf 187 1)) (forBody (stOf 187 1))) (fun led => led[l]? = some (.frz ob)) (js.map .loc) (ftLoc l d s p') led K' →
          ((led ++ g)[l]? = some (.frz ob) ∧ ∃ led₂ loc₂, Trim led.length (ftLoc l d s p' ++ e) (led ++ g) led₂ loc₂ ∧ led₂[l]? = some (.frz ob) ∧ forP led.length (xBody (run (f + 40)) (cxC 187 ftF 0 none b) (forTgt (stOf 187 1)) (forBody (stOf 187 1))) (fun led => led[l]? = some (.frz ob)) (js.map .loc) loc₂ led₂ K') := fun p' g e K' h =>
        ⟨at_l hl _, led, ftLoc l d s p', ⟨⟨4, rfl⟩, .inr ⟨by rw [List.length_append]; omega, by rw [List.take_left' rfl]; exact hcl, fun x hx => by
          simp only [ftLoc, List.mem_cons, List.not_mem_nil, or_false] at hx
          rcases hx with rfl | rfl | rfl | rfl
          · exact ltOfL hl
          · exact True.intro
          · exact True.intro
          · exact True.intro, (List.take_left' rfl).symm⟩⟩, hl, h⟩
      by_cases h : sg = [34]
      · rw [if_pos h] at q1 q2
        rw [decide_eq_true (show sg = (Str.ofString "\"").cps.toList from h)]
        conv => whnf
        by_cases h0 : st = 0
        · rw [decide_eq_true (show (st : Int) = 0 by omega)]
          obtain ⟨f1, f2, f3, f4⟩ := dv_facts (k := (k : Int)) (s := s) (by omega) (by omega) hs hs2
          have e9 : -(-1 - (k : Int)) - 1 = k := by omega
          conv => whnf
          refine .inr ⟨-1 - (k : Int), (s : Int), rfl, by omega, by rw [e9]; exact f1, f2, f3, by rw [e9]; exact f4, ?_⟩
          conv => whnf
          rw [List.getElem?_concat_length]
          refine ⟨by decide, by decide, ?_⟩
          conv => whnf
          by_cases hz : (k + 1) % s = 0
          · rw [show decide (if st = 0 then (k + 1) % s = 0 else k = p ^^^ (p - 1)) = true from decide_eq_true (by rw [if_pos h0]; exact hz)] at q1 q2
            rw [decide_eq_true (neg_mod.mpr hz)]
            conv => whnf
            rw [decide_eq_true (show sg = (Str.ofString "\"").cps.toList from h)]
            conv => whnf
            exact cut (p + 1) _ _ _ (ih js (p + 1) hr.2 (fun u hu' => hu u (.tail _ hu')) (by omega) q1 q2)
          · rw [show decide (if st = 0 then (k + 1) % s = 0 else k = p ^^^ (p - 1)) = false from decide_eq_false (by rw [if_pos h0]; exact hz)] at q1 q2
            rw [decide_eq_false (fun e => hz (neg_mod.mp e))]
            conv => whnf
            exact ⟨at_l hl _, q2 rfl _ _⟩
        · rw [decide_eq_false (show ¬ (st : Int) = 0 by omega)]
          have hp0 : p ≠ 0 := fun e => h0 (by rw [← hst, e, Nat.zero_mod])
          have hx := (xor_fin ⟨p, by omega⟩).resolve_left hp0
          conv => whnf
          rw [hx]
          dsimp only
          by_cases hz : k = p ^^^ (p - 1)
          · rw [show decide (if st = 0 then (k + 1) % s = 0 else k = p ^^^ (p - 1)) = true from decide_eq_true (by rw [if_neg h0]; exact hz)] at q1 q2
            generalize p ^^^ (p - 1) = x at *
            conv => whnf
            rw [decide_eq_true (show (k : Int) - (x : Int) = 0 by omega)]
            conv => whnf
            rw [decide_eq_true (show sg = (Str.ofString "\"").cps.toList from h)]
            conv => whnf
            have z := cut (p + 1) [] [(Str.ofString "count", .int (k : Int)), (Str.ofString "sign", .str sg), (Str.ofString "step", .int (st : Int)), (Str.ofString "lack", .int ((k : Int) - (x : Int)))] _ (ih js (p + 1) hr.2 (fun u hu' => hu u (.tail _ hu')) (by omega) q1 q2)
            rw [List.append_nil] at z
            exact z
          · rw [show decide (if st = 0 then (k + 1) % s = 0 else k = p ^^^ (p - 1)) = false from decide_eq_false (by rw [if_neg h0]; exact hz)] at q1 q2
            generalize p ^^^ (p - 1) = x at *
            conv => whnf
            rw [decide_eq_false (show ¬ (k : Int) - (x : Int) = 0 by omega)]
            conv => whnf
            have z := q2 rfl (ftLoc l d s p ++ [(Str.ofString "count", .int (k : Int)), (Str.ofString "sign", .str sg), (Str.ofString "step", .int (st : Int)), (Str.ofString "lack", .int ((k : Int) - (x : Int)))]) []
            rw [List.append_nil] at z
            exact ⟨hl, z⟩
      · rw [if_neg h] at q1 q2
        rw [decide_eq_false (show ¬ sg = (Str.ofString "\"").cps.toList from h)]
        obtain ⟨f1, f2, f3, f4⟩ := dv_facts (k := (k : Int)) (s := s) (by omega) (by omega) hs hs2
        conv => whnf
        refine .inl ⟨(k : Int), (s : Int), rfl, by omega, f1, f2, f3, f4, ?_⟩
        conv => whnf
        rw [List.getElem?_concat_length]
        refine ⟨by decide, by decide, ?_⟩
        rw [fmodN]
        by_cases hz : st + k % s = 0
        · rw [decide_eq_true hz] at q1 q2
          conv => whnf
          rw [decide_eq_true (show (st : Int) + ((k % s : Nat) : Int) = 0 by omega)]
          conv => whnf
          rw [decide_eq_false (show ¬ sg = (Str.ofString "\"").cps.toList from h)]
          conv => whnf
          exact cut 0 _ _ _ (ih js 0 hr.2 (fun u hu' => hu u (.tail _ hu')) (by omega) q1 q2)
        · rw [decide_eq_false hz] at q1 q2
          conv => whnf
          rw [decide_eq_false (show ¬ (st : Int) + ((k % s : Nat) : Int) = 0 by omega)]
          conv => whnf
          exact ⟨at_l hl _, q2 rfl _ _⟩
set_option tactic.hygienic false in
theorem cit_list {cx : Cx} {x : Str} {p : Pos} {loc : Loc} {led : Led} {l : Nat} {vs : List SV} (hl : led[l]? = some (.list vs)) (hx : xname cx x loc led = some (.loc l)) : citOf cx (.Name x p) loc led = none := by
  unfold citOf
  dsimp only
  split
  · rw [hx]
    dsimp only
    rw [hl]
  · rfl
noncomputable def ftS : Spec := fun vs led K => ∃ (l d s : Nat) (us : List U), vs = [.loc l, .int (d : Int), .int (s : Int)] ∧ d ≤ 20 ∧ 1 ≤ s ∧ s < 2 ^ 30 ∧ Row led l us ∧ (∀ u ∈ us, u.1 ≤ 900) ∧ us.length ≤ 900 ∧ K (.bool (fitsN d s 0 us)) led
set_option tactic.hygienic false in
theorem ft_ok : FnOk 165 615 187 ftS := by
  refine (fnC_Y (n := 60) (fn := ftF) (tab := none) (room := 0) hd_ft (Nat.zero_le _) (by decide) (fun _ h => nomatch h) ftF_ok).tidy.mono ?_
  rintro vs led K hled - ⟨l, d, s, us, rfl, hd, hs, hs2, ⟨js, hl, hr⟩, hu, hul, k⟩
  unfold bodySpecC bodySpecR
  have hb : bodyOf 187 = [stOf 187 0, stOf 187 1, stOf 187 2] := by kernel_rfl
  have hbind : bindLoc (fdOf 187).scope [Str.ofString "units", Str.ofString "depth", Str.ofString "size"] [.loc l, .int (d : Int), .int (s : Int)] = some [(Str.ofString "units", .loc l), (Str.ofString "depth", .int (d : Int)), (Str.ofString "size", .int (s : Int))] := by kernel_rfl
  rw [hbind, hb, show cellObjs [Str.ofString "units", Str.ofString "depth", Str.ofString "size"] [.loc l, .int (d : Int), .int (s : Int)] (cellNs (fdOf 187).scope) = [] by kernel_rfl, List.append_nil]
  have hjl := hr.length
  have fin : ∀ g : Led, Tidy led.length (.bool (fitsN d s 0 us)) (led ++ g) (.bool (fitsN d s 0 us)) led := fun g => .inr ⟨by rw [List.length_append]; omega, by rw [List.take_left' rfl]; exact hled, .inl ⟨True.intro, rfl, by rw [List.take_left' rfl]⟩⟩
  refine xs_cons (n := 59) ?_
  conv => whnf
  rw [cit_list (hl := hl) (hx := ?hx)]
  case hx => kernel_rfl
  conv => whnf
  rw [hl]
  refine ⟨by rw [List.length_map]; omega, fun ob => ?_⟩
  have hl9 : (led.set l (.frz ob))[l]? = some (.frz ob) := List.getElem?_set_self (ltOfL hl)
  refine ft_loop (f := 17) (led := led.set l (.frz ob)) (Closed.set (led := led) hled True.intro) hl9 hd hs hs2 us js 0 (hr.put hl (fun _ e => nomatch e)) hu (by omega) (fun e p' => ?_) fun e loc g => ?_
  · rw [e] at k fin
    rw [show ((fun l_1 : Led => List.set l_1 l (SO.list (js.map SV.loc))) (led.set l (.frz ob))) = led from set_back hl]
    refine xs_cons (n := 57) ?_
    conv => whnf
    have z := fin []
    rw [List.append_nil] at z
    exact ⟨_, _, z, k⟩
  · rw [e] at k fin
    rw [show ((fun l_1 : Led => List.set l_1 l (SO.list (js.map SV.loc))) (led.set l (.frz ob) ++ g)) = led ++ g by
      show List.set (led.set l (.frz ob) ++ g) l _ = _
      rw [List.set_append_left _ _ (by rw [List.length_set]; exact ltOfL hl), set_back hl]]
    conv => whnf
    exact ⟨_, _, fin g, k⟩
end Mine
end
section
open PySem PySem.W PyProof.Rows PySem.Calls PyProof.V PySem.Spec
namespace Mine
set_option maxRecDepth 100000
set_option maxHeartbeats 8000000
set_option pp.deepTerms false
set_option pp.maxSteps 600
set_option tactic.hygienic false in
theorem hd_to : FnHd 192 [Str.ofString "text"] := ⟨fun w => by kernel_rfl, fun w => by kernel_rfl, by decide +kernel, fun xs hl => by
  obtain ⟨a, rfl⟩ := len1 hl
  kernel_rfl⟩
noncomputable def toF (q : Addr) : Option Spec := if @Eq Nat q 180 then some usS else if @Eq Nat q 187 then some ftS else if @Eq Nat q 154 then some wrS else if @Eq Nat q 105 then some dvS else none
set_option tactic.hygienic false in
theorem toF_ok : ∀ q sp, toF q = some sp → FnOk 165 615 q sp ∧ ∀ w : World, (hd.heap_39 w.params).lookup q = some (fnObj q) := by
  intro q sp h
  unfold toF at h
  by_cases h1 : @Eq Nat q 180
  · rw [if_pos h1] at h; injection h with h; subst h; subst h1; exact ⟨us_ok.more (by decide) (by decide), hd_us.ho⟩
  rw [if_neg h1] at h
  by_cases h2 : @Eq Nat q 187
  · rw [if_pos h2] at h; injection h with h; subst h; subst h2; exact ⟨ft_ok, hd_ft.ho⟩
  rw [if_neg h2] at h
  by_cases h3 : @Eq Nat q 154
  · rw [if_pos h3] at h; injection h with h; subst h; subst h3; exact ⟨wr_ok.more (by decide) (by decide), hd_wr.ho⟩
  rw [if_neg h3] at h
  by_cases h4 : @Eq Nat q 105
  · rw [if_pos h4] at h; injection h with h; subst h; subst h4; exact ⟨dvs_ok.more (by decide) (by decide), hd_dv.ho⟩
  rw [if_neg h4] at h
  cases h
set_option tactic.hygienic false in
theorem units_ok : ∀ (t : List Nat) (k : Nat), (unitsOf k t).length ≤ t.length + 1 ∧ ∀ u ∈ unitsOf k t, u.1 ≤ k + t.length ∧ u.2.length ≤ 1
  | [], k => ⟨Nat.le_refl _, fun u hu => by rw [List.mem_singleton.mp hu]; exact ⟨Nat.le_refl _, Nat.zero_le _⟩⟩
  | c :: r, k => by
    unfold unitsOf
    split
    · obtain ⟨h1, h2⟩ := units_ok r (k + 1)
      rw [List.length_cons]
      exact ⟨by omega, fun u hu => ⟨by have := (h2 u hu).1; omega, (h2 u hu).2⟩⟩
    · obtain ⟨h1, h2⟩ := units_ok r 0
      rw [List.length_cons, List.length_cons]
      refine ⟨by omega, fun u hu => ?_⟩
      rcases List.mem_cons.mp hu with rfl | hu
      · exact ⟨Nat.le_add_right _ _, Nat.le_refl _⟩
      · exact ⟨by have := (h2 u hu).1; omega, (h2 u hu).2⟩
noncomputable def toL (t : List Nat) (l : Nat) : Loc := [(Str.ofString "text", .str t), (Str.ofString "units", .loc l)]
noncomputable def toM (t : List Nat) (l m : Nat) : Loc := [(Str.ofString "text", .str t), (Str.ofString "units", .loc l), (Str.ofString "layers", .int (m : Int))]
structure ToSt (L : Led) (l : Nat) (us : List U) : Prop where
  r : Row L l us
  c : Closed L
  u : ∀ u ∈ us, u.1 ≤ 180 ∧ u.2.length ≤ 1
  n : us.length ≤ 180
theorem to_turn {f l i : Nat} {t : List Nat} {us : List U} {e : Loc} {L : Led} {K : Fl → Loc → Led → Prop} (H : ToSt L l us) (hi : i < 40) (he : e = [] ∨ ∃ z, e = [(Str.ofString "layers", .int z)])
    (q1 : fitsN ((i + 1) / 2) (2 ^ (i / 2 + 1)) 0 us = true → K .next (toM t l i) L) (q2 : fitsN ((i + 1) / 2) (2 ^ (i / 2 + 1)) 0 us = false → K .brk (toM t l i) L) :
    xBody (run (f + 40)) (cxC 192 toF 0 none 0) (forTgt (stOf 192 2)) (forBody (stOf 192 2)) (.int (i : Int)) (toL t l ++ e) L K := by
  have hs : 2 ^ (i / 2 + 1) < 2 ^ 30 := Nat.pow_lt_pow_right (by decide) (by omega)
  have hs1 : 1 ≤ 2 ^ (i / 2 + 1) := Nat.one_le_two_pow
  have e1 : ((i : Int) + 1).fdiv 2 = (((i + 1) / 2 : Nat) : Int) := by rw [Int.fdiv_eq_ediv_of_nonneg _ (by decide)]; omega
  have e2 : (i : Int).fdiv 2 = ((i / 2 : Nat) : Int) := by rw [Int.fdiv_eq_ediv_of_nonneg _ (by decide)]; omega
  have main : setL (Str.ofString "layers") (.int (i : Int)) (toL t l ++ e) = toM t l i := by
    rcases he with rfl | ⟨z, rfl⟩ <;> rfl
  show xTarget _ _ _ _ _ _
  generalize toL t l ++ e = loc0 at *
  conv => whnf
  rw [main]
  clear main he
  conv => whnf
  refine ⟨by decide, PyProof.noPylong_of_log2 (by decide), ?_⟩
  rw [e1]
  conv => whnf
  refine ⟨by decide, PyProof.noPylong_of_log2 (by decide), ?_⟩
  rw [e2]
  conv => whnf
  rw [show ((i / 2 : Nat) : Int) + 1 = ((i / 2 + 1 : Nat) : Int) by push_cast; rfl]
  refine ⟨Int.natCast_nonneg _, by omega, by decide, ?_⟩
  rw [Int.toNat_natCast, show (2 : Int) ^ (i / 2 + 1) = ((2 ^ (i / 2 + 1) : Nat) : Int) by push_cast; rfl]
  generalize 2 ^ (i / 2 + 1) = s at *
  have hn := H.n
  conv => whnf
  refine ⟨l, (i + 1) / 2, s, us, rfl, by omega, hs1, hs, H.r, fun u hu => by have := (H.u u hu).1; omega, by omega, ?_⟩
  cases hf : fitsN ((i + 1) / 2) s 0 us with
  | true =>
    conv => whnf
    exact q1 hf
  | false =>
    conv => whnf
    exact q2 hf
theorem to_loop {f l : Nat} {t : List Nat} {us : List U} {L : Led} {K : Fl → Loc → Led → Prop} (H : ToSt L l us) : ∀ (j i : Nat) (e : Loc), i + j = 40 → (i = 0 ∧ e = [] ∨ ∃ p, i = p + 1 ∧ e = [(Str.ofString "layers", .int (p : Int))]) →
    (∀ m, m = layersN us j i → K .next (toM t l m) L) →
    forP L.length (xBody (run (f + 40)) (cxC 192 toF 0 none 0) (forTgt (stOf 192 2)) (forBody (stOf 192 2))) (fun _ => True) ((List.range' i j).map fun (i : Nat) => SV.int (i : Int)) (toL t l ++ e) L K := by
  intro j
  induction j with
  | zero =>
    intro i e hij he q
    rcases he with ⟨h0, -⟩ | ⟨p, rfl, rfl⟩
    · omega
    · exact q p rfl
  | succ j ih =>
    intro i e hij he q
    refine for_cons (v := .int (i : Int)) (vs := (List.range' (i + 1) j).map fun (i : Nat) => SV.int (i : Int)) ?_
    rw [show layersN us (j + 1) i = match fitsN ((i + 1) / 2) (2 ^ (i / 2 + 1)) 0 us with | true => layersN us j (i + 1) | false => i from rfl] at q
    refine to_turn (f := f) H (by omega) (he.imp (fun h => h.2) fun ⟨p, _, h⟩ => ⟨_, h⟩) (fun h => ?_) fun h => ?_
    · rw [h] at q
      exact ⟨True.intro, L, toM t l i, ⟨⟨3, rfl⟩, .inl rfl⟩, True.intro, ih (i + 1) [(Str.ofString "layers", .int (i : Int))] (by omega) (.inr ⟨i, rfl, rfl⟩) q⟩
    · rw [h] at q
      exact ⟨True.intro, q i rfl⟩
theorem to_s0 {f : Nat} {t : List Nat} {K : Fl → Loc → Led → Prop} (q1 : bare t = true → K (.ret (.str t)) [(Str.ofString "text", .str t)] []) (q2 : bare t = false → K .next [(Str.ofString "text", .str t)] []) : (run (f + 30)).ex (cxC 192 toF 0 none 0) (stOf 192 0) [(Str.ofString "text", .str t)] [] K := by
  have hb := bare_iff t
  conv => whnf
  refine ⟨34, rfl, ?_⟩
  cases h34 : decide (34 ∈ t) with
  | false =>
    rw [h34] at hb
    conv => whnf
    refine ⟨92, rfl, ?_⟩
    cases h92 : decide (92 ∈ t) with
    | false =>
      rw [h92] at hb
      conv => whnf
      exact q1 hb
    | true =>
      rw [h92] at hb
      conv => whnf
      exact q2 hb
  | true =>
    rw [h34] at hb
    conv => whnf
    exact q2 hb
noncomputable def haF (led : Led) : SV → List SV
  | .loc j => match led[j]? with
    | some (.tup [.int c, .str s]) => [.str (List.replicate (c.toNat / 2) 92 ++ s)]
    | _ => []
  | _ => []
set_option tactic.hygienic false in
theorem haF_flat {led : Led} : ∀ {js : List Nat} {us : List U}, RowL led js us → (js.map SV.loc).flatMap (haF led) = (us.map fun u => List.replicate (u.1 / 2) 92 ++ u.2).map .str
  | [], [], _ => rfl
  | j :: js, u :: us, h => by
    rw [List.map_cons, List.flatMap_cons, haF_flat h.2]
    rw [show haF led (.loc j) = [.str (List.replicate (u.1 / 2) 92 ++ u.2)] by
      show (match led[j]? with | some (.tup [.int c, .str s]) => _ | _ => _) = _
      rw [h.1]; rfl]
    rfl
  | [], _ :: _, h => h.elim
  | _ :: _, [], h => h.elim
set_option tactic.hygienic false in
theorem RowL.get {led : Led} : ∀ {js : List Nat} {us : List U} {j : Nat}, RowL led js us → j ∈ js → ∃ u ∈ us, led[j]? = some (.tup [.int (u.1 : Int), .str u.2])
  | j :: js, u :: us, k, h, hk => by
    rcases List.mem_cons.mp hk with rfl | hk
    · exact ⟨u, .head _, h.1⟩
    · obtain ⟨v, hv, e⟩ := RowL.get h.2 hk
      exact ⟨v, .tail _ hv, e⟩
  | [], _, _, _, hk => nomatch hk
  | _ :: _, [], _, h, _ => h.elim
set_option tactic.hygienic false in
theorem compP_gr {tn : Nat} {turn : SV → Loc → List SV → Led → KC → Prop} {keep : Led → Prop} {led : Led} {K : KC} {f : SV → List SV} (kp : ∀ g, keep (led ++ g)) :
    ∀ (items acc : List SV) (g : Led), (∀ v ∈ items, ∀ (acc : List SV) (g : Led) (K : KC), acc.length + (f v).length ≤ 100000 → (∀ e g', K e (acc ++ f v) (led ++ g ++ g')) → turn v [] acc (led ++ g) K) → acc.length + (items.flatMap f).length ≤ 100000 → (∀ g, K [] (acc ++ items.flatMap f) (led ++ g)) → compP tn turn keep items [] acc (led ++ g) K
  | [], acc, g, _, _, k => by
    have z := k g
    rw [List.flatMap_nil, List.append_nil] at z
    exact z
  | v :: vs, acc, g, ht, hl, k => by
    rw [List.flatMap_cons] at k hl
    rw [List.length_append] at hl
    refine ht v (.head _) acc g _ (by omega) fun e g' => ?_
    rw [List.append_assoc]
    exact ⟨kp _, led ++ (g ++ g'), [], ⟨⟨0, rfl⟩, .inl rfl⟩, kp _, compP_gr kp vs (acc ++ f v) (g ++ g') (fun w hw => ht w (.tail _ hw)) (by rw [List.length_append]; omega) (fun g => by rw [List.append_assoc]; exact k g)⟩
set_option tactic.hygienic false in
theorem to_s4 {f l m : Nat} {t : List Nat} {us : List U} {L : Led} {K : Fl → Loc → Led → Prop} (H : ToSt L l us) (q : ∀ loc led, K (.ret (.str (halves us))) loc led) :
    (run (f + 40)).ex (cxC 192 toF 0 none 0) (stOf 192 4) (toM t l m) L K := by
  obtain ⟨⟨js, hl, hr⟩, hc, hu, hn⟩ := H
  have hjl := hr.length
  conv => whnf
  refine ⟨by kernel_rfl, ?_⟩
  conv => whnf
  rw [hl]
  refine ⟨by rw [List.length_map]; omega, fun ob => ?_⟩
  have hl9 : (L.set l (.frz ob))[l]? = some (.frz ob) := List.getElem?_set_self (ltOfL hl)
  have hr9 := hr.put (o := .frz ob) hl (fun _ e => nomatch e)
  have hc9 : Closed (L.set l (.frz ob)) := hc.set True.intro
  have hf := haF_flat hr9
  generalize hA : L.set l (.frz ob) = A at *
  refine ⟨at_l hl9 _, ?_⟩
  refine compP_gr (led := A) (f := haF A) (fun g => at_l hl9 g) (js.map .loc) [] _ ?_ ?_ ?_
  · intro v hv acc g K hacc q
    obtain ⟨j, hj, rfl⟩ := List.mem_map.mp hv
    obtain ⟨u, hu9, he⟩ := hr9.get hj
    obtain ⟨k, sg⟩ := u
    obtain ⟨b1, b2⟩ := hu (k, sg) hu9
    have b1 : k ≤ 180 := b1
    have b2 : sg.length ≤ 1 := b2
    rw [show haF A (.loc j) = [.str (List.replicate (k / 2) 92 ++ sg)] by
      show (match A[j]? with | some (.tup [.int c, .str s]) => _ | _ => _) = _
      rw [he]; rfl] at q hacc
    have hacc : acc.length + 1 ≤ 100000 := hacc
    have he := at_l he g
    generalize A ++ g = B at *
    obtain ⟨f1, f2, f3, f4⟩ := dv_facts (k := (k : Int)) (s := 2) (by omega) (by omega) (by decide) (by decide)
    have e9 : -(-1 - (k : Int)) - 1 = k := by omega
    have e8 : -1 - (-1 - (k : Int)).fdiv 2 = ((k / 2 : Nat) : Int) := by rw [Int.fdiv_eq_ediv_of_nonneg _ (by decide)]; omega
    conv => whnf
    rw [he]
    conv => whnf
    refine .inr ⟨-1 - (k : Int), 2, rfl, by omega, by rw [e9]; exact f1, f2, f3, by rw [e9]; exact f4, ?_⟩
    conv => whnf
    rw [List.getElem?_concat_length]
    refine ⟨by decide, by decide, ?_⟩
    conv => whnf
    rw [e8]
    refine ⟨mul_ok (c := 92) (Int.natCast_nonneg _) (by omega), ?_⟩
    rw [show (Txt.mul (strOf (Str.ofString "\\").cps.toList) ((k / 2 : Nat) : Int)).cps.toList = List.replicate (k / 2) 92 by
      show (Txt.mul ⟨#[92]⟩ ((k / 2 : Nat) : Int)).cps.toList = _
      rw [mul_one _ _ (Int.natCast_nonneg _), Int.toNat_natCast]]
    conv => whnf
    refine ⟨by rw [List.length_replicate]; omega, ?_⟩
    conv => whnf
    exact ⟨by omega, q _ _⟩
  · rw [hf, List.length_map, List.length_map]; show 0 + _ ≤ _; omega
  · intro g
    rw [hf]
    conv => whnf
    refine ⟨_, TrimC.stay, ?_⟩
    conv => whnf
    rw [List.getElem?_concat_length]
    refine ⟨rfl, _, List.nil_append _, by rw [List.length_map]; omega, ?_, ?_⟩
    · intro w hw
      obtain ⟨u, hu9, rfl⟩ := List.mem_map.mp hw
      have := hu u hu9
      rw [List.length_append, List.length_replicate]; omega
    rw [← List.flatMap_def]
    conv => whnf
    exact q _ _
noncomputable def toS : Spec := fun vs led K => ∃ t : List Nat, vs = [.str t] ∧ t.length ≤ 150 ∧ K (.str (toldN t)) led
theorem to_ok : FnOk 168 626 192 toS := by
  refine (fnC_Y (n := 60) (fn := toF) (tab := none) (room := 0) hd_to (Nat.zero_le _) (by decide) (fun _ h => nomatch h) toF_ok).plain.mono ?_
  rintro vs led K - - ⟨t, rfl, ht, k⟩
  refine ⟨by simp [cV], ?_⟩
  unfold bodySpecC bodySpecR
  have hb : bodyOf 192 = [stOf 192 0, stOf 192 1, stOf 192 2, stOf 192 3, stOf 192 4] := by kernel_rfl
  have hbind : bindLoc (fdOf 192).scope [Str.ofString "text"] [.str t] = some [(Str.ofString "text", .str t)] := by kernel_rfl
  rw [hbind, hb, show cellObjs [Str.ofString "text"] [.str t] (cellNs (fdOf 192).scope) = [] by kernel_rfl]
  obtain ⟨n1, n2⟩ := units_ok t 0
  unfold toldN at k
  refine xs_cons (n := 59) (to_s0 (f := 29) (fun e => ?_) fun e => ?_)
  · rw [e] at k
    exact ⟨True.intro, k⟩
  rw [e] at k
  dsimp only at k
  refine xs_cons (n := 58) ?_
  conv => whnf
  refine ⟨t, rfl, by omega, rfl, fun L l hr hc => ?_⟩
  have H : ToSt L l (unitsOf 0 t) := ⟨hr, hc, fun u hu => ⟨by have := (n2 u hu).1; omega, (n2 u hu).2⟩, by omega⟩
  generalize unitsOf 0 t = us at *
  refine xs_cons (n := 57) ?_
  have fin : ∀ m : Nat, m = layersN us 40 0 → (run 57).xs (cxC 192 toF 0 none 0) [stOf 192 3, stOf 192 4] (toM t l m) L (bodyK fun v _ => cV 0 v ∧ K v led) := by
    intro m hm
    rw [← hm] at k
    refine xs_cons (n := 56) ?_
    conv => whnf
    refine ⟨by decide, ?_⟩
    rw [show (m : Int).fmod 2 = ((m % 2 : Nat) : Int) from fmodN m 2]
    by_cases h2 : m % 2 = 0
    · rw [if_pos h2] at k
      rw [h2]
      conv => whnf
      refine ⟨0, t, rfl, by omega, ?_⟩
      conv => whnf
      exact ⟨True.intro, k⟩
    · rw [if_neg h2] at k
      rw [show m % 2 = 1 by omega]
      conv => whnf
      refine to_s4 (f := 15) (m := m) H fun loc led2 => ?_
      exact ⟨True.intro, k⟩
  have z := to_loop (f := 16) (t := t) (L := L) (K := fun f loc led2 => match f with
    | .next => (run 57).xs (cxC 192 toF 0 none 0) [stOf 192 3, stOf 192 4] loc led2 (bodyK fun v _ => cV 0 v ∧ K v led)
    | .ret v => bodyK (fun v _ => cV 0 v ∧ K v led) (.ret v) loc led2
    | .brk => bodyK (fun v _ => cV 0 v ∧ K v led) .brk loc led2
    | .cont => bodyK (fun v _ => cV 0 v ∧ K v led) .cont loc led2) H 40 0 [] rfl (.inl ⟨rfl, rfl⟩) fun m hm => fin m hm
  rw [← rangeOf_from] at z
  conv => whnf
  exact ⟨by decide, by decide, z⟩
end Mine
end
section
open PySem PySem.W PyProof.Rows PySem.Calls PyProof.V PySem.Spec
namespace Mine
section
variable {prog : Program} {w : World} {A₀ A : Around} {s : Shared} {base h₀ : Heap} {env : Env} {outer : List Env} {L : Addr} {m : Str → Option Value} {news : CbLed} {K : Frag} {p : Program} {loose : List Str} {mean : ExcName → Option Value} {mg mb : Str → Option Value}
set_option tactic.hygienic false in
theorem call_T {R : Result → Shared → Prop} {name qual : Str} {params : Arguments} {body : List Stmt} {scope : Scope} {dV kV doc pm cdv ct oc : Value} {an od : Option Addr} {osl : Array (Option Value)} {f : Addr} {args : Args} {binds : List (Str × Value)}
    (B : Below A₀ base outer h₀) (F : Fr h₀ L s.heap m) (X₀ : K.In h₀) (N : News h₀ L s.heap news) (T : Top p loose mean mg mb h₀) (hA : A.frames = some (env :: outer)) (hf : env.frame = some L) (hke : env.scope.kind = .function)
    (ho : K.lookup f = some ⟨oc, od, .func (fnOf name qual params body scope dV kV doc pm an cdv ct), osl⟩) (hcd : codeIn K cdv qual = true) (hroom : A.depth < recursionLimit)
    (hbind : BindsTo s (fnOf name qual params body scope dV kV doc pm an cdv ct) args binds) (hloc : ∀ y ∈ binds, scope.names.lookup y.1 = some .local)
    (h : ∀ g L' h₁, Fr g L' h₁ (fun y => binds.reverse.lookup y) → News g L' h₁ news → Below A base (env :: outer) g → K.In g → Top p loose mean mg mb g → h₀.StaysIn g → g.Ns L m → @Ne Nat L L' → h₀.get? L = none → @LE.le Nat _ h₀.objs.size L' →
      wpAny (model prog w) (A.deeper (envOf qual scope L' f cdv)) (execs body (envOf qual scope L' f cdv))
        (fun fl s' => R (.ok (.ret (match fl with | .ret v => v | _ => .none))) s')
        (fun e s' => wpAny (model prog w) (A.deeper (envOf qual scope L' f cdv)) (leaving (envOf qual scope L' f cdv) e) (fun _ s'' => R (.error e) s'') (fun e' s'' => R (.error e') s'') s')
        { s with heap := h₁, toks := s.toks + binds.length })
    (hco : scope.isCoroutine = false) (hgen : scope.isGenerator = false) (hk : scope.kind = .function)
    (hcell : ∀ x ∈ scope.names, x.2 ≠ .cell) : codeAny (model prog w) A (.call (.ref f) args) R s := by
  have X := X₀.keeps F.keep
  refine codeAny_call_def (fd := fnOf name qual params body scope dV kV doc pm an cdv ct) (body := body) (binds := binds) hroom (X _ _ ho) rfl (T.nolimit.keeps F.keep) (codeRec_of X hcd) rfl hbind hcell hloc (fun h₁ hns hk₁ => ?_) hco hgen hk
  have out : ∀ b o, h₀.get? b = some o → b ∉ news.map (·.1) := by
    intro b o e q
    obtain ⟨z, hz, rfl⟩ := List.mem_map.mp q
    have z2 := (N z hz).2.2
    rw [e] at z2
    cases z2
  have hLn : L ∉ news.map (·.1) := by
    intro q
    obtain ⟨z, hz, e⟩ := List.mem_map.mp q
    exact (N z hz).2.1 e
  have hL0 : h₀.get? L = none := Heap.get?_none_of_le F.above
  have st : h₀.StaysIn (hideAll s.heap (news.map (·.1))) := fun b o e => hideAll_get _ (F.keep b o e) (out b o e)
  have ns := F.ns
  have nsg : (hideAll s.heap (news.map (·.1))).Ns L m := ns.at' fun o e => hideAll_get _ e hLn
  have hbL : base.get? L = none := fresh_of_stays B.stays hL0
  have fs : s.heap.FunFrames base (env :: outer) := by
    obtain ⟨oL, es, ep, hL, hd, _⟩ := F.ns
    refine ⟨by rw [hke]; decide, ⟨L, oL, hf, hbL, hL, fun vs q => by rw [hd] at q; cases q⟩, B.frames.of_keeps fun b o e _ => ⟨o, F.keep b o e, rfl⟩⟩
  have Bg : Below A base (env :: outer) (hideAll s.heap (news.map (·.1))) := by
    refine ⟨hA, fun b o e => st b o (B.stays b o e), funFrames_hideAll fs ?_⟩
    intro env' he b hb hfb
    rcases List.mem_cons.mp he with rfl | he
    · rw [hf] at hfb
      exact hLn ((Option.some.inj hfb : L = b) ▸ hb)
    · obtain ⟨L₁, o₁, hf₁, ho₁⟩ := funFrames_in B.frames env' he
      rw [hf₁] at hfb
      exact out L₁ o₁ ho₁ ((Option.some.inj hfb : L₁ = b) ▸ hb)
  exact h _ s.heap.objs.size h₁ ⟨hns, fun b o e => hk₁ b o (of_hideAll _ e), Nat.le_of_eq (hideAll_size _ _)⟩
    (fun z hz => ⟨hk₁ _ _ (N z hz).1, Nat.ne_of_lt (Heap.lt_size (N z hz).1), hideAll_none _ (List.mem_map_of_mem hz)⟩) Bg (X₀.keeps st) (T.keeps st) st nsg (Nat.ne_of_lt ns.lt) hL0 (Nat.le_of_lt (Nat.lt_of_le_of_lt F.above ns.lt))
end
section
variable {prog : Program} {w : World} {A₀ : Around} {E : Value → Shared → Prop} {s' : Shared} {h₀ g h : Heap} {outer : List Env} {L Lc a e t : Addr} {m mc : Str → Option Value} {name : Str} {scope : Scope} {cd : Value}
  {vs : List Value} {n : Str} {b₀ : Stmt} {suite : List Stmt} {pos np : Pos} {rest : List ExceptHandler} {Q : Flow → Shared → Prop} {news : CbLed} {KF : Frag} {C : Addr} {bmB : List Value} {newId : String}
  {p : Program} {loose : List Str} {mean : ExcName → Option Value} {mg mb : Str → Option Value} {x : Str}
set_option tactic.hygienic false in
theorem exc_K {A : Around} {s : Shared} {E : Value → Shared → Prop} {ob : Obj} (F : Fr h₀ L s.heap m) (X : KF.In h₀) (T : TopRead p loose mg mb h₀) (ex : nsIn KF mainGlobals x = some (some (.ref C))) (q : excIn KF C bmB newId = true) (hbase : bmB.contains (.type "BaseException") = true)
    (hob : s.heap.get? e = some ob) (hobc : ob.cls = .ref C) {Q : Bool → Shared → Prop} (hq : Q true s) : wpAny (model prog w) A (excMatches (.ref e) (.ref C)) Q E s := by
  obtain ⟨bm, N, nm, qn, bs, hdct, sn, sub, ab, col, dd, k0, k1, k2, k3, k5, mN, hC, hN, hni, TL⟩ := ((own_of_in X T ex q).keeps F.keep).obj
  exact wpAny_excMatches_sub_self hC hob hobc (TL.hasType hbase) hq
set_option tactic.hygienic false in
theorem caught_M (hst : A₀.frames = some outer) (hg : h₀.StaysIn g) (F : Fr g L h m) (hsm : h.UpToSlots s'.heap) (R : RaisedK h₀ (envOf name scope L a cd :: outer) e (.ref C) t vs news s'.heap)
    (X : KF.In h₀) (T : TopRead p loose mg mb h₀) (ex : nsIn KF mainGlobals x = some (some (.ref C))) (q : excIn KF C bmB newId = true) (hbase : bmB.contains (.type "BaseException") = true)
    (hc : h.Ns Lc mc) (hcn : h₀.get? Lc = none) (hcL : @Ne Nat Lc L) (hab : @LE.le Nat _ h₀.objs.size L)
    (k : ∀ h' tk oe ot oC ws nt, Fr h₀ L h' (fun y => if y = n then some (.ref e) else m y) → News h₀ L h' ((Lc, oC) :: (e, oe) :: (t, ot) :: news) → LCg.NsObj oC mc → oe.cls = .ref C → oe.data = .fields ws → ws[0]? = some (.ref t) → ot.cls = .type "tuple" → ot.data = .seq vs.toArray nt →
      wpAny (model prog w) ((A₀.deeper (envOf name scope L a cd)).mark (some (.ref e))) (execs (b₀ :: suite) (envOf name scope L a cd))
        (fun f s₄ => wpAny (model prog w) (A₀.deeper (envOf name scope L a cd)) (do bindName (envOf name scope L a cd) n .none; unbindBehindTheSuite (envOf name scope L a cd) n pos) (fun _ s₅ => Q f s₅) E s₄)
        (AsSuiteRaised (model prog w) ((A₀.deeper (envOf name scope L a cd)).mark (some (.ref e))) (envOf name scope L a cd) n pos (notedBy (model prog w) ((A₀.deeper (envOf name scope L a cd)).mark (some (.ref e))) (envOf name scope L a cd) (cameBackBy (model prog w) (A₀.deeper (envOf name scope L a cd)) (envOf name scope L a cd) E)))
        { s' with heap := h', toks := tk })
    (hk : scope.kind = .function) (hlo : (envOf name scope L a cd).kindOf n = some .local) (hx : (envOf name scope L a cd).kindOf x = some .globalImplicit) (hd : (x == ("__debug__" : Str)) = false) :
    wpAny (model prog w) (A₀.deeper (envOf name scope L a cd)) (noteFrame (.ref e) (envOf name scope L a cd))
      (fun _ s₂ => wpAny (model prog w) (A₀.deeper (envOf name scope L a cd)) (setFlight (.ref e) none) (fun _ s₃ =>
        wpAny (model prog w) (A₀.deeper (envOf name scope L a cd)) (handleBy (.ref e) (envOf name scope L a cd) (.ExceptHandler (some (.Name x np)) (some n) (b₀ :: suite) pos :: rest)) Q E s₃) E s₂) E s' := by
  have F₀ : Fr h₀ L h m := ⟨F.ns, fun b o z => F.keep b o (hg b o z), hab⟩
  obtain ⟨⟨B, hB, hl, hfl, hnew⟩, htup⟩ := R
  have hLB : B.get? L = none := by
    obtain ⟨-, ⟨L₁, -, hf₁, hn₁, -⟩, -⟩ := hfl.2.2.1
    have z : L = L₁ := Option.some.inj hf₁
    rw [z]; exact hn₁
  refine wpAny_looks_onW (Around.frames_deeper hst) rfl hfl fun h₁ held₁ sm₁ => wpAny_landsW held₁ fun h₂ held₂ sm₂ => ?_
  have sm : h.UpToSlots h₂ := hsm.trans (sm₁.trans sm₂)
  have fly := flyingW_base hB held₂
  have F₂ := F₀.of_stays fly.1 sm
  obtain ⟨ob, hob, hobc⟩ := fly.there
  refine wpAny_handleBy_cons (codeAny_handlers_test (name_K F₂ X T ex ?_ hk hx hd)) (by intro z; cases z)
  refine exc_K (s := { s' with heap := h₂, toks := s'.toks }) F₂ X T ex q hbase hob hobc (codeAny_handlers_suite_as ?_)
  refine lands_againW held₂ fun h₃ held₃ sm₃ => ?_
  have fly₃ := flyingW_base hB held₃
  have F₃ := F₀.of_stays fly₃.1 (sm.trans sm₃)
  obtain ⟨oe, ws, hoe, hoec, hoed, hoe0⟩ := fly₃.first
  obtain ⟨ot, nt, hot, hotc, hotd⟩ := (htup.of_slots (sm₁.trans sm₂)).of_slots sm₃
  obtain ⟨oC, hoC, nsC⟩ := LCg.ns_obj ((sm.trans sm₃).ns hc)
  have notL : ∀ {b : Addr} {o : Obj}, h₃.get? b = some o → (∀ es ep, o.data ≠ .dict es ep) → b ≠ L := by
    intro b o hb hnd z
    obtain ⟨oL, es, ep, hL, hLd, -⟩ := F₃.ns
    rw [z, hL] at hb
    cases hb
    exact hnd es ep hLd
  have N₃ : News h₀ L h₃ ((Lc, oC) :: (e, oe) :: (t, ot) :: news) := by
    intro z hz
    rcases List.mem_cons.mp hz with rfl | hz
    · exact ⟨hoC, hcL, hcn⟩
    rcases List.mem_cons.mp hz with rfl | hz
    · exact ⟨hoe, notL hoe (fun es ep y => by rw [hoed] at y; cases y), fly₃.2.1⟩
    rcases List.mem_cons.mp hz with rfl | hz
    · exact ⟨hot, notL hot (fun es ep y => by rw [hotd] at y; cases y), fresh_of_stays hB hnew⟩
    · have y := hl z hz
      exact ⟨held₃.1 _ _ y.1, (fun u => by have y1 := y.1; rw [u, hLB] at y1; cases y1), y.2⟩
  exact stN F₃ N₃ (fun h₄ F₄ N₄ => k h₄ _ oe ot oC ws nt F₄ N₄ nsC hoec hoed hoe0 hotc hotd) hk hlo
end
end Mine
end
section
open PySem PySem.W PyProof.Rows PySem.Calls PyProof.V PySem.Spec
open Builtin Builtin.Str Builtin.BaseException Builtin.Exceptions
set_option maxRecDepth 100000
namespace Mine
section
variable {prog : Program} {w : World} {A : Around} {E : Value → Shared → Prop} {s : Shared} {e t0 : Addr} {K : Frag} {C : Addr} {h₀ : Heap} {L : Addr} {news : CbLed}
noncomputable def OwnExc (h : Heap) (e : Addr) (C t0 : Addr) (m : Str) (tk : Tok) : Prop := ∃ o vs, h.get? e = some o ∧ o.cls = .ref C ∧ o.data = .fields vs ∧ vs[0]? = some (.ref t0) ∧ h.TupAt t0 [.str m tk]
set_option tactic.hygienic false in
theorem own_args {M : Model} {m : Str} {tk : Tok} {Q : Value × List Value → Shared → Prop} (x : OwnExc s.heap e C t0 m tk) (hq : Q (.ref t0, [.str m tk]) s) :
    wpAny M A (bexcArgs (.ref e)) Q E s := by
  obtain ⟨o, vs, ho, _, hd, h0, ot, k, hto, _, htd⟩ := x
  unfold bexcArgs
  refine wpAny_bind (wpAny_field ho hd h0 (wpAny_bind (wpAny_seqItems hto htd ?_)))
  exact wpAny_pure hq
set_option tactic.hygienic false in
theorem own_str_entry {m : Str} {tk : Tok} {Q : Fin → Shared → Prop} (x : OwnExc s.heap e C t0 m tk) (hq : Q (.done (.ret (.str m tk))) s) :
    wpAny (model prog w) A (Builtin.«BaseException.__str__» ⟨[.ref e], []⟩) Q E s := by
  unfold Builtin.«BaseException.__str__»
  repeat (first | with_reducible refine own_args x ?_ | wp_step)
  exact hq
set_option tactic.hygienic false in
theorem bexc_kind : builtinKind "BaseException.__str__" = some .slot := by decide +kernel
set_option tactic.hygienic false in
theorem bexc_split : splitId "BaseException.__str__" = some ("BaseException", "__str__") := by decide +kernel
set_option tactic.hygienic false in
theorem own_type {M : Model} {h : Heap} {m : Str} {tk : Tok} (x : OwnExc h e C t0 m tk) : Looks M h (typeOf (.ref e)) (.ref C) := by
  obtain ⟨o, vs, ho, hc, hd, -⟩ := x
  rw [← hc]
  exact (Looks.ld ho).andThen .now
set_option tactic.hygienic false in
theorem own_str_call {m : Str} {tk : Tok} {Q : Value → Shared → Prop} (X : K.In s.heap) (hm : mroIn K C (.type "BaseException") = some true) (x : OwnExc s.heap e C t0 m tk) (hq : Q (.str m tk) s) :
    wpAny (model prog w) A (call (.builtin "BaseException.__str__") [.ref e]) Q E s := by
  refine wpAny_call (codeAny_call_builtin PySem.F.excStr_Exception.str.plain PySem.F.entry_bexc_str (@check_slot (model prog w) _ _ s "BaseException.__str__" "BaseException" "__str__" (.ref e) [] [] _ bexc_kind bexc_split ((own_type x).andThen (looks_mroIn X hm)) (PySem.F.args_bexc_str _) ?_))
  exact own_str_entry x hq
set_option tactic.hygienic false in
theorem own_strOf {m : Str} {tk : Tok} {Q : Value → Shared → Prop} (X : K.In s.heap) (hu : A.units < cLine) (hs : findIn K (.ref C) "__str__" = some (some (.builtin "BaseException.__str__"))) (hm : mroIn K C (.type "BaseException") = some true) (x : OwnExc s.heap e C t0 m tk) (hq : Q (.str m tk) s) :
    wpAny (model prog w) A (PySem.Builtin.Str.strOf (.ref e)) Q E s := by
  unfold PySem.Builtin.Str.strOf
  rw [show isExactStr (.ref e) = false from rfl]
  refine wpAny_bind (m := cRoomFor _ _) (wpAny_cRoomFor hu ?_)
  refine wpAny_bind (m := callSpecial? (.ref e) (Str.ofString "__str__")) ?_
  have B : ∀ {M : Model} {h : Heap}, Looks M h (bindSpecial (.builtin "BaseException.__str__") (.ref e)) (.builtin "BaseException.__str__", [.ref e]) := Looks.of_pure (PySem.F.excStr_Exception.str.bind _)
  refine wpAny_bind (wpAny_bind ((own_type x).here ((looks_findIn X hs).here (wpAny_holding (wpAny_bind (B.here (wpAny_bind (wpAny_mono (own_str_call X hm x (Q := fun v s' => v = .str m tk ∧ s' = s) ⟨rfl, rfl⟩) (fun v s' z => ?_) fun _ _ z => z))))))))
  obtain ⟨rfl, rfl⟩ := z
  exact wpAny_pure (wpAny_pure hq)
set_option tactic.hygienic false in
theorem own_str {m : Str} {tk : Tok} {Q : Value → Shared → Prop} (X : K.In s.heap) (hu : A.units + 2 < cLine) (hs : findIn K (.ref C) "__str__" = some (some (.builtin "BaseException.__str__"))) (hm : mroIn K C (.type "BaseException") = some true) (x : OwnExc s.heap e C t0 m tk) (hq : Q (.str m tk) s) :
    wpAny (model prog w) A (call (.type "str") [.ref e]) Q E s :=
  callType_new PySem.F.called_str (by decide) (PySem.F.typeCall_str_1 _) (PySem.F.newCall_str_1 _) (fun obj => PySem.F.args_object_init_2 obj _) PySem.F.entry_str_new
    (meets_str_new (S := fun A' R s' => A'.units + 1 < cLine ∧ K.In s'.heap ∧ OwnExc s'.heap e C t0 m tk ∧ R (.ok (.ret (.str m tk))) s')
      fun _ _ A' _ _ hq => own_strOf (A := A'.in1) hq.2.1 hq.1 hs hm hq.2.2.1 hq.2.2.2)
    ⟨(show A.units + 1 + 1 < cLine from hu), X, x, typeIs_str _ _ _, hq⟩
end
end Mine
end
section
open PySem PySem.W PyProof.Rows PySem.Calls PyProof.V
namespace Mine
local macro_rules | `(tactic| k_room) => `(tactic| ktr_room)
noncomputable def ConB (w : World) (D U : Nat) (f : Value) (vs : List Value) (led : CbLed) (R : Value → CbLed → Prop) : Prop :=
  ∀ (mean : ExcName → Option Value) (mg mb : Str → Option Value) (loose : List Str) (dp un : Nat) (gd : Option (List Code)) (cn : Str) (cs : Scope) (a : Addr) (ccd : Value) (cl : List (Str × Addr)) (outer : List Env) (A₀ : Around) (h₀ : Heap) (L : Addr) (m : Str → Option Value) (s : Shared) (Q E : Value → Shared → Prop),
    Below A₀ h₀ outer h₀ → Fr h₀ L s.heap m → (hd.heap_39 w.params).In h₀ → News h₀ L s.heap led → Top topProg loose mean mg mb h₀ →
    cs.kind = .function → dp + D < recursionLimit → un + U < cLine →
    (∀ v led' h' tk', R v led' → Fr h₀ L h' m → News h₀ L h' led' → Q v { s with heap := h', toks := tk' }) →
    codeAny (model PySem.Challenge.rw_tc0010_02.row.prog w) (ktrTop dp un gd cn cs L a ccd cl outer) (.call f ⟨vs, []⟩) (fun r s' => match r with | .ok (.ret v) => Q v s' | .ok _ => False | .error e => E e s') s
set_option maxRecDepth 100000 in
set_option maxHeartbeats 8000000 in
theorem rf_con (w : World) (x y : Str) (tx ty : Tok) (A : CbLed) (hx : x.length ≤ 1000) (hy : y.length ≤ 1000) (h1 : (x == Str.ofString "\"") = false) (h7 : (Txt.slice (x ++ y) none (some 3) != Str.ofString "257") = true) :
    ConB w 30 300 (.ref 161) [.str x tx, .str y ty] A (fun v A' => ∃ q t t0, v = .ref q ∧ @LE.le Nat _ (topA A) q ∧ A' = (q, lob [.str (Str.ofString "") t0, .str (x ++ y) t] 0) :: A) := by
  refine Ask.out ?_
  k_fill
  unfold Ask ConB
  intros; rename_i hret
  rename Fr _ _ _ _ => F0
  rename News _ _ _ _ => N0
  k_dflt (refine' call_T ?k1 ?k2 ?k3 ?k4 ?k5 ?kA ?kF ?kK ?k6 ?k7 ?k8 ?k9 ?kB ?_ ?c2 ?c3 ?c4 ?c5; (case kA => exact rfl); (case kF => exact rfl); (case kK => first | exact rfl | assumption); (case k1 => k_asm); (case k2 => k_asm); (case k3 => k_asm); (case k4 => k_asm); (case k5 => k_asm); (case k6 => k_is); (case k7 => k_is); (case k8 => ktr_room); (case k9 => exact BindsTo.of_eq rfl); (case c5 => decide); (case kB => exact locs rfl); (case c2 => exact rfl); (case c3 => exact rfl); (case c4 => exact rfl); k_whole; intro g' L' h' F' N' B' X' T' st' ns' lc' hl' ha'; (try dsimp only); (try k_fold))
  k_steps
  rename_i tq kq aq gq Lq hq FGq F8 N8 B8 X8 T8 h8 t8 k8 F7 N7 a7 h7 e7 md7 h6 t6 R6 U6
  k_dflt (refine' caught_M (bmB := [.type "Exception", .type "BaseException", .type "object"]) (newId := "Exception.__new__") (Lc := ?Lc) (mc := ?mc) rfl st' FGq U6 R6 ?X ?T ?ex ?q ?hb (ns'.at' fun o e => FGq.keep _ _ e) hl' lc' ha' ?k ?hk ?hlo ?hx ?hd)
  case X => k_asm
  case T => k_asm
  case ex => k_is
  case q => k_exc
  case hb => rfl
  case hk => rfl
  case hlo => rfl
  case hx => rfl
  case hd => decide
  clear R6 U6 B8 X8 T8 F8 N8 F7 N7 md7 FGq N' F' B' X' T' ns'
  intro h5 tk5 oe ot oC ws nt F5 N5 nsC oe1 oe2 oe3 ot1 ot2
  k_steps
  refine own_str (K := hd.heap_39 w.params) (C := 128) (t0 := t6) ?X ?hu ?hs ?hm ⟨oe, ws, (N5 _ (.tail _ (.head _))).1, oe1, oe2, oe3, ot, nt, (N5 _ (.tail _ (.tail _ (.head _)))).1, ot1, ot2⟩ ?_
  case X => exact Frag.In.keeps (by assumption) F5.keep
  case hu => ktr_units
  case hs => k_dflt k_is
  case hm => k_dflt k_is
  k_steps
  rename Fr _ _ _ _ => F6
  rename News _ _ _ _ => N6
  rename _ ∧ _ => l1
  have up : ∀ {l : CbLed} {d : Addr}, AllLt d l → AllT d l := fun {l d} h => by
    induction l with
    | nil => exact fun _ h => nomatch h
    | cons p l ih => rw [AllT_cons]; exact ⟨h.1, ih h.2⟩
  refine hret _ _ _ _ ⟨_, tq, tk5, rfl, allT_iff.mp (up l1.2.2.2), rfl⟩ ⟨nsC.ns (N6 _ (.tail _ (.head _))).1, F6.keep, F0.above⟩ ?_
  intro p hp
  rcases List.mem_cons.mp hp with rfl | hp
  · exact ⟨(N6 _ (.head _)).1, Nat.ne_of_gt l1.1, (N6 _ (.head _)).2.2⟩
  · exact ⟨(N6 p (.tail _ (.tail _ (.tail _ (.tail _ hp))))).1, (N0 p hp).2⟩
noncomputable def rfS : Spec := fun vs led K => ∃ x y : List Nat, vs = [.str x, .str y] ∧ x.length ≤ 1000 ∧ y.length ≤ 1000 ∧ x ≠ [34] ∧ (x ++ y).take 3 ≠ [50, 53, 55] ∧ K (.loc led.length) (led ++ [.list [.str [], .str (x ++ y)]])
set_option tactic.hygienic false in
theorem rf_X {R : Rt} (hR : R.Ok 40 400) (hb : R.base = R.h₀) : FnX R 161 rfS := by
  rintro m s ρ led ex vs xs K Q E ⟨x, y, rfl, hx, hy, h1, h7, k⟩ hr F S P
  match xs, hr with
  | [], hr => exact hr.elim
  | [_], hr => exact hr.2.elim
  | _ :: _ :: _ :: _, hr => exact hr.2.2.elim
  | [a, b], hr =>
    obtain ⟨⟨t, rfl⟩, ⟨t2, rfl⟩, _⟩ := hr
    obtain ⟨es, W, d, N⟩ := S
    have h8 : (Txt.slice (strOf x ++ strOf y) none (some 3) != Str.ofString "257") = true := by
      refine bne_iff_ne.mpr fun e => h7 ?_
      rw [strOf_app] at e
      have z := congrArg (fun y : Str => y.cps.toList) e
      exact (sl_to (x ++ y) 3).symm.trans z
    have h9 : (strOf x == Str.ofString "\"") = false := by
      refine beq_false_of_ne fun e => h1 ?_
      exact congrArg (fun y : Str => y.cps.toList) e
    have B := hR.below
    rw [hb] at B
    refine rf_con R.w (strOf x) (strOf y) t t2 (es ++ (ex ++ W)) hx hy h9 h8 R.mean R.mg R.mb R.loose R.dp R.un R.gd R.cn R.cs R.a R.ccd R.cl R.outer R.A₀ R.h₀ R.L m s Q E B F hR.inn N hR.top hR.kind (by have := hR.dep; omega) (by have := hR.uni; omega) ?_
    rintro v led' h' tk' ⟨q, t3, t0, rfl, hq, rfl⟩ F' N'
    rw [strOf_app] at N'
    refine P (.loc led.length) (.ref q) (ρ ++ [q]) _ h' tk' k Grow.app ⟨q, d.last, rfl⟩ F' ⟨es ++ [(q, lob [.str (Str.ofString "") t0, .str (strOf (x ++ y)) t3] 0)], W, d.new (ne_of_top hq) ⟨[.str (Str.ofString "") t0, .str (strOf (x ++ y)) t3], 0, ⟨⟨t0, rfl⟩, ⟨t3, rfl⟩, True.intro⟩, rfl⟩ True.intro, cb_drop N' fun p hp => ?_⟩
    rcases List.mem_append.mp hp with hp | hp
    · rcases List.mem_append.mp hp with hp | hp
      · exact .tail _ (List.mem_append_left _ hp)
      · rw [List.mem_singleton.mp hp]; exact .head _
    · exact .tail _ (List.mem_append_right _ hp)
end Mine
end
section
open PySem PySem.W PyProof.Rows PySem.Calls PyProof.V PySem.Spec
namespace Mine
set_option maxRecDepth 100000
set_option maxHeartbeats 8000000
variable {ls : Option (Addr × List Int)}
set_option pp.deepTerms false
set_option pp.maxSteps 600
noncomputable def rd2S : Spec := fun vs led K => rdS vs led K ∨ rfS vs led K
noncomputable def lawF (q : Addr) : Option Spec :=
  if @Eq Nat q 149 then some ltS else if @Eq Nat q 91 then some d2iS else if @Eq Nat q 154 then some wrS else if @Eq Nat q 161 then some rd2S
  else if @Eq Nat q 166 then some foS else if @Eq Nat q 173 then some paS else if @Eq Nat q 192 then some toS else none
noncomputable def cxL (ls : Option (Addr × List Int)) : Cx := { cxC 197 lawF 0 none 0 with lst := ls }
set_option tactic.hygienic false in
theorem law_cellN : cellNs (fdOf 197).scope = [Str.ofString "shut", Str.ofString "signs"] := by kernel_rfl
noncomputable def lB (i : Nat) : Stmt := ((forBody (stOf 197 0))[i]?).getD default
structure Cs (led : Led) (u g : Option SV) : Prop where
  u : led[0]? = some (.cell u)
  g : led[1]? = some (.cell g)
set_option tactic.hygienic false in
theorem Cs.app {led : Led} {u n : Option SV} (h : Cs led u n) (g : Led) : Cs (led ++ g) u n := ⟨at_l h.u _, at_l h.g _⟩
set_option tactic.hygienic false in
theorem Cs.setG {led : Led} {u n : Option SV} {z : SV} (h : Cs led u n) : Cs (led.set 1 (.cell (some z))) u (some z) :=
  ⟨by rw [List.getElem?_set_ne (by decide)]; exact h.u, List.getElem?_set_self (ltOfL h.g)⟩
set_option tactic.hygienic false in
theorem Cs.setU {led : Led} {u n : Option SV} {z : SV} (h : Cs led u n) : Cs (led.set 0 (.cell (some z))) (some z) n :=
  ⟨List.getElem?_set_self (ltOfL h.u), by rw [List.getElem?_set_ne (by decide)]; exact h.g⟩
set_option tactic.hygienic false in
theorem xname_cell {cx : Cx} {x : Str} {loc : Loc} {led : Led} {k : Nat} {v : SV} (h1 : cx.kind x = some .cell) (h2 : cx.cel.lookup x = some k) (h3 : led[k]? = some (.cell (some v))) : xname cx x loc led = some v := by
  unfold xname
  rw [h1]
  dsimp only
  rw [h2]
  dsimp only
  rw [h3]
noncomputable def sixF : SV → List SV
  | .int x => [.int (x.fmod (10 ^ 6))]
  | _ => []
set_option tactic.hygienic false in
theorem six_flat : ∀ fs : List Int, (fs.map SV.int).flatMap sixF = (fs.map fun x => x.fmod (10 ^ 6)).map SV.int
  | [] => rfl
  | f :: fs => by rw [List.map_cons, List.flatMap_cons, six_flat fs]; rfl
set_option tactic.hygienic false in
theorem six_sum : ∀ l : List Int, 0 ≤ (l.map fun x => x.fmod (10 ^ 6)).sum
  | [] => Int.le_refl _
  | x :: l => by
    rw [List.map_cons, List.sum_cons]
    exact Int.add_nonneg (Int.fmod_nonneg_of_pos _ (by decide)) (six_sum l)
set_option tactic.hygienic false in
theorem set_last {A : Led} {x y : SO} : (A ++ [x]).set A.length y = A ++ [y] := by rw [List.set_append_right _ _ (Nat.le_refl _), Nat.sub_self]; rfl
set_option tactic.hygienic false in
theorem set_last0 {A : Led} {x y : SO} : (A ++ [x] ++ []).set A.length y = A ++ [y] := by rw [List.append_nil, set_last]
set_option tactic.hygienic false in
theorem at_last0 {A : Led} {x : SO} : (A ++ [x] ++ [])[A.length]? = some x := by rw [List.append_nil, List.getElem?_concat_length]
noncomputable def loc2 (v0 : SV) (p : Nat) : Loc := [(Str.ofString "script", v0), (Str.ofString "place", .int (p : Int))]
theorem law_b0 {f p : Nat} {a : Addr} {ns : List Int} {u g : Option SV} {led : Led} {K : Fl → Loc → Led → Prop} (hp : p < 4) (hn : ns.length ≤ 63) (H : Cs led u g)
    (q : ∀ (n : Int) L, 0 ≤ n → Cs L u g → K .next (loc2 (.fn (.ref a)) p ++ [(Str.ofString "number", .int n)]) L) :
    (run (f + 30)).ex (cxL (some (a, ns))) (lB 0) (loc2 (.fn (.ref a)) p) led K := by
  conv => whnf
  refine ⟨Nat.le_of_ble_eq_true rfl, ?_⟩
  conv => whnf
  rw [List.getElem?_concat_length]
  conv => whnf
  obtain ⟨k0, hk0, hk1⟩ : ∃ k : Int, [SV.int 37, SV.int 93, SV.int 86, SV.int 1710][((p : Nat) : Int).toNat]? = some (.int k) ∧ 0 ≤ k := by
    rcases (show p = 0 ∨ p = 1 ∨ p = 2 ∨ p = 3 by omega) with rfl | rfl | rfl | rfl <;> exact ⟨_, rfl, by decide⟩
  rw [hk0]
  refine ⟨Int.natCast_nonneg _, by omega, ?_⟩
  conv => whnf
  refine ⟨by kernel_rfl, ?_⟩
  conv => whnf
  refine ⟨rfl, by decide, by omega, ?_⟩
  rw [pick_ints]
  have l1 := pick_len ns none (some 60) none
  generalize pickNums ns none (some 60) none = ms at *
  conv => whnf
  rw [List.getElem?_concat_length]
  refine ⟨by decide, by rw [List.length_map]; omega, ?_⟩
  rw [pick_ints]
  have l2 := pick_len ms (some (p : Int)) none (some 4)
  generalize pickNums ms (some (p : Int)) none (some 4) = qs at *
  conv => whnf
  rw [List.getElem?_concat_length]
  refine ⟨by rw [List.length_map]; omega, fun ob => ?_⟩
  rw [set_last]
  refine ⟨at_last0, ?_⟩
  have HA := (H.app [SO.list [SV.int 37, SV.int 93, SV.int 86, SV.int 1710]]).app [SO.list (List.map SV.int ms)]
  generalize hA : led ++ [SO.list [SV.int 37, SV.int 93, SV.int 86, SV.int 1710]] ++ [SO.list (List.map SV.int ms)] = A at *
  refine compP_st (led := A ++ [.frz ob] ++ []) (f := sixF) ?_ (qs.map .int) [] ?_ ?_ ?_
  · exact at_last0
  · intro v hv acc K hacc q
    obtain ⟨z, hz, rfl⟩ := List.mem_map.mp hv
    have hacc : acc.length + 1 ≤ 100000 := hacc
    conv => whnf
    refine ⟨by decide, by decide, by decide, ?_⟩
    conv => whnf
    refine ⟨by decide, ?_⟩
    conv => whnf
    exact ⟨by omega, q [(Str.ofString "x", .int z)]⟩
  · rw [six_flat, List.length_map, List.length_map]; show 0 + _ ≤ _; omega
  · rw [six_flat]
    conv => whnf
    refine ⟨_, TrimC.stay, ?_⟩
    rw [show ((fun l : Led => List.set l (List.length A) (SO.list (List.map SV.int qs))) (A ++ [SO.frz ob] ++ [])) = A ++ [.list (qs.map .int)] from set_last0]
    conv => whnf
    rw [List.getElem?_concat_length]
    refine ⟨qs.map fun x => x.fmod (10 ^ 6), rfl, ?_⟩
    have hs9 := six_sum qs
    generalize hsum : (qs.map fun x => x.fmod (10 ^ 6)).sum = sm at *
    conv => whnf
    exact q (k0 + sm) _ (by omega) ((HA.app _).app _)
end Mine
end
section
open PySem PySem.W PyProof.Rows PySem.Calls PyProof.V PySem.Spec
namespace Mine
set_option maxRecDepth 100000
set_option maxHeartbeats 8000000
variable {ls : Option (Addr × List Int)}
set_option pp.deepTerms false
set_option pp.maxSteps 600
noncomputable def locA (v0 : SV) (p : Nat) (n : Int) : Loc := loc2 v0 p ++ [(Str.ofString "number", .int n)]
noncomputable def locB (v0 : SV) (p : Nat) (n : Int) (a : Nat) : Loc := locA v0 p n ++ [(Str.ofString "first", .int (a : Int))]
noncomputable def locC (v0 : SV) (p : Nat) (n : Int) (a : Nat) (fr : List Nat) : Loc := locB v0 p n a ++ [(Str.ofString "four", .str fr)]
noncomputable def locD (v0 : SV) (p : Nat) (n : Int) (a : Nat) (fr u : List Nat) : Loc := locC v0 p n a fr ++ [(Str.ofString "tail", .str u)]
set_option tactic.hygienic false in
theorem modN {n : Int} {m c : Nat} (hm : 0 < m) (hc : 0 < c) : ∃ a : Nat, a < c ∧ (n.fdiv m).fmod c = a := by
  have h0 := Int.fmod_nonneg_of_pos (n.fdiv m) (show (0 : Int) < c by omega)
  have h1 := Int.fmod_lt_of_pos (n.fdiv m) (show (0 : Int) < c by omega)
  exact ⟨((n.fdiv m).fmod c).toNat, by omega, by omega⟩
theorem law_b1 {f p : Nat} {v0 : SV} {n : Int} {led : Led} {K : Fl → Loc → Led → Prop} (q : ∀ a : Nat, a < 6 → K .next (locB v0 p n a) led) :
    (run (f + 30)).ex (cxL ls) (lB 1) (locA v0 p n) led K := by
  obtain ⟨a, ha, e⟩ := modN (n := n) (m := 7) (c := 6) (by decide) (by decide)
  conv => whnf
  refine ⟨by decide, PyProof.noPylong_of_log2 (by decide), ?_⟩
  conv => whnf
  refine ⟨by decide, ?_⟩
  rw [show (n.fdiv 7).fmod 6 = (a : Int) from e]
  conv => whnf
  exact q a ha
set_option tactic.hygienic false in
theorem six_at {a : Nat} (h : a < 6) : (Str.ofString "a \n#\t(").cps.toList[((a : Nat) : Int).toNat]? = some (sixA a) := by
  rcases (show a = 0 ∨ a = 1 ∨ a = 2 ∨ a = 3 ∨ a = 4 ∨ a = 5 by omega) with rfl | rfl | rfl | rfl | rfl | rfl <;> rfl
theorem law_b2 {f p a : Nat} {v0 : SV} {n : Int} {led : Led} {K : Fl → Loc → Led → Prop} (ha : a < 6) (q : ∀ k : Nat, k < 5 → K .next (locC v0 p n a (fourOf (sixA a) (sixA ((a + 1 + k) % 6)))) led) :
    (run (f + 30)).ex (cxL ls) (lB 2) (locB v0 p n a) led K := by
  obtain ⟨k, hk, e⟩ := modN (n := n) (m := 11) (c := 5) (by decide) (by decide)
  have e2 : ((a : Int) + 1 + (k : Int)).fmod 6 = (((a + 1 + k) % 6 : Nat) : Int) := by
    rw [Int.fmod_eq_emod_of_nonneg _ (by decide)]; omega
  have hb : (a + 1 + k) % 6 < 6 := Nat.mod_lt _ (by decide)
  have z := q k hk
  unfold fourOf at z
  conv => whnf
  rw [six_at ha]
  refine ⟨Int.natCast_nonneg _, by omega, ?_⟩
  conv => whnf
  refine ⟨Nat.le_of_ble_eq_true rfl, ?_⟩
  conv => whnf
  refine ⟨by decide, PyProof.noPylong_of_log2 (by decide), ?_⟩
  conv => whnf
  refine ⟨by decide, ?_⟩
  rw [show (n.fdiv 11).fmod 5 = (k : Int) from e]
  conv => whnf
  refine ⟨by decide, ?_⟩
  rw [e2]
  conv => whnf
  generalize (a + 1 + k) % 6 = b at *
  rw [six_at hb]
  refine ⟨Int.natCast_nonneg _, by omega, ?_⟩
  conv => whnf
  refine ⟨Nat.le_of_ble_eq_true rfl, ?_⟩
  conv => whnf
  exact z
theorem law_b3 {f p a : Nat} {v0 : SV} {n : Int} {P Q : Nat} {u g : Option SV} {led : Led} {K : Fl → Loc → Led → Prop} (H : Cs led u g) (q : ∀ r : Nat, r < 4 → Cs (led.set 1 (.cell (some (.str (sgOf P Q r))))) u (some (.str (sgOf P Q r))) → K .next (locC v0 p n a (fourOf P Q)) (led.set 1 (.cell (some (.str (sgOf P Q r)))))) :
    (run (f + 30)).ex (cxL ls) (lB 3) (locC v0 p n a (fourOf P Q)) led K := by
  obtain ⟨r, hr, e⟩ := modN (n := n) (m := 13) (c := 4) (by decide) (by decide)
  have z := q r hr H.setG
  unfold sgOf at z
  have hl : (fourOf P Q).length = 4 := rfl
  generalize fourOf P Q = fr at *
  conv => whnf
  refine ⟨by decide, PyProof.noPylong_of_log2 (by decide), ?_⟩
  conv => whnf
  refine ⟨by decide, ?_⟩
  rw [show (n.fdiv 13).fmod 4 = (r : Int) from e]
  conv => whnf
  refine ⟨by omega, ?_⟩
  rw [sl_from]
  conv => whnf
  refine ⟨by decide, PyProof.noPylong_of_log2 (by decide), ?_⟩
  conv => whnf
  refine ⟨by decide, ?_⟩
  rw [show (n.fdiv 13).fmod 4 = (r : Int) from e]
  conv => whnf
  refine ⟨by omega, ?_⟩
  rw [sl_to]
  conv => whnf
  refine ⟨by rw [List.length_drop, List.length_take]; omega, ?_⟩
  conv => whnf
  rw [show led[0 + 1]? = some (.cell g) from H.g]
  exact z
noncomputable def tailOf (m : Nat) : List Nat := ([[], [32, 49], [9, 97], [35]][m]?).getD []
set_option tactic.hygienic false in
theorem tail_ok : ∀ m : Fin 4, (tailOf m.val).length ≤ 2 ∧ (tailOf m.val).head? ≠ some 34 ∧ ∀ c ∈ tailOf m.val, c ≠ 33 ∧ c ≠ 63 ∧ c < 1114112 := by decide
theorem law_b4 {f p a : Nat} {v0 : SV} {n : Int} {fr : List Nat} {u g : Option SV} {led : Led} {K : Fl → Loc → Led → Prop} (H : Cs led u g) (q : ∀ m L, m < 4 → Cs L u g → K .next (locD v0 p n a fr (tailOf m)) L) :
    (run (f + 30)).ex (cxL ls) (lB 4) (locC v0 p n a fr) led K := by
  obtain ⟨m, hm, e⟩ := modN (n := n) (m := 17) (c := 4) (by decide) (by decide)
  conv => whnf
  refine ⟨Nat.le_of_ble_eq_true rfl, ?_⟩
  conv => whnf
  refine ⟨by decide, PyProof.noPylong_of_log2 (by decide), ?_⟩
  conv => whnf
  refine ⟨by decide, ?_⟩
  rw [show (n.fdiv 17).fmod 4 = (m : Int) from e]
  conv => whnf
  rw [List.getElem?_concat_length]
  conv => whnf
  rw [show [SV.str (Str.ofString "").cps.toList, SV.str (Str.ofString " 1").cps.toList, SV.str (Str.ofString "\ta").cps.toList, SV.str (Str.ofString "#").cps.toList][((m : Nat) : Int).toNat]? = some (.str (tailOf m)) by
    rcases (show m = 0 ∨ m = 1 ∨ m = 2 ∨ m = 3 by omega) with rfl | rfl | rfl | rfl <;> rfl]
  refine ⟨Int.natCast_nonneg _, by omega, ?_⟩
  conv => whnf
  exact q m _ hm (H.app _)
end Mine
end
section
open PySem PySem.W PyProof.Rows PySem.Calls PyProof.V PySem.Spec
namespace Mine
set_option maxRecDepth 100000
set_option maxHeartbeats 8000000
variable {ls : Option (Addr × List Int)}
set_option pp.deepTerms false
set_option pp.maxSteps 600
noncomputable def locE (v0 : SV) (p : Nat) (n : Int) (a : Nat) (fr u : List Nat) (w : Nat) : Loc := locD v0 p n a fr u ++ [(Str.ofString "word", .loc w)]
noncomputable def wdI (w : List Nat) : List SV := w.map fun (h : Nat) => SV.int (h : Int)
set_option tactic.hygienic false in
theorem words_at (B : Nat) {i : Nat} (hi : i < 10) : ∃ w, w ∈ wordsL ∧ ([SV.loc B, SV.loc (B + 1), SV.loc (B + 2), SV.loc (B + 3), SV.loc (B + 4), SV.loc (B + 5), SV.loc (B + 6), SV.loc (B + 7), SV.loc (B + 8), SV.loc (B + 9)] : List SV)[((i : Nat) : Int).toNat]? = some (.loc (B + i)) ∧ ∀ o, ([SO.list [], SO.list [SV.int 0], SO.list [SV.int 1], SO.list [SV.int 0, SV.int 1], SO.list [SV.int 1, SV.int 0], SO.list [SV.int 0, SV.int 1, SV.int 0], SO.list [SV.int 1, SV.int 0, SV.int 1], SO.list [SV.int 0, SV.int 1, SV.int 0, SV.int 1], SO.list [SV.int 1, SV.int 1], SO.list [SV.int 0, SV.int 0], o] : Led)[i]? = some (.list (wdI w)) := by
  rcases (show i = 0 ∨ i = 1 ∨ i = 2 ∨ i = 3 ∨ i = 4 ∨ i = 5 ∨ i = 6 ∨ i = 7 ∨ i = 8 ∨ i = 9 by omega) with rfl | rfl | rfl | rfl | rfl | rfl | rfl | rfl | rfl | rfl
  · exact ⟨[], by decide, rfl, fun _ => rfl⟩
  · exact ⟨[0], by decide, rfl, fun _ => rfl⟩
  · exact ⟨[1], by decide, rfl, fun _ => rfl⟩
  · exact ⟨[0, 1], by decide, rfl, fun _ => rfl⟩
  · exact ⟨[1, 0], by decide, rfl, fun _ => rfl⟩
  · exact ⟨[0, 1, 0], by decide, rfl, fun _ => rfl⟩
  · exact ⟨[1, 0, 1], by decide, rfl, fun _ => rfl⟩
  · exact ⟨[0, 1, 0, 1], by decide, rfl, fun _ => rfl⟩
  · exact ⟨[1, 1], by decide, rfl, fun _ => rfl⟩
  · exact ⟨[0, 0], by decide, rfl, fun _ => rfl⟩
theorem law_b5 {f p a : Nat} {v0 : SV} {n : Int} {fr t : List Nat} {u g : Option SV} {led : Led} {K : Fl → Loc → Led → Prop} (H : Cs led u g) (q : ∀ w L l, w ∈ wordsL → Cs L u g → L[l]? = some (.list (wdI w)) → K .next (locE v0 p n a fr t l) L) :
    (run (f + 30)).ex (cxL ls) (lB 5) (locD v0 p n a fr t) led K := by
  have m0 := Int.fmod_nonneg_of_pos n (show (0 : Int) < 10 by decide)
  have m1 := Int.fmod_lt_of_pos n (show (0 : Int) < 10 by decide)
  obtain ⟨i, hi⟩ : ∃ i : Nat, n.fmod 10 = i := ⟨(n.fmod 10).toNat, by omega⟩
  conv => whnf
  refine ⟨Nat.le_of_ble_eq_true rfl, ?_⟩
  conv => whnf
  refine ⟨Nat.le_of_ble_eq_true rfl, ?_⟩
  conv => whnf
  refine ⟨Nat.le_of_ble_eq_true rfl, ?_⟩
  conv => whnf
  refine ⟨Nat.le_of_ble_eq_true rfl, ?_⟩
  conv => whnf
  refine ⟨Nat.le_of_ble_eq_true rfl, ?_⟩
  conv => whnf
  refine ⟨Nat.le_of_ble_eq_true rfl, ?_⟩
  conv => whnf
  refine ⟨Nat.le_of_ble_eq_true rfl, ?_⟩
  conv => whnf
  refine ⟨Nat.le_of_ble_eq_true rfl, ?_⟩
  conv => whnf
  refine ⟨Nat.le_of_ble_eq_true rfl, ?_⟩
  conv => whnf
  refine ⟨Nat.le_of_ble_eq_true rfl, ?_⟩
  conv => whnf
  refine ⟨Nat.le_of_ble_eq_true rfl, ?_⟩
  conv => whnf
  refine ⟨by decide, ?_⟩
  rw [hi]
  conv => whnf
  rw [List.getElem?_concat_length]
  conv => whnf
  simp only [List.append_assoc, List.cons_append, List.nil_append, List.length_append, List.length_cons, List.length_nil, Nat.zero_add, Nat.reduceAdd]
  obtain ⟨w, hw, e1, e2⟩ := words_at led.length (i := i) (by omega)
  rw [e1]
  refine ⟨Int.natCast_nonneg _, by omega, ?_⟩
  conv => whnf
  refine q w _ (led.length + i) hw (H.app _) ?_
  rw [List.getElem?_append_right (Nat.le_add_right _ _), Nat.add_sub_cancel_left]
  exact e2 _
noncomputable def locF (v0 : SV) (p : Nat) (n : Int) (a : Nat) (fr u : List Nat) (w : Nat) (c : Int) : Loc := locE v0 p n a fr u w ++ [(Str.ofString "core", .int c)]
theorem law_b6 {f p a l : Nat} {v0 : SV} {n : Int} {fr t w : List Nat} {u g : Option SV} {led : Led} {K : Fl → Loc → Led → Prop} (H : Cs led u g) (hw : w ∈ wordsL) (hl : led[l]? = some (.list (wdI w)))
    (q : ∀ c g', 0 ≤ c → szN c ≤ capOf w → K .next (locF v0 p n a fr t l c) (led ++ g')) :
    (run (f + 30)).ex (cxL ls) (lB 6) (locE v0 p n a fr t l) led K := by
  have hwl : w.length ≤ 4 := by
    unfold wordsL at hw
    simp only [List.mem_cons, List.not_mem_nil, or_false] at hw
    rcases hw with rfl | rfl | rfl | rfl | rfl | rfl | rfl | rfl | rfl | rfl <;> decide
  obtain ⟨c, hc, hc1⟩ : ∃ c : Int, ([341, 341, 21, 5, 5] : List Int)[w.length]? = some c ∧ 0 < c := by
    rcases (show w.length = 0 ∨ w.length = 1 ∨ w.length = 2 ∨ w.length = 3 ∨ w.length = 4 by omega) with h | h | h | h | h <;> rw [h] <;> exact ⟨_, rfl, by decide⟩
  conv => whnf
  refine ⟨by decide, PyProof.noPylong_of_log2 (by decide), ?_⟩
  conv => whnf
  refine ⟨Nat.le_of_ble_eq_true rfl, ?_⟩
  conv => whnf
  rw [at_l hl]
  refine ⟨by show (wdI w).length ≤ _; unfold wdI; rw [List.length_map]; omega, ?_⟩
  rw [show (wdI w).length = w.length from List.length_map ..]
  conv => whnf
  rw [List.getElem?_concat_length]
  conv => whnf
  rw [show [SV.int 341, SV.int 341, SV.int 21, SV.int 5, SV.int 5][((w.length : Nat) : Int).toNat]? = some (.int c) by
    have z : (([341, 341, 21, 5, 5] : List Int).map SV.int)[w.length]? = some (.int c) := by rw [List.getElem?_map, hc]; rfl
    rw [Int.toNat_natCast]
    exact z]
  refine ⟨Int.natCast_nonneg _, by omega, ?_⟩
  conv => whnf
  refine ⟨by omega, ?_⟩
  have d0 := Int.fmod_nonneg_of_pos (n.fdiv 10) hc1
  have d1 := Int.fmod_lt_of_pos (n.fdiv 10) hc1
  generalize (n.fdiv 10).fmod c = x at *
  conv => whnf
  exact q x _ d0 (sz_cap d0 hwl hc d1)
noncomputable def locG (v0 : SV) (p : Nat) (n : Int) (a : Nat) (fr u : List Nat) (w : Nat) (c : Int) (t : List Nat) : Loc := locF v0 p n a fr u w c ++ [(Str.ofString "text", .str t)]
set_option tactic.hygienic false in
theorem capOf_le (w : List Nat) : capOf w ≤ 4 := by
  unfold capOf
  match w.length with
  | 0 => decide
  | 1 => decide
  | 2 => decide
  | 3 => decide
  | 4 => decide
  | _ + 5 => exact Nat.zero_le _
theorem law_b7 {f p a l : Nat} {v0 : SV} {n c : Int} {fr t w sg : List Nat} {u : Option SV} {led : Led} {K : Fl → Loc → Led → Prop} (H : Cs led u (some (.str sg))) (hg : sg.length = 4) (h0 : 0 ≤ c) (hs : szN c ≤ capOf w)
    (q : K .next (locG v0 p n a fr t l c (ltxt sg c)) led) :
    (run (f + 30)).ex (cxL ls) (lB 7) (locF v0 p n a fr t l c) led K := by
  have := capOf_le w
  conv => whnf
  rw [xname_cell (k := 1) (v := .str sg) (by kernel_rfl) (by kernel_rfl) H.g]
  conv => whnf
  refine ⟨c, sg, rfl, h0, by omega, hg, ?_⟩
  conv => whnf
  exact q
end Mine
end
section
open PySem PySem.W PyProof.Rows PySem.Calls PyProof.V PySem.Spec
namespace Mine
set_option maxRecDepth 100000
set_option maxHeartbeats 8000000
variable {ls : Option (Addr × List Int)}
set_option pp.deepTerms false
set_option pp.maxSteps 600
noncomputable def fnd (sg : List Nat) (c : Nat) : Int := Txt.find (strOf sg) (strOf [c]) + 1
noncomputable def fndF (sg : List Nat) : SV → List SV
  | .str [c] => [.int (fnd sg c)]
  | _ => []
set_option tactic.hygienic false in
theorem fnd_flat (sg : List Nat) : ∀ t : List Nat, (t.map fun c => SV.str [c]).flatMap (fndF sg) = (t.map (fnd sg)).map .int
  | [] => rfl
  | c :: t => by
    rw [List.map_cons, List.flatMap_cons, fnd_flat sg t]; rfl
set_option tactic.hygienic false in
theorem fnd_digs {sg : List Nat} {f lab : Nat → Nat} (H : SgOk sg f lab) : ∀ {ds : List Int}, In4 ds → (ds.map (sgn sg)).map (fnd sg) = ds.map (· + 1)
  | [], _ => rfl
  | d :: ds, h => by
    obtain ⟨d0, d1⟩ := h d (.head _)
    rw [List.map_cons, List.map_cons, List.map_cons, fnd_digs H fun x hx => h x (.tail _ hx)]
    congr 1
    unfold fnd
    rw [H.find d d0 d1]
set_option tactic.hygienic false in
theorem one_big {ds : List Int} (h : In4 ds) : ∀ x ∈ ds.map (· + 1), 0 ≤ x ∧ x < 2 ^ 4000 := by
  intro x hx
  obtain ⟨d, hd, rfl⟩ := List.mem_map.mp hx
  have := h d hd
  exact ⟨by omega, Int.lt_of_le_of_lt (show d + 1 ≤ 4 by omega) (by decide +kernel)⟩
theorem law_b8 {f p a l : Nat} {v0 : SV} {n c : Int} {fr t sg : List Nat} {ff lab : Nat → Nat} {ds : List Int} {u : Option SV} {led : Led} {K : Fl → Loc → Led → Prop} (H : Cs led u (some (.str sg))) (S : SgOk sg ff lab) (hd : In4 ds) (hl : ds.length ≤ 90) (hc : d2i 2 (ds.map (· + 1)) = c)
    (q : ∀ g, K .next (locG v0 p n a fr t l c (ds.map (sgn sg))) (led ++ g)) :
    (run (f + 30)).ex (cxL ls) (lB 8) (locG v0 p n a fr t l c (ds.map (sgn sg))) led K := by
  have hf := fnd_digs S hd
  have hb := one_big hd
  have htl : (ds.map (sgn sg)).length ≤ 90 := by rw [List.length_map]; exact hl
  generalize ds.map (sgn sg) = tx at *
  conv => whnf
  refine ⟨by kernel_rfl, ?_⟩
  conv => whnf
  refine ⟨by omega, True.intro, ?_⟩
  refine compP_st (led := led ++ []) (f := fndF sg) True.intro (tx.map fun c => SV.str [c]) [] ?_ ?_ ?_
  · intro v hv acc K hacc q
    obtain ⟨x, hx, rfl⟩ := List.mem_map.mp hv
    have hacc : acc.length + 1 ≤ 100000 := hacc
    rw [List.append_nil] at q ⊢
    conv => whnf
    rw [xname_cell (k := 1) (v := .str sg) (by kernel_rfl) (by kernel_rfl) H.g]
    conv => whnf
    exact ⟨by omega, q [(Str.ofString "sign", .str [x])]⟩
  · rw [fnd_flat, List.length_map, List.length_map]; show 0 + _ ≤ _; omega
  · rw [fnd_flat, hf]
    conv => whnf
    refine ⟨_, TrimC.stay, ?_⟩
    rw [List.append_nil]
    conv => whnf
    refine ⟨_, 2, ds.map (· + 1), rfl, List.getElem?_concat_length, by rw [List.length_map]; omega, hb, by decide, by decide, ?_⟩
    rw [hc]
    conv => whnf
    rw [decide_eq_true rfl]
    conv => whnf
    exact q _
end Mine
end
section
open PySem PySem.W PyProof.Rows PySem.Calls PyProof.V PySem.Spec
namespace Mine
set_option maxRecDepth 100000
set_option maxHeartbeats 8000000
variable {ls : Option (Addr × List Int)}
set_option pp.deepTerms false
set_option pp.maxSteps 600
theorem law_wloop {f p a l : Nat} {a0 : Value} {n c : Int} {fr u : List Nat} {ob : Obj} {led : Led} {K : Fl → Loc → Led → Prop} (hl : led[l]? = some (.frz ob)) : ∀ (w t : List Nat), t.length * 2 ^ w.length ≤ 5000 →
    K .next (locG (.fn a0) p n a fr u l c (writes w t)) led →
    forP led.length (xBody (run (f + 40)) (cxL ls) (forTgt (lB 9)) (forBody (lB 9))) (fun led => led[l]? = some (.frz ob)) (wdI w) (locG (.fn a0) p n a fr u l c t) led K := by
  intro w
  induction w with
  | nil => exact fun t _ q => q
  | cons h w ih =>
    intro t ht q
    have hp : 0 < 2 ^ w.length := Nat.pow_pos (by decide)
    have e : t.length * 2 ^ (h :: w).length = 2 * t.length * 2 ^ w.length := by
      rw [List.length_cons, Nat.pow_succ, Nat.mul_comm (2 ^ w.length) 2, ← Nat.mul_assoc, Nat.mul_comm t.length 2]
    have h1 := Nat.le_mul_of_pos_right (2 * t.length) hp
    have h2 := (wrh_len h t).2
    have h3 := Nat.mul_le_mul_right (2 ^ w.length) h2
    refine for_cons (v := .int (h : Int)) (vs := wdI w) ?_
    conv => whnf
    refine ⟨h, t, rfl, by omega, ?_⟩
    conv => whnf
    exact ⟨hl, led, locG (.fn a0) p n a fr u l c (wrh h t), ⟨⟨9, rfl⟩, .inl rfl⟩, hl, ih (wrh h t) (by omega) q⟩
theorem law_b9 {f p a l : Nat} {a0 : Value} {n c : Int} {fr t w tx : List Nat} {led : Led} {K : Fl → Loc → Led → Prop} (hl : led[l]? = some (.list (wdI w))) (hw : w.length ≤ 4) (ht : tx.length ≤ 90)
    (q : K .next (locG (.fn a0) p n a fr t l c (writes w tx)) led) :
    (run (f + 45)).ex (cxL ls) (lB 9) (locG (.fn a0) p n a fr t l c tx) led K := by
  conv => whnf
  rw [cit_list (hl := hl) (hx := ?hx)]
  case hx => kernel_rfl
  conv => whnf
  rw [hl]
  refine ⟨by unfold wdI; rw [List.length_map]; omega, fun ob => ?_⟩
  have hl9 : (led.set l (.frz ob))[l]? = some (.frz ob) := List.getElem?_set_self (ltOfL hl)
  refine law_wloop (f := f + 4) hl9 w tx ?_ ?_
  · have : 2 ^ w.length ≤ 2 ^ 4 := Nat.pow_le_pow_right (by decide) hw
    have := Nat.mul_le_mul ht this
    omega
  · rw [show ((fun l_1 : Led => List.set l_1 l (SO.list (wdI w))) (led.set l (.frz ob))) = led from set_back hl]
    exact q
theorem law_b10 {f p a l : Nat} {v0 : SV} {n c : Int} {fr t tx : List Nat} {u g : Option SV} {led : Led} {K : Fl → Loc → Led → Prop} (H : Cs led u g) (ht : tx.length ≤ 1000) (hu : t.length ≤ 2)
    (q : Cs (led.set 0 (.cell (some (.str (tx ++ 34 :: t))))) (some (.str (tx ++ 34 :: t))) g → K .next (locG v0 p n a fr t l c tx) (led.set 0 (.cell (some (.str (tx ++ 34 :: t)))))) :
    (run (f + 30)).ex (cxL ls) (lB 10) (locG v0 p n a fr t l c tx) led K := by
  conv => whnf
  refine ⟨by show _ + 1 ≤ _; omega, ?_⟩
  conv => whnf
  refine ⟨by rw [List.length_append]; show _ + 1 + _ ≤ _; omega, ?_⟩
  rw [show tx ++ (Str.ofString "\"").cps.toList ++ t = tx ++ 34 :: t from List.append_assoc tx [34] t]
  conv => whnf
  rw [H.u]
  exact q H.setU
end Mine
end
section
open PySem PySem.W PyProof.Rows PySem.Calls PyProof.V PySem.Spec
namespace Mine
set_option maxRecDepth 100000
set_option maxHeartbeats 8000000
variable {ls : Option (Addr × List Int)}
set_option pp.deepTerms false
set_option pp.maxSteps 600
theorem pf_mem : ∀ (n : Nat) (t : List Nat), t.length ≤ n → ∀ c ∈ pf t, c ∈ t
  | _, [], _, c, h => by rw [pf_nil] at h; exact h
  | n + 1, c :: r, hl, x, h => by
    rw [List.length_cons] at hl
    rw [pf_cons] at h
    split at h
    · rename_i e
      cases r with
      | nil => cases h
      | cons d r =>
        dsimp only at h
        split at h
        · rcases List.mem_cons.mp h with rfl | h
          · rw [e]; exact .head _
          · exact .tail _ (.tail _ (pf_mem n r (by rw [List.length_cons] at hl; omega) x h))
        · cases h
    · rcases List.mem_cons.mp h with rfl | h
      · exact .head _
      · exact .tail _ (pf_mem n r (by omega) x h)
set_option tactic.hygienic false in
theorem gqX_mem : ∀ (n : Nat) (t : List Nat), t.length ≤ n → (∀ c ∈ (gqX t).1, c ∈ t) ∧ ∀ c ∈ (gqX t).2.1, c ∈ t
  | _, [], _ => ⟨fun _ h => (nomatch h), fun _ h => nomatch h⟩
  | n + 1, c :: r, hl => by
    rw [List.length_cons] at hl
    by_cases h9 : c = 92
    · subst h9
      cases r with
      | nil => exact ⟨fun _ h => (nomatch h), fun _ h => nomatch h⟩
      | cons d r =>
        rw [List.length_cons] at hl
        obtain ⟨h1, h2⟩ := gqX_mem n r (by omega)
        have e : gqX (92 :: d :: r) = (d :: (gqX r).1, (gqX r).2.1, (gqX r).2.2.1 + (if d = 10 then 1 else 0), (gqX r).2.2.2) := by rw [gqX]
        rw [e]
        refine ⟨fun x h => ?_, fun x h => .tail _ (.tail _ (h2 x h))⟩
        rcases List.mem_cons.mp h with rfl | h
        · exact .tail _ (.head _)
        · exact .tail _ (.tail _ (h1 x h))
    · by_cases h3 : c = 34
      · subst h3
        exact ⟨fun _ h => (nomatch h), fun x h => .tail _ h⟩
      · obtain ⟨h1, h2⟩ := gqX_mem n r (by omega)
        rw [gqX_other h3 h9]
        refine ⟨fun x h => ?_, fun x h => .tail _ (h2 x h)⟩
        rcases List.mem_cons.mp h with rfl | h
        · exact .head _
        · exact .tail _ (h1 x h)
set_option tactic.hygienic false in
theorem strOk_of {l : List Nat} (h : ∀ c ∈ l, c < 1114112) : PyData.strOk (strOf l) = true := by
  show (l.toArray.all (· < 0x110000)) = true
  rw [Array.all_eq_true_iff_forall_mem]
  intro c hc
  exact decide_eq_true (h c (by simpa using hc))
noncomputable def RdRow (led : Led) (i : Nat) (s : List Nat) : Prop := ∃ a0 a1 : Nat, led[i]? = some (.list [.loc a0, .loc a1]) ∧ led[a0]? = some (.list (rdL 0 s)) ∧ led[a1]? = some (.list (rdL 1 s))
set_option tactic.hygienic false in
theorem RdRow.app {led g : Led} {i : Nat} {s : List Nat} (h : RdRow led i s) : RdRow (led ++ g) i s :=
  let ⟨a0, a1, h1, h2, h3⟩ := h
  ⟨a0, a1, at_l h1 _, at_l h2 _, at_l h3 _⟩
noncomputable def rdD (s : List Nat) : PyData := .list [.list [.str (strOf (pf s))], .list [.str (strOf (gqX s).1), .str (strOf (gqX s).2.1), .int (1 + ((gqX s).2.2.1 : Int))]]
set_option tactic.hygienic false in
theorem rd_row {led : Led} {i : Nat} {s : List Nat} (h : RdRow led i s) : rdP led (rdD s) (.loc i) := by
  obtain ⟨a0, a1, h1, h2, h3⟩ := h
  unfold rdD
  simp only [rdP, rdAll]
  exact ⟨i, _, rfl, h1, _, _, rfl, ⟨a0, _, rfl, h2, _, _, rfl, ⟨_, rfl, rfl⟩, rfl⟩, _, _, rfl, ⟨a1, _, rfl, h3, _, _, rfl, ⟨_, rfl, rfl⟩, _, _, rfl, ⟨_, rfl, rfl⟩, _, _, rfl, rfl, rfl⟩, rfl⟩
set_option tactic.hygienic false in
theorem rd_shaped {s : List Nat} (h : ∀ c ∈ s, c < 1114112) : SeqAt.shaped (rdD s) = true := by
  have e1 := strOk_of (l := pf s) fun c hc => h c (pf_mem _ s (Nat.le_refl _) c hc)
  have e2 := strOk_of (l := (gqX s).1) fun c hc => h c ((gqX_mem _ s (Nat.le_refl _)).1 c hc)
  have e3 := strOk_of (l := (gqX s).2.1) fun c hc => h c ((gqX_mem _ s (Nat.le_refl _)).2 c hc)
  unfold rdD
  simp [SeqAt.shaped, PyData.canLay0, PyData.canLayAll0, PyData.depth, PyData.depthAll, e1, e2, e3]
set_option tactic.hygienic false in
theorem rd_eqv (s : List Nat) : PyData.eqv (rdD s) (rdD s) = true := by
  unfold rdD
  simp [PyData.eqv, PyData.eqvAll]
set_option tactic.hygienic false in
theorem rd_ne {led : Led} {i j : Nat} {s : List Nat} {K : Bool → Led → Prop} (hi : RdRow led i s) (hj : RdRow led j s) (h : ∀ c ∈ s, c < 1114112) (k : K false led) : xcmpL .NotEq (.loc i) (.loc j) led K := by
  refine .inr ⟨rdD s, rdD s, rd_row hi, rd_row hj, rd_shaped h, rd_shaped h, ?_⟩
  rw [rd_eqv]
  exact k
set_option tactic.hygienic false in
theorem rd_set {led : Led} {o X r0 r1 : SO} : led ++ [X, r0, r1] = (led ++ [o] ++ [] ++ [r0] ++ [r1]).set led.length X := by
  rw [List.append_nil, List.append_assoc, List.append_assoc, List.set_append_right _ _ (Nat.le_refl _), Nat.sub_self]
  rfl
set_option tactic.hygienic false in
theorem rd_made {led : Led} {o X r0 r1 : SO} {s : List Nat} (h0 : r0 = .list (rdL 0 s)) (h1 : r1 = .list (rdL 1 s)) : RdRow (led ++ [X, r0, r1] ++ [.list [.loc (led ++ [o] ++ []).length, .loc (led ++ [o] ++ [] ++ [r0]).length]]) (led ++ [X, r0, r1]).length s := by
  subst h0
  subst h1
  refine ⟨_, _, List.getElem?_concat_length, ?_, ?_⟩
  · refine at_l ?_ _
    rw [List.append_nil, List.length_append, List.getElem?_append_right (Nat.le_add_right _ _), Nat.add_sub_cancel_left]; rfl
  · refine at_l ?_ _
    rw [List.append_nil, List.append_assoc, List.length_append, List.getElem?_append_right (Nat.le_add_right _ _), Nat.add_sub_cancel_left]; rfl
theorem law_b11 {f p a l : Nat} {v0 : SV} {n c : Int} {fr t tx s : List Nat} {g : Option SV} {led : Led} {K : Fl → Loc → Led → Prop} (H : Cs led (some (.str s)) g) (hs : s.length ≤ 1000) (hc : ∀ c ∈ s, c ≠ 33 ∧ c ≠ 63 ∧ c < 1114112)
    (q : ∀ L, Cs L (some (.str s)) g → K .next (locG v0 p n a fr t l c tx) L) :
    (run (f + 30)).ex (cxL ls) (lB 11) (locG v0 p n a fr t l c tx) led K := by
  conv => whnf
  refine ⟨by kernel_rfl, ?_⟩
  conv => whnf
  refine ⟨Nat.le_of_ble_eq_true rfl, ?_⟩
  conv => whnf
  rw [List.getElem?_concat_length]
  refine ⟨Nat.le_of_ble_eq_true rfl, fun ob => ?_⟩
  rw [set_last]
  refine ⟨at_last0, ?_⟩
  refine comp_cons (v := .str (Str.ofString "257 \"").cps.toList) (vs := [.str (Str.ofString "\"").cps.toList]) ?_
  conv => whnf
  rw [xname_cell (k := 0) (v := .str s) (by kernel_rfl) (by kernel_rfl) (at_l (at_l H.u _) _)]
  conv => whnf
  refine .inl ⟨0, s, rfl, by omega, ?_⟩
  conv => whnf
  refine ⟨Nat.le_of_ble_eq_true rfl, at_l at_last0 _, _, [], ⟨⟨0, rfl⟩, .inl rfl⟩, at_l at_last0 _, ?_⟩
  refine comp_cons (v := .str (Str.ofString "\"").cps.toList) (vs := []) ?_
  conv => whnf
  rw [xname_cell (k := 0) (v := .str s) (by kernel_rfl) (by kernel_rfl) (at_l (at_l (at_l H.u _) _) _)]
  conv => whnf
  refine .inl ⟨1, s, rfl, by omega, ?_⟩
  conv => whnf
  refine ⟨Nat.le_of_ble_eq_true rfl, at_l (at_l at_last0 _) _, _, [], ⟨⟨0, rfl⟩, .inl rfl⟩, at_l (at_l at_last0 _) _, ?_⟩
  conv => whnf
  refine ⟨_, ⟨⟨0, rfl⟩, .inl (rd_set (r0 := SO.list (rdL 0 s)) (r1 := SO.list (rdL 1 s)) (o := .frz ob) (X := .list [SV.str (Str.ofString "257 \"").cps.toList, SV.str (Str.ofString "\"").cps.toList]))⟩, ?_⟩
  have hr1 := rd_made (led := led) (o := .frz ob) (X := .list [SV.str (Str.ofString "257 \"").cps.toList, SV.str (Str.ofString "\"").cps.toList]) (s := s) rfl rfl
  have HA := H.app [.list [SV.str (Str.ofString "257 \"").cps.toList, SV.str (Str.ofString "\"").cps.toList], SO.list (rdL 0 s), SO.list (rdL 1 s)]
  generalize led ++ [SO.list [SV.str (Str.ofString "257 \"").cps.toList, SV.str (Str.ofString "\"").cps.toList], SO.list (rdL 0 s), SO.list (rdL 1 s)] = A at *
  have HB := HA.app [.list [.loc (led ++ [SO.frz ob] ++ []).length, .loc (led ++ [SO.frz ob] ++ [] ++ [SO.list (rdL 0 s)]).length]]
  revert hr1 HB
  generalize hB : A ++ [SO.list [.loc (led ++ [SO.frz ob] ++ []).length, .loc (led ++ [SO.frz ob] ++ [] ++ [SO.list (rdL 0 s)]).length]] = B
  intro hr1 HB
  have conv : ∀ (F : Led → Prop), F B → F (A ++ [SO.list [.loc (led ++ [SO.frz ob] ++ []).length, .loc (led ++ [SO.frz ob] ++ [] ++ [SO.list (rdL 0 s)]).length]]) := fun F h => by rw [hB]; exact h
  refine conv (fun B => (run (f + 28)).ev (cxL ls) _ _ B _) ?_
  clear conv hB
  conv => whnf
  refine ⟨by kernel_rfl, ?_⟩
  conv => whnf
  refine ⟨Nat.le_of_ble_eq_true rfl, ?_⟩
  conv => whnf
  rw [List.getElem?_concat_length]
  refine ⟨Nat.le_of_ble_eq_true rfl, fun ob => ?_⟩
  rw [set_last]
  refine ⟨at_last0, ?_⟩
  refine comp_cons (v := .int 0) (vs := [.int 1]) ?_
  conv => whnf
  rw [xname_cell (k := 0) (v := .str s) (by kernel_rfl) (by kernel_rfl) (at_l (at_l HB.u _) _)]
  conv => whnf
  refine ⟨0, s, rfl, hs, fun c h => ⟨(hc c h).1, (hc c h).2.1⟩, .inl ⟨rfl, ?_⟩⟩
  conv => whnf
  refine ⟨Nat.le_of_ble_eq_true rfl, at_l at_last0 _, _, [], ⟨⟨0, rfl⟩, .inl rfl⟩, at_l at_last0 _, ?_⟩
  refine comp_cons (v := .int 1) (vs := []) ?_
  conv => whnf
  rw [xname_cell (k := 0) (v := .str s) (by kernel_rfl) (by kernel_rfl) (at_l (at_l (at_l HB.u _) _) _)]
  conv => whnf
  refine ⟨1, s, rfl, hs, fun c h => ⟨(hc c h).1, (hc c h).2.1⟩, .inr ⟨rfl, ?_⟩⟩
  conv => whnf
  refine ⟨Nat.le_of_ble_eq_true rfl, at_l (at_l at_last0 _) _, _, [], ⟨⟨0, rfl⟩, .inl rfl⟩, at_l (at_l at_last0 _) _, ?_⟩
  conv => whnf
  refine ⟨_, ⟨⟨0, rfl⟩, .inl (rd_set (r0 := SO.list (rdL 0 s)) (r1 := SO.list (rdL 1 s)) (o := .frz ob) (X := .list [SV.int 0, SV.int 1]))⟩, ?_⟩
  have hr2 := rd_made (led := B) (o := .frz ob) (X := .list [SV.int 0, SV.int 1]) (s := s) rfl rfl
  refine rd_ne (s := s) hr1.app.app hr2 (fun c h => (hc c h).2.2) ?_
  conv => whnf
  exact q _ ((HB.app _).app _)
end Mine
end
section
open PySem PySem.W PyProof.Rows PySem.Calls PyProof.V PySem.Spec
namespace Mine
set_option maxRecDepth 100000
set_option maxHeartbeats 8000000
variable {ls : Option (Addr × List Int)}
set_option pp.deepTerms false
set_option pp.maxSteps 600
noncomputable def locH (v0 : SV) (p : Nat) (n : Int) (a : Nat) (fr u : List Nat) (w : Nat) (c : Int) (t pa : List Nat) : Loc := locG v0 p n a fr u w c t ++ [(Str.ofString "partner", .str pa)]
noncomputable def locI (v0 : SV) (p : Nat) (n : Int) (a : Nat) (fr u : List Nat) (w : Nat) (c : Int) (t pa ba : List Nat) : Loc := locH v0 p n a fr u w c t pa ++ [(Str.ofString "back", .str ba)]
theorem law_b12 {f p a l : Nat} {v0 : SV} {n c : Int} {fr u tx : List Nat} {led : Led} {K : Fl → Loc → Led → Prop} (ht : tx.length ≤ 40) (hu : u.length ≤ 2) (hu2 : u.head? ≠ some 34) (q : K .next (locH v0 p n a fr u l c tx (partner 1 tx)) led) :
    (run (f + 30)).ex (cxL ls) (lB 12) (locG v0 p n a fr u l c tx) led K := by
  conv => whnf
  refine ⟨1, tx, u, rfl, .inr rfl, by omega, by omega, hu2, ?_⟩
  conv => whnf
  exact q
theorem law_b13 {f p a l : Nat} {v0 : SV} {n c : Int} {fr u tx pa : List Nat} {led : Led} {K : Fl → Loc → Led → Prop} (ht : tx.length ≤ 40) (hu : u.length ≤ 2) (hu2 : u.head? ≠ some 34) (q : K .next (locI v0 p n a fr u l c tx pa (partner 0 tx)) led) :
    (run (f + 30)).ex (cxL ls) (lB 13) (locH v0 p n a fr u l c tx pa) led K := by
  conv => whnf
  refine ⟨0, tx, u, rfl, .inl rfl, by omega, by omega, hu2, ?_⟩
  conv => whnf
  exact q
theorem law_b14 {f p a l : Nat} {v0 : SV} {n c : Int} {fr u tx pa ba : List Nat} {led : Led} {K : Fl → Loc → Led → Prop} (ht : tx.length ≤ 40) (hpl : pa.length ≤ 40) (hbl : ba.length ≤ 80) (hu : u.length ≤ 2) (hu2 : u.head? ≠ some 34)
    (h1 : pa = toldN tx) (h2 : partner 0 pa = tx) (h3 : partner 1 ba = tx) (q : K .next (locI v0 p n a fr u l c tx pa ba) led) :
    (run (f + 30)).ex (cxL ls) (lB 14) (locI v0 p n a fr u l c tx pa ba) led K := by
  conv => whnf
  refine ⟨tx, rfl, by omega, ?_⟩
  rw [← h1]
  conv => whnf
  rw [decide_eq_true rfl]
  conv => whnf
  refine ⟨0, pa, u, rfl, .inl rfl, by omega, by omega, hu2, ?_⟩
  rw [h2]
  conv => whnf
  rw [decide_eq_true rfl]
  conv => whnf
  refine ⟨1, ba, u, rfl, .inr rfl, by omega, by omega, hu2, ?_⟩
  rw [h3]
  conv => whnf
  rw [decide_eq_true rfl]
  conv => whnf
  exact q
theorem law_b15 {f p a l : Nat} {v0 : SV} {n c : Int} {fr t sg tx ba : List Nat} {ff lab : Nat → Nat} {ds : List Int} {u : Option SV} {led : Led} {K : Fl → Loc → Led → Prop} (H : Cs led u (some (.str sg))) (S : SgOk sg ff lab) (hd : In4 ds) (hl : ds.length ≤ 40)
    (q : ∀ g, K .next (locI v0 p n a fr t l c tx (ds.map (sgn sg)) ba) (led ++ g)) :
    (run (f + 30)).ex (cxL ls) (lB 15) (locI v0 p n a fr t l c tx (ds.map (sgn sg)) ba) led K := by
  have hf := fnd_digs S hd
  have hb := one_big hd
  have htl : (ds.map (sgn sg)).length ≤ 40 := by rw [List.length_map]; exact hl
  obtain ⟨b0, -⟩ := d2i_lt hd
  have hN : 0 ≤ d2i 2 (ds.map (· + 1)) := by
    rw [d2i_one]
    have := rep4_pow ds.length
    have : (0 : Int) < 4 ^ ds.length := Int.pow_pos (by decide)
    omega
  have hcode := code2 hd
  obtain ⟨-, hlen, -⟩ := code1 hN
  have hlt : ltxt sg (d2i 2 (ds.map (· + 1))) = ds.map (sgn sg) := by unfold ltxt; rw [hcode]
  rw [hcode] at hlen
  clear hcode
  generalize hNN : d2i 2 (ds.map (· + 1)) = N at *
  generalize ds.map (sgn sg) = px at *
  conv => whnf
  refine ⟨by kernel_rfl, ?_⟩
  conv => whnf
  refine ⟨by omega, True.intro, ?_⟩
  refine compP_st (led := led ++ []) (f := fndF sg) True.intro (px.map fun c => SV.str [c]) [] ?_ ?_ ?_
  · intro v hv acc K hacc q
    obtain ⟨x, hx, rfl⟩ := List.mem_map.mp hv
    have hacc : acc.length + 1 ≤ 100000 := hacc
    rw [List.append_nil] at q ⊢
    conv => whnf
    rw [xname_cell (k := 1) (v := .str sg) (by kernel_rfl) (by kernel_rfl) H.g]
    conv => whnf
    exact ⟨by omega, q [(Str.ofString "sign", .str [x])]⟩
  · rw [fnd_flat, List.length_map, List.length_map]; show 0 + _ ≤ _; omega
  · rw [fnd_flat, hf]
    conv => whnf
    refine ⟨_, TrimC.stay, ?_⟩
    rw [List.append_nil]
    conv => whnf
    refine ⟨_, 2, ds.map (· + 1), rfl, List.getElem?_concat_length, by rw [List.length_map]; omega, hb, by decide, by decide, ?_⟩
    rw [hNN]
    conv => whnf
    rw [xname_cell (k := 1) (v := .str sg) (by kernel_rfl) (by kernel_rfl) (at_l H.g _)]
    conv => whnf
    refine ⟨N, sg, rfl, hN, by omega, S.n, ?_⟩
    rw [hlt]
    conv => whnf
    rw [decide_eq_true rfl]
    conv => whnf
    exact q _
noncomputable def digs (z : Nat) : List Nat := (Str.ofString (toString (z : Int))).cps.toList
set_option tactic.hygienic false in
theorem digs_all : ((List.range 1000).all fun z => decide (1 ≤ (digs z).length) && decide ((digs z).length ≤ 3) && (if z = 257 then true else decide ((digs z ++ [32, 34]).take 3 ≠ [50, 53, 55])) && (digs z).all fun c => decide (c < 1114112)) = true := by decide +kernel
set_option tactic.hygienic false in
theorem digs_ok {z : Nat} (h : z < 1000) : 1 ≤ (digs z).length ∧ (digs z).length ≤ 3 ∧ (z ≠ 257 → ∀ t, (digs z ++ [32, 34] ++ t).take 3 ≠ [50, 53, 55]) ∧ ∀ c ∈ digs z, c < 1114112 := by
  have y := List.all_eq_true.mp digs_all z (List.mem_range.mpr h)
  simp only [Bool.and_eq_true, decide_eq_true_eq, List.all_eq_true] at y
  obtain ⟨⟨⟨y1, y2⟩, y3⟩, y4⟩ := y
  refine ⟨y1, y2, fun e t => ?_, y4⟩
  rw [if_neg e] at y3
  rw [List.take_append_of_le_length (by rw [List.length_append]; show 3 ≤ _ + 2; omega)]
  exact of_decide_eq_true y3
noncomputable def locJ (v0 : SV) (p : Nat) (n : Int) (a : Nat) (fr u : List Nat) (w : Nat) (c : Int) (t pa ba : List Nat) (z : Nat) : Loc := locI v0 p n a fr u w c t pa ba ++ [(Str.ofString "front", .str (digs z ++ [32, 34]))]
theorem law_b16 {f p a l : Nat} {v0 : SV} {n c : Int} {fr u tx pa ba : List Nat} {led : Led} {K : Fl → Loc → Led → Prop} (q : ∀ z : Nat, z < 1000 → n.fmod 1000 = z → K .next (locJ v0 p n a fr u l c tx pa ba z) led) :
    (run (f + 30)).ex (cxL ls) (lB 16) (locI v0 p n a fr u l c tx pa ba) led K := by
  have m0 := Int.fmod_nonneg_of_pos n (show (0 : Int) < 1000 by decide)
  have m1 := Int.fmod_lt_of_pos n (show (0 : Int) < 1000 by decide)
  obtain ⟨z, hz⟩ : ∃ z : Nat, n.fmod 1000 = z := ⟨(n.fmod 1000).toNat, by omega⟩
  obtain ⟨d1, d2, -, -⟩ := digs_ok (z := z) (by omega)
  have z9 := q z (by omega) hz
  conv => whnf
  refine ⟨by decide, ?_⟩
  rw [hz]
  conv => whnf
  refine ⟨by omega, ?_⟩
  rw [show (Str.ofString (toString ((z : Nat) : Int))).cps.toList = digs z from rfl]
  unfold locJ at z9
  generalize digs z = d at *
  conv => whnf
  refine ⟨by show _ + 2 ≤ _; omega, ?_⟩
  conv => whnf
  exact z9
end Mine
end
section
open PySem PySem.W PyProof.Rows PySem.Calls PyProof.V PySem.Spec
namespace Mine
set_option maxRecDepth 100000
set_option maxHeartbeats 8000000
variable {ls : Option (Addr × List Int)}
set_option pp.deepTerms false
set_option pp.maxSteps 600
set_option tactic.hygienic false in
theorem two_ne {led : Led} {i j : Nat} {x : List Nat} {K : Bool → Led → Prop} (hi : led[i]? = some (.list [.str [], .str x])) (hj : led[j]? = some (.list [.str [], .str x])) (h : ∀ c ∈ x, c < 1114112) (k : K false led) : xcmpL .NotEq (.loc i) (.loc j) led K := by
  have e1 := strOk_of (l := x) h
  have e0 := strOk_of (l := []) fun _ h => nomatch h
  have rd : ∀ i, led[i]? = some (.list [.str [], .str x]) → rdP led (.list [.str (strOf []), .str (strOf x)]) (.loc i) := fun i h => by
    simp only [rdP, rdAll]
    exact ⟨i, _, rfl, h, _, _, rfl, ⟨_, rfl, rfl⟩, _, _, rfl, ⟨_, rfl, rfl⟩, rfl⟩
  have sh : SeqAt.shaped (.list [.str (strOf []), .str (strOf x)]) = true := by simp [SeqAt.shaped, PyData.canLay0, PyData.canLayAll0, PyData.depth, PyData.depthAll, e0, e1]
  refine .inr ⟨_, _, rd i hi, rd j hj, sh, sh, ?_⟩
  rw [show PyData.eqv (.list [.str (strOf []), .str (strOf x)]) (.list [.str (strOf []), .str (strOf x)]) = true by simp [PyData.eqv, PyData.eqvAll]]
  exact k
theorem law_b17 {f p a l z : Nat} {v0 : SV} {n c : Int} {fr u tx pa ba s : List Nat} {g : Option SV} {led : Led} {K : Fl → Loc → Led → Prop} (H : Cs led (some (.str s)) g) (hs : s.length ≤ 900) (hc : ∀ c ∈ s, c < 1114112) (hz : z < 1000) (hn : n.fmod 1000 = z)
    (q : ∀ g, K .next (locJ v0 p n a fr u l c tx pa ba z) (led ++ g)) :
    (run (f + 30)).ex (cxL ls) (lB 17) (locJ v0 p n a fr u l c tx pa ba z) led K := by
  obtain ⟨d1, d2, d3, d4⟩ := digs_ok hz
  by_cases h7 : z = 257
  · have z9 := q []
    rw [List.append_nil] at z9
    unfold locJ at z9 ⊢
    generalize digs z = d at *
    conv => whnf
    refine ⟨by decide, ?_⟩
    rw [hn, h7]
    conv => whnf
    exact z9
  · have h3 := d3 h7 s
    unfold locJ at q ⊢
    generalize hfr : digs z ++ [32, 34] = d at *
    have hdl : d.length ≤ 5 := by rw [← hfr, List.length_append]; show _ + 2 ≤ _; omega
    have hd34 : d ≠ [34] := fun e => by
      rw [e] at hfr
      have := congrArg List.length hfr
      rw [List.length_append] at this
      have : (digs z).length + 2 = 1 := this
      omega
    have hok : ∀ c ∈ d ++ s, c < 1114112 := fun c h => by
      rcases List.mem_append.mp h with h | h
      · rw [← hfr] at h
        rcases List.mem_append.mp h with h | h
        · exact d4 c h
        · simp only [List.mem_cons, List.not_mem_nil, or_false] at h
          rcases h with rfl | rfl <;> decide
      · exact hc c h
    conv => whnf
    refine ⟨by decide, ?_⟩
    rw [hn]
    conv => whnf
    rw [decide_eq_false (show ¬ (z : Int) = 257 by omega)]
    conv => whnf
    rw [xname_cell (k := 0) (v := .str s) (by kernel_rfl) (by kernel_rfl) H.u]
    conv => whnf
    refine .inr ⟨d, s, rfl, by omega, by omega, hd34, h3, ?_⟩
    conv => whnf
    rw [xname_cell (k := 0) (v := .str s) (by kernel_rfl) (by kernel_rfl) (at_l H.u _)]
    conv => whnf
    refine ⟨by omega, ?_⟩
    conv => whnf
    refine ⟨Nat.le_of_ble_eq_true rfl, ?_⟩
    refine two_ne (x := d ++ s) (at_l List.getElem?_concat_length _) List.getElem?_concat_length hok ?_
    conv => whnf
    rw [List.append_assoc]
    exact q _
end Mine
end
section
open PySem PySem.W PyProof.Rows PySem.Calls PyProof.V PySem.Spec
namespace Mine
set_option maxRecDepth 100000
set_option maxHeartbeats 8000000
set_option pp.deepTerms false
set_option pp.maxSteps 600
theorem wrh_mem (h : Nat) : ∀ t : List Nat, ∀ c ∈ wrh h t, c = 34 ∨ c = 92 ∨ c ∈ t
  | [], c, hc => by unfold wrh at hc; split at hc <;> cases hc
  | d :: r, c, hc => by
    have ih := wrh_mem h r c
    unfold wrh at hc ih
    split at hc
    · rename_i e
      rw [if_pos e] at ih
      rw [wr0] at hc
      split at hc
      · simp only [List.mem_cons] at hc ⊢
        rcases hc with hc | hc | hc
        · exact .inl hc
        · exact .inl hc
        · rcases ih hc with h | h | h
          · exact .inl h
          · exact .inr (.inl h)
          · exact .inr (.inr (.inr h))
      · simp only [List.mem_cons] at hc ⊢
        rcases hc with hc | hc
        · exact .inr (.inr (.inl hc))
        · rcases ih hc with h | h | h
          · exact .inl h
          · exact .inr (.inl h)
          · exact .inr (.inr (.inr h))
    · rename_i e
      rw [if_neg e] at ih
      rw [wr1] at hc
      split at hc
      · simp only [List.mem_cons] at hc ⊢
        rcases hc with hc | hc | hc
        · exact .inr (.inl hc)
        · exact .inr (.inr (.inl hc))
        · rcases ih hc with h | h | h
          · exact .inl h
          · exact .inr (.inl h)
          · exact .inr (.inr (.inr h))
      · simp only [List.mem_cons] at hc ⊢
        rcases hc with hc | hc
        · exact .inr (.inr (.inl hc))
        · rcases ih hc with h | h | h
          · exact .inl h
          · exact .inr (.inl h)
          · exact .inr (.inr (.inr h))
set_option tactic.hygienic false in
theorem writes_mem : ∀ (w t : List Nat), ∀ c ∈ writes w t, c = 34 ∨ c = 92 ∨ c ∈ t
  | [], _, _, hc => .inr (.inr hc)
  | h :: w, t, c, hc => by
    rcases writes_mem w (wrh h t) c hc with e | e | e
    · exact .inl e
    · exact .inr (.inl e)
    · exact wrh_mem h t c e
noncomputable def okC (t : List Nat) : Prop := ∀ c ∈ t, c ≠ 33 ∧ c ≠ 63 ∧ c < 1114112
set_option tactic.hygienic false in
theorem writes_ok {w t : List Nat} (h : okC t) : okC (writes w t) := fun c hc => by
  rcases writes_mem w t c hc with rfl | rfl | e
  · decide
  · decide
  · exact h c e
set_option tactic.hygienic false in
theorem sgn_ok {sg : List Nat} {f lab : Nat → Nat} (S : SgOk sg f lab) {ds : List Int} (h : In4 ds) : okC (ds.map (sgn sg)) := fun c hc => by
  obtain ⟨d, hd, rfl⟩ := List.mem_map.mp hc
  obtain ⟨d0, d1⟩ := h d hd
  have hn := S.n
  unfold sgn
  rw [List.getElem?_eq_getElem (show d.toNat < sg.length by omega)]
  exact S.ok _ (List.getElem_mem _)
set_option tactic.hygienic false in
theorem law_body2 : forBody (stOf 197 0) = [lB 0, lB 1, lB 2, lB 3, lB 4, lB 5, lB 6, lB 7, lB 8, lB 9, lB 10, lB 11, lB 12, lB 13, lB 14, lB 15, lB 16, lB 17] := by kernel_rfl
theorem law_step {f p : Nat} {a : Addr} {ns : List Int} {u g : Option SV} {led : Led} {K : Fl → Loc → Led → Prop} (hp : p < 4) (hn : ns.length ≤ 63) (H : Cs led u g)
    (q : ∀ e L u g, Cs L u g → K .next (loc2 (.fn (.ref a)) p ++ e) L) :
    (run (f + 90)).xs (cxL (some (a, ns))) (forBody (stOf 197 0)) (loc2 (.fn (.ref a)) p) led K := by
  rw [law_body2]
  refine xs_cons (n := f + 89) (law_b0 (f := f + 59) hp hn H fun n L h0 H1 => ?_)
  refine xs_cons (n := f + 88) (law_b1 (f := f + 58) fun b hb => ?_)
  refine xs_cons (n := f + 87) (law_b2 (f := f + 57) hb fun k hk => ?_)
  refine xs_cons (n := f + 86) (law_b3 (f := f + 56) H1 fun r hr H3 => ?_)
  have S := sg_ok hb hk hr
  unfold sgT at S
  generalize fOf (sixA b) (sixA ((b + 1 + k) % 6)) = ff at S
  generalize sgOf (sixA b) (sixA ((b + 1 + k) % 6)) r = sg at *
  generalize fourOf (sixA b) (sixA ((b + 1 + k) % 6)) = fr at *
  generalize labOf r = lab at S
  generalize L.set 1 (.cell (some (.str sg))) = L3 at *
  refine xs_cons (n := f + 85) (law_b4 (f := f + 55) H3 fun m L4 hm H4 => ?_)
  obtain ⟨t1, t2, t3⟩ := tail_ok ⟨m, hm⟩
  dsimp only at t1 t2 t3
  generalize tailOf m = tl at *
  refine xs_cons (n := f + 84) (law_b5 (f := f + 54) H4 fun w L5 l hw H5 hl => ?_)
  refine xs_cons (n := f + 83) (law_b6 (f := f + 53) H5 hw hl fun c g6 hc0 hcs => ?_)
  have H6 := H5.app g6
  have hl6 := at_l hl g6
  generalize L5 ++ g6 = L6 at *
  refine xs_cons (n := f + 82) (law_b7 (f := f + 52) H6 S.n hc0 hcs ?_)
  obtain ⟨c1, c2, c3⟩ := code1 hc0
  have hcap := capOf_le w
  unfold ltxt
  generalize digsN c = ds at *
  refine xs_cons (n := f + 81) (law_b8 (f := f + 51) H6 S c1 (by omega) c3 fun g8 => ?_)
  have H8 := H6.app g8
  have hl8 := at_l hl6 g8
  generalize L6 ++ g8 = L8 at *
  have hwl : w.length ≤ 4 := by
    unfold wordsL at hw
    simp only [List.mem_cons, List.not_mem_nil, or_false] at hw
    rcases hw with rfl | rfl | rfl | rfl | rfl | rfl | rfl | rfl | rfl | rfl <;> decide
  refine xs_cons (n := f + 80) (law_b9 (f := f + 35) hl8 hwl (by rw [List.length_map]; omega) ?_)
  obtain ⟨m1, m2⟩ := map_labs S c1
  obtain ⟨e1, e2, e3, e4, P, e5, e6, e7⟩ := law_fin S.lf hw (mem_texts m2 (by rw [List.length_map]; omega))
  rw [← m1] at e1 e2 e3 e4 e5
  have hok := writes_ok (w := w) (sgn_ok S c1)
  generalize writes w (ds.map (sgn sg)) = tx at *
  have hok2 : okC (tx ++ 34 :: tl) := fun c hc => by
    rcases List.mem_append.mp hc with hc | hc
    · exact hok c hc
    · rcases List.mem_cons.mp hc with rfl | hc
      · decide
      · exact t3 c hc
  have hsl : (tx ++ 34 :: tl).length ≤ 50 := by rw [List.length_append, List.length_cons]; omega
  refine xs_cons (n := f + 79) (law_b10 (f := f + 49) H8 (by omega) t1 fun H10 => ?_)
  generalize tx ++ 34 :: tl = sh at *
  generalize L8.set 0 (.cell (some (.str sh))) = L10 at *
  refine xs_cons (n := f + 78) (law_b11 (f := f + 48) H10 (by omega) hok2 fun L11 H11 => ?_)
  refine xs_cons (n := f + 77) (law_b12 (f := f + 47) e4 t1 t2 ?_)
  have hbl := partner_len 0 tx
  obtain ⟨ds2, d1, d2, d3⟩ := back_digs S e7
  rw [← d2] at e5
  rw [e5] at e1 e2 ⊢
  refine xs_cons (n := f + 76) (law_b13 (f := f + 46) e4 t1 t2 ?_)
  refine xs_cons (n := f + 75) (law_b14 (f := f + 45) e4 (by rw [List.length_map]; omega) (by omega) t1 t2 e1 e2 e3 ?_)
  refine xs_cons (n := f + 74) (law_b15 (f := f + 44) H11 S d1 (by omega) fun g15 => ?_)
  have H15 := H11.app g15
  generalize L11 ++ g15 = L15 at *
  refine xs_cons (n := f + 73) (law_b16 (f := f + 43) fun z hz hzn => ?_)
  refine xs_cons (n := f + 72) (law_b17 (f := f + 42) H15 (by omega) (fun c h => (hok2 c h).2.2) hz hzn fun g17 => ?_)
  refine xs_nil (n := f + 71) ?_
  exact q _ _ _ _ (H15.app g17)
end Mine
end
section
open PySem PySem.W PyProof.Rows PySem.Calls PyProof.V PySem.Spec
namespace Mine
set_option maxRecDepth 100000
set_option maxHeartbeats 8000000
set_option pp.deepTerms false
set_option pp.maxSteps 600
set_option tactic.hygienic false in
theorem law_body : bodyOf 197 = [stOf 197 0, stOf 197 1] := by kernel_rfl
set_option tactic.hygienic false in
theorem law_all {a : Addr} {ns : List Int} {K : Fl → Loc → Led → Prop} (hn : ns.length ≤ 63) (q : ∀ loc led, K (.ret (.bool true)) loc led) :
    (run 110).xs (cxL (some (a, ns))) (bodyOf 197) [(Str.ofString "script", .fn (.ref a))] [.cell none, .cell none] K := by
  rw [law_body]
  have c0 : Cs [.cell none, .cell none] none none := ⟨rfl, rfl⟩
  generalize [SO.cell none, SO.cell none] = led at *
  refine xs_cons (n := 109) ?_
  conv => whnf
  refine ⟨by decide, by decide, ?_⟩
  refine for_cons (v := .int 0) (vs := [.int 1, .int 2, .int 3]) ?_
  refine law_step (f := 18) (p := 0) (by decide) hn c0 fun e L u n c1 => ?_
  refine ⟨True.intro, L, _, ⟨⟨1, rfl⟩, .inl rfl⟩, True.intro, ?_⟩
  refine for_cons (v := .int 1) (vs := [.int 2, .int 3]) ?_
  refine law_step (f := 18) (p := 1) (by decide) hn c1 fun e L u n c2 => ?_
  refine ⟨True.intro, L, _, ⟨⟨1, rfl⟩, .inl rfl⟩, True.intro, ?_⟩
  refine for_cons (v := .int 2) (vs := [.int 3]) ?_
  refine law_step (f := 18) (p := 2) (by decide) hn c2 fun e L u n c3 => ?_
  refine ⟨True.intro, L, _, ⟨⟨1, rfl⟩, .inl rfl⟩, True.intro, ?_⟩
  refine for_cons (v := .int 3) (vs := []) ?_
  refine law_step (f := 18) (p := 3) (by decide) hn c3 fun e L u n c4 => ?_
  refine ⟨True.intro, L, _, ⟨⟨1, rfl⟩, .inl rfl⟩, True.intro, ?_⟩
  refine xs_cons (n := 108) ?_
  conv => whnf
  exact q _ _
end Mine
end
section
open PySem PySem.W PyProof.Rows PySem.Calls PyProof.V PySem.Spec
namespace Mine
set_option maxRecDepth 100000
set_option maxHeartbeats 8000000
set_option pp.deepTerms false
set_option pp.maxSteps 300
set_option tactic.hygienic false in
theorem Rt.Ok.plus {R : Rt} {D U k j : Nat} (h : R.Ok (D + 2) (U + 8)) (hk : k ≤ 8) (hj : j ≤ 2) : (R.plus k j).Ok D U :=
  ⟨h.below, h.inn, h.top, h.code, h.kind, by have := h.dep; show R.dp + j + D < _; omega, by have := h.uni; show R.un + k + U < _; omega⟩
set_option tactic.hygienic false in
theorem rd2_X {R : Rt} (hR : R.Ok 40 400) (hb : R.base = R.h₀) : FnX R 161 rd2S := (rd_ok R (hR.mono (by decide) (by decide))).or (rf_X hR hb)
set_option tactic.hygienic false in
theorem lawF_ok {R : Rt} (hR : R.Ok 170 640) (hb : R.base = R.h₀) : ∀ q sp, lawF q = some sp → (∀ k ≤ 8, ∀ j ≤ 2, FnX (R.plus k j) q sp) ∧ ∀ h m, Fr R.h₀ R.L h m → FnAt q h := by
  intro q sp hq
  have main : ∀ D U, D ≤ 168 → U ≤ 632 → FnOk D U q sp → ∀ k ≤ 8, ∀ j ≤ 2, FnX (R.plus k j) q sp := fun D U hD hU h k hk j hj =>
    h _ (Rt.Ok.plus (hR.mono (by omega) (by omega)) hk hj)
  unfold lawF at hq
  by_cases h1 : @Eq Nat q 149
  · rw [if_pos h1] at hq; injection hq with hq; subst hq; subst h1; exact ⟨main _ _ (by decide) (by decide) tx_ok, fun h m F => fnAt_of hR hd_tx.ho F⟩
  rw [if_neg h1] at hq
  by_cases h2 : @Eq Nat q 91
  · rw [if_pos h2] at hq; injection hq with hq; subst hq; subst h2; exact ⟨main _ _ (by decide) (by decide) d2i_ok, fun h m F => fnAt_of hR hd_d2i.ho F⟩
  rw [if_neg h2] at hq
  by_cases h3 : @Eq Nat q 154
  · rw [if_pos h3] at hq; injection hq with hq; subst hq; subst h3; exact ⟨main _ _ (by decide) (by decide) wr_ok, fun h m F => fnAt_of hR hd_wr.ho F⟩
  rw [if_neg h3] at hq
  by_cases h4 : @Eq Nat q 161
  · rw [if_pos h4] at hq; injection hq with hq; subst hq; subst h4
    exact ⟨fun k hk j hj => rd2_X (Rt.Ok.plus (hR.mono (by decide) (by decide)) hk hj) hb, fun h m F => fnAt_of hR hd_rd.ho F⟩
  rw [if_neg h4] at hq
  by_cases h5 : @Eq Nat q 166
  · rw [if_pos h5] at hq; injection hq with hq; subst hq; subst h5; exact ⟨main _ _ (by decide) (by decide) fo_ok, fun h m F => fnAt_of hR hd_fo.ho F⟩
  rw [if_neg h5] at hq
  by_cases h6 : @Eq Nat q 173
  · rw [if_pos h6] at hq; injection hq with hq; subst hq; subst h6; exact ⟨main _ _ (by decide) (by decide) pa_ok, fun h m F => fnAt_of hR hd_pa.ho F⟩
  rw [if_neg h6] at hq
  by_cases h7 : @Eq Nat q 192
  · rw [if_pos h7] at hq; injection hq with hq; subst hq; subst h7; exact ⟨main _ _ (by decide) (by decide) to_ok, fun h m F => fnAt_of hR hd_to.ho F⟩
  rw [if_neg h7] at hq
  cases hq
set_option tactic.hygienic false in
theorem sim_grown {R : Rt} {h : Heap} {ρ : List Addr} {led : Led} {ex : CbLed} (S : Sim R h ρ led ex) : GrownAll [(143, 139), (83, 79), (90, 86)] h := by
  obtain ⟨es, W, d, N⟩ := S
  obtain ⟨_, h1, -⟩ := d.tb.tab _ (.head _)
  obtain ⟨_, h2, -⟩ := d.tb.tab _ (.tail _ (.head _))
  obtain ⟨_, h3, -⟩ := d.tb.tab _ (.tail _ (.tail _ (.head _)))
  have up : ∀ {p}, p ∈ W → p ∈ es ++ (ex ++ W) := fun hp => List.mem_append_right _ (List.mem_append_right _ hp)
  exact ⟨GrownAt.of N (up h3), GrownAt.of N (up h1), GrownAt.of N (up h2), trivial⟩
set_option tactic.hygienic false in
theorem law_scope : hd.law.scope = (fdOf 197).scope := by kernel_rfl
noncomputable def lawCells (L : Addr) : List (Str × Addr) := [(Str.ofString "shut", L + 1 + 1), (Str.ofString "signs", L + 1)]
set_option tactic.hygienic false in
theorem law_cells (L : Addr) : cellsFrom (L + 1) hd.law.scope.names [] = lawCells L := by kernel_rfl
set_option tactic.hygienic false in
theorem dat_start {L : Addr} {o1 o0 : Obj} (d1 : o1.data = .cell none) (d0 : o0.data = .cell none) (hL : @LT.lt Nat _ 139 L ∧ @LT.lt Nat _ 79 L ∧ @LT.lt Nat _ 86 L) :
    Dat ((lawCells L).map (·.2)) [.cell none, .cell none] [] [(L + 1 + 1, o1), (L + 1, o0)] [(139, tabObj #[]), (79, tabObj #[]), (86, tabObj #[])] := by
  obtain ⟨hl1, hl2, hl3⟩ := hL
  refine ⟨⟨rfl, d1, rfl, d0, True.intro⟩, ?_, (fun _ _ _ h => nomatch h), ⟨by decide, ?_⟩, ?_, ?_⟩
  · rw [← law_cells]
    exact (cellsFrom_snd (names := hd.law.scope.names) (n := L + 1) (lo := L + 1) (acc := []) (Nat.le_refl _) (fun _ h => nomatch h) List.nodup_nil).1
  · intro t ht
    simp only [tables, List.mem_cons, List.not_mem_nil, or_false] at ht
    rcases ht with rfl | rfl | rfl
    · exact ⟨[], .tail _ (.head _), fun _ h => nomatch h⟩
    · exact ⟨[], .tail _ (.tail _ (.head _)), fun _ h => nomatch h⟩
    · exact ⟨[], .head _, fun _ h => nomatch h⟩
  · intro p hp q hq e
    have hp9 : @LE.le Nat _ (L + 1) p.1 := by
      simp only [List.append_nil, List.mem_cons, List.not_mem_nil, or_false] at hp
      rcases hp with rfl | rfl <;> (show @LE.le Nat _ _ _) <;> omega
    have hq9 : @LT.lt Nat _ q.1 L := by
      simp only [List.mem_cons, List.not_mem_nil, or_false] at hq
      rcases hq with rfl | rfl | rfl
      · exact hl1
      · exact hl2
      · exact hl3
    rw [e] at hq9
    exact absurd (Nat.lt_of_lt_of_le hq9 (Nat.le_of_succ_le hp9)) (Nat.lt_irrefl _)
  · intro p hp
    simp only [List.append_nil, List.mem_cons, List.not_mem_nil, or_false] at hp
    rcases hp with rfl | rfl
    · exact .of d1
    · exact .of d0
noncomputable abbrev lawE (L fa : Addr) (cd : Value) : Env := envOfC hd.law.name hd.law.scope L fa cd
theorem law_run {w : World} {mean : ExcName → Option Value} {mg mb : Str → Option Value} {loose : List Str} {fa : Addr} {cd : Value} {h₀ : Heap} {L l : Addr} {vs : List Value} {ns : List Int} {s : Shared} {o1 o0 : Obj} {m : Str → Option Value} {Q : Flow → Shared → Prop} {E : Value → Shared → Prop}
    (B : Below callerA h₀ [] h₀) (X : (hd.heap_39 w.params).In h₀) (T : Top topProg loose mean mg mb h₀) (k1 : CodeHd h₀ 143 139) (k2 : CodeHd h₀ 83 79) (k3 : CodeHd h₀ 90 86)
    (hl : h₀.IsList l vs.toArray) (hi : IntsAre vs ns) (hn : ns.length ≤ 63) (F : Fr h₀ L s.heap m) (hm : m (Str.ofString "script") = some (.ref l))
    (N : News h₀ L s.heap [(L + 1 + 1, o1), (L + 1, o0), (139, tabObj #[]), (79, tabObj #[]), (86, tabObj #[])])
    (d1 : o1.data = .cell none) (d0 : o0.data = .cell none)
    (hL : @LT.lt Nat _ 139 L ∧ @LT.lt Nat _ 79 L ∧ @LT.lt Nat _ 86 L)
    (P : ∀ h' m' tk', Fr h₀ L h' m' → GrownAll [(143, 139), (83, 79), (90, 86)] h' → Q (.ret (.bool true)) { s with heap := h', toks := tk' })
    (hE : PassesOwn (model PySem.Challenge.rw_tc0010_02.row.prog w) (callerA.deeper (lawE L fa cd)) (lawE L fa cd) E) :
    wpAny (model PySem.Challenge.rw_tc0010_02.row.prog w) (callerA.deeper (lawE L fa cd)) (execs hd.law.body (lawE L fa cd)) Q E s := by
  let R : Rt := ⟨w, mean, mg, mb, loose, (callerA.deeper (lawE L fa cd)).depth, (callerA.deeper (lawE L fa cd)).units, some [], hd.law.name, hd.law.scope, fa, cd, lawCells L, [], callerA, h₀, h₀, L⟩
  have eE : R.env = lawE L fa cd := by
    show envX _ _ _ _ _ _ = envOfC _ _ _ _ _
    unfold envOfC
    rw [law_cells]
  have eA : R.A = callerA.deeper (lawE L fa cd) := by
    show ktrTop _ _ _ _ _ _ _ _ _ _ = _
    unfold ktrTop
    rw [show envX hd.law.name hd.law.scope L fa cd (lawCells L) = lawE L fa cd from eE]
    rfl
  have hR : R.Ok 170 640 := ⟨B, X, T, ?_, by kernel_rfl, Nat.le_of_ble_eq_true (by kernel_rfl), Nat.le_of_ble_eq_true (by kernel_rfl)⟩
  · have ok : EnvOk R (cxL (some (l, ns))) R.env ((lawCells L).map (·.2)) := by
      refine ⟨hR.mono (Nat.le_of_ble_eq_true (by kernel_rfl)) (Nat.le_of_ble_eq_true (by kernel_rfl)), by kernel_rfl, fun x => ?_, ?_, fun x v e m s Q E F q => glob_ok R (hR.mono (by decide) (by decide)) x v e m s Q E F q, glob_ok, fun q sp e => lawF_ok hR rfl q sp e, (fun t e => nomatch e), ?_⟩
      · show hd.law.scope.names.lookup x = (fdOf 197).scope.names.lookup x
        rw [law_scope]
      · intro x k e
        have e : (idxFrom 0 (cellNs (fdOf 197).scope)).lookup x = some k := e
        rw [law_cellN] at e
        obtain ⟨c, q1, -, q3⟩ := idx_lookup (l := lawCells L) (b := 0) e
        exact ⟨c, q1, q3⟩
      · intro a ns' e
        injection e with e
        injection e with e1 e2
        subst e1
        subst e2
        exact ⟨vs, hl, hi⟩
    have frr : FrR ((lawCells L).map (·.2)) [(Str.ofString "script", .fn (.ref l))] m := by
      intro x v e
      rw [List.lookup_cons] at e
      split at e
      · rename_i hx
        rw [eq_of_beq hx]
        injection e with e
        subst e
        exact ⟨_, hm, rfl⟩
      · cases e
    have hb : hd.law.body = bodyOf 197 := by kernel_rfl
    rw [← eA, ← eE, hb]
    refine (run_ok 110).xs (law_all (K := fun fl _ _ => fl = .ret (.bool true)) hn fun _ _ => rfl) (R := R) (m := m) (ρ := (lawCells L).map (·.2)) (ex := []) ⟨ok, F, ⟨_, _, dat_start d1 d0 hL, N⟩, frr⟩ ?_ (by rw [eA, eE]; exact hE)
    intro fl f loc' ρ' led' m' h' tk' hk g r F' _ S'
    subst hk
    obtain ⟨x, hx, rfl⟩ := r
    obtain rfl : x = .bool true := hx
    exact P h' m' tk' F' (sim_grown S')
  · intro t ht
    simp only [tables, List.mem_cons, List.not_mem_nil, or_false] at ht
    rcases ht with rfl | rfl | rfl
    · exact k2
    · exact k3
    · exact k1
end Mine
end
section
open PySem PySem.W PyProof.Rows PySem.Calls PyProof.V PySem.Spec
namespace Mine
set_option tactic.hygienic false in
theorem good_bool {cl : Str → Option Addr} {mean : ExcName → Option Value} {ns : List Int} {h₀ h : Heap} {L : Addr} {m : Str → Option Value} {s s' : Shared} {b : Bool} (F : Fr h₀ L h m) (hb : b = true) (e1 : s.heap = h₀) (e2 : s'.heap = h) (e3 : s'.os = s.os) (hg : s'.gens = #[]) :
    GoodW PySem.Challenge.rw_tc0010_02.row.claim cl mean [ofPy (PyData.list (List.map PyData.int ns))] s (.ok (.ret (.bool b))) s' := by
  subst hb
  refine ⟨.inl ⟨.bool true, WData.bool true, [], rfl, fun _ => rfl, ?_, ?_, fun _ => ⟨List.nodup_nil, fun _ h => nomatch h⟩⟩, ?_, e3, hg⟩
  · exact ReadsW.bool true
  · first | rfl | with_unfolding_all rfl | (simp [PySem.Challenge.rw_tc0010_02]; done) | decide +kernel
  · rw [e1, e2]
    exact F.keep
set_option rowWalk.seconds 0 in
set_option maxRecDepth 100000 in
set_option maxHeartbeats 8000000 in
theorem law2 : PySem.Challenge.rw_tc0010_02.Holds := hd (by
  unfold hd.hook hd.row hd.law
  k_fill
  intro w s₀ s₁ mg mb G Y fa o pm cd doc dV kV ho hdd hcd hD hmg hg args vals as hpre hlay hrd hwl hlo
  have KX := km_in_of Y
  km_tabs Y
  have X := (Ground.X G).1
  have V := (Ground.X G).2
  refine Ground.open G ?_
  intro T B D TE TW
  try (refine guard_noD D (by decide +kernel) ?_; clear D)
  replace hmg : mg (Str.ofString "law") = some (.ref fa) := hmg
  km_lay T hmg ho hdd cd
  clear hmg
  wrow_args hpre hlay hrd hwl hlo
  all_goals (
    first | refine callC_kw (enter_call ?_) | refine enter_call ?_
    w_top on
    kn_posts
    w_call any ho hdd hcd hD T F
    clear hdd
    kn_ghosts F T
    k_drop
    skip)
  rename_i ns hs hlay0 hL1 hr1 hl2 as1 as2 l vs as3 hL ra w1r r0 hI hr2 hc1 hc2 h1 tk1 o1 o0 d1 d0 X0 X' T' K' F' kc1 kc2 N' l0
  replace hc1 : ns.length ≤ 63 := by omega
  refine law_run (s := _) K' X' T' kc1 kc2 codeHd lifted hI hc1 F' (by kernel_rfl) N' d1 d0 l0 (fun h' m' tk' F2 G2 => ⟨good_bool F2 rfl rfl rfl rfl hg, G2⟩) (by passes_own))
end Mine
end
end
theorem PySem.Challenge.cw_tc0010_02_holds : PySem.Challenge.rw_tc0010_02.Holds :=
  Mine.law2
