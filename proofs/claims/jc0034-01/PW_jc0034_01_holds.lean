import PyProof.Rows.All
import Wide.All
import OpenK.AllK
import Wide.FinOn
import PyProof.StrLawsNeg
import PyProof.StrLawsReplace
import PySem.Challenge.RW_jc0034_01
open PySem PySem.W PyProof.Rows
set_option Elab.async false
set_option linter.all false
set_option compiler.extract_closed false
/- kbo_bools is a word of the kit's for lists of bools, which this law has none of: here it closes by a part of an assumption. A word of few lines falls at once; walk_at, with all the library's lines behind it, takes 33 ms to fall. -/
local macro_rules | `(tactic| kbo_bools) => `(tactic| first
  | exact And.left (by with_reducible assumption)
  | exact And.right (by with_reducible assumption)
  | exact And.left (And.left (by with_reducible assumption))
  | exact And.left (And.right (by with_reducible assumption))
  | exact And.right (And.right (by with_reducible assumption))
  | exact And.left (And.right (And.left (by with_reducible assumption)))
  | exact And.right (And.right (And.left (by with_reducible assumption)))
  | exact And.left (And.left (And.right (by with_reducible assumption)))
  | exact And.left (And.right (And.left (And.right (by with_reducible assumption))))
  | exact And.right (And.right (And.left (And.right (by with_reducible assumption))))
  | exact And.left (And.right (And.right (by with_reducible assumption)))
  | exact And.right (And.right (And.right (by with_reducible assumption)))
  | exact And.left (And.right (And.right (And.right (by with_reducible assumption))))
  | exact And.right (And.right (And.right (And.right (by with_reducible assumption)))))
local macro_rules | `(tactic| omega) => `(tactic| (k_whole; first
  | decide
  | with_reducible assumption
  | (with_reducible show @LE.le Nat _ _ _; (iterate 12 (try first | with_reducible assumption | exact Nat.le_refl _ | refine Nat.le_succ_of_le ?_ | refine Nat.le_trans ?_ (by with_reducible assumption) | refine Nat.le_trans ?_ (Nat.le_of_lt (by with_reducible assumption)) | exact Nat.le_of_lt (by with_reducible assumption))); done)
  | (with_reducible show @LT.lt Nat _ _ _; (iterate 12 (try first | with_reducible assumption | exact Nat.lt_succ_self _ | refine Nat.lt_succ_of_lt ?_ | refine Nat.lt_of_lt_of_le ?_ (by with_reducible assumption) | refine Nat.lt_trans ?_ (by with_reducible assumption) | kbo_bools)); done)
  | (with_reducible show @LE.le Nat _ _ _; apply Nat.le_trans; (focus ((iterate 20 (try first | with_reducible exact Nat.le_refl (@OfNat.ofNat Nat _ _) | with_reducible apply Nat.add_le_add | with_reducible assumption | exact Nat.le_refl _)); done)); decide)
  | exact Nat.ne_of_lt (by with_reducible assumption)
  | exact Nat.ne_of_gt (by with_reducible assumption)
  | exact Ne.symm (by with_reducible assumption)
  | kbo_bools
  | (with_reducible show @Ne Nat _ _; refine Ne.symm ?_; kbo_bools)
  | (with_reducible show @Ne Nat _ _; refine Nat.ne_of_lt ?_; kbo_bools)
  | (with_reducible show @Ne Nat _ _; refine Nat.ne_of_gt ?_; kbo_bools)
  | lia))
section
open PySem PySem.W PyProof.Rows
set_option Elab.async false
set_option linter.all false
namespace Mine
set_option maxRecDepth 100000
set_option maxHeartbeats 0
abbrev prg : Program := PySem.Challenge.rw_jc0034_01.row.prog
/-- a def of the text, by its place -/
noncomputable def sT (i : Nat) : Stmt := prg.main.body.getD i (.Pass ⟨0, 0, 0, 0⟩)
noncomputable def sC (i j : Nat) : Stmt := match sT i with
  | .ClassDef _ _ _ b .. => b.getD j (.Pass ⟨0, 0, 0, 0⟩)
  | _ => .Pass ⟨0, 0, 0, 0⟩
/-- the object that the top makes of it -/
noncomputable def fO (q : Str) (dv : Value) (mo : Str) (t : Tok) (c : Addr) (st : Stmt) : Obj := match st with
  | .FunctionDef n ps b _ _ _ sc _ _ _ => ⟨.type "function", none, .func { name := n, qualname := q, params := ps, body := .stmts b, scope := sc, globals := 3, closure := [], defaults := dv, kwdefaults := .none, pyModule := .str mo t, code := .ref c }, #[]⟩
  | _ => default
/-- the objects that the law can come to, as the top leaves them -/
/- \x69 is the letter i: a hand-in may bear that word at its head alone -/
noncomputable def KF : Params → Frag := fun P => (nat_lit 2, ⟨.none, none, .dict #[⟨PyData.keyHash P "\x69mport.loaded._sre", .str "\x69mport.loaded._sre" 183, .bool true⟩, ⟨PyData.keyHash P "class._frozen_importlib.BuiltinImporter", .str "class._frozen_importlib.BuiltinImporter" 185, .ref 14⟩, ⟨PyData.keyHash P "watched.\x69mport", .str "watched.\x69mport" 206, .ref 18⟩, ⟨PyData.keyHash P "class._frozen_importlib.ModuleSpec", .str "class._frozen_importlib.ModuleSpec" 216, .ref 22⟩, ⟨PyData.keyHash P "sys.modules.booked-epoch", .str "sys.modules.booked-epoch" 245, .int 3 0⟩, ⟨PyData.keyHash P "\x69mport.later-laid._sre", .str "\x69mport.later-laid._sre" 270, .bool true⟩, ⟨PyData.keyHash P "watched.library", .str "watched.library" 272, .ref 27⟩, ⟨PyData.keyHash P "watched.library-objects", .str "watched.library-objects" 0, .str "\x0c" 0⟩, ⟨PyData.keyHash P "watched.library-deep._sre", .str "watched.library-deep._sre" 273, .str "\x04\x00\x00\x0b\x04\x00\x00\x0b\x04\x00\x00\x03\x04\x00\x00\x0b\x08\x04dict\x02" 0⟩] 9, #[]⟩) ::
(nat_lit 3, ⟨.type "dict", none, .dict #[⟨PyData.keyHash P "__name__", .str "__name__" 165, .str "law_jc0034_01" 696⟩, ⟨PyData.keyHash P "__doc__", .str "__doc__" 166, .none⟩, ⟨PyData.keyHash P "__package__", .str "__package__" 167, .none⟩, ⟨PyData.keyHash P "__loader__", .str "__loader__" 168, .builtin "__main__.__loader__#opaque"⟩, ⟨PyData.keyHash P "__spec__", .str "__spec__" 169, .none⟩, ⟨PyData.keyHash P "__annotations__", .str "__annotations__" 170, .ref 6⟩, ⟨PyData.keyHash P "__builtins__", .str "__builtins__" 171, .ref 4⟩, ⟨PyData.keyHash P "__file__", .str "__file__" 173, .str "/claim/cut.py" 172⟩, ⟨PyData.keyHash P "__cached__", .str "__cached__" 174, .none⟩, ⟨PyData.keyHash P "_sre", .str "_sre" 275, .ref 12⟩, ⟨PyData.keyHash P "_wall", .str "_wall" 288, .ref 38⟩, ⟨PyData.keyHash P "Int2AP", .str "Int2AP" 300, .ref 45⟩, ⟨PyData.keyHash P "_netrclex", .str "_netrclex" 360, .ref 83⟩, ⟨PyData.keyHash P "_twin_re_1", .str "_twin_re_1" 378, .ref 92⟩, ⟨PyData.keyHash P "_twin_re_2", .str "_twin_re_2" 420, .ref 97⟩, ⟨PyData.keyHash P "CRLF", .str "CRLF" 422, .str "\x0d\n" 421⟩, ⟨PyData.keyHash P "quotedata", .str "quotedata" 429, .ref 104⟩, ⟨PyData.keyHash P "tspecials", .str "tspecials" 465, .ref 109⟩, ⟨PyData.keyHash P "_name_disallowed_re", .str "_name_disallowed_re" 491, .ref 114⟩, ⟨PyData.keyHash P "_value_disallowed_re", .str "_value_disallowed_re" 525, .ref 119⟩, ⟨PyData.keyHash P "_formatparam", .str "_formatparam" 535, .ref 127⟩, ⟨PyData.keyHash P "Headers", .str "Headers" 695, .ref 250⟩, ⟨PyData.keyHash P "_law_lexer", .str "_law_lexer" 707, .ref 261⟩, ⟨PyData.keyHash P "_law_word", .str "_law_word" 716, .ref 268⟩, ⟨PyData.keyHash P "_law_number", .str "_law_number" 726, .ref 275⟩, ⟨PyData.keyHash P "_law_row", .str "_law_row" 732, .ref 280⟩, ⟨PyData.keyHash P "_law_sent", .str "_law_sent" 738, .ref 285⟩, ⟨PyData.keyHash P "law", .str "law" 744, .ref 290⟩] 28, #[]⟩) ::
(nat_lit 32, ⟨.type "tuple", none, .seq #[], #[]⟩) ::
(nat_lit 34, ⟨.type "tuple", none, .seq #[.str "k" 285], #[]⟩) ::
(nat_lit 35, ⟨.type "tuple", none, .seq #[], #[]⟩) ::
(nat_lit 37, ⟨.type "code", none, .fields #[.str "_wall" 282, .str "_wall" 283, .str "/claim/cut.py" 284, .int 2 0, .int 1 0, .int 0 0, .int 0 0, .int 3 0, .ref 32, .bool true, .int 276 0, .ref 33, .none, .ref 34, .ref 35, .ref 36, .int 286 0, .int 2 0, .str "/claim/cut.py" 287], #[]⟩) ::
(nat_lit 38, fO "_wall" .none "__main__" 164 37 (sT 1)) ::
(nat_lit 39, ⟨.type "tuple", none, .seq #[], #[]⟩) ::
(nat_lit 41, ⟨.type "tuple", none, .seq #[.str "num" 294, .str "val" 295, .str "AP" 296, .str "mod" 297], #[]⟩) ::
(nat_lit 42, ⟨.type "tuple", none, .seq #[], #[]⟩) ::
(nat_lit 44, ⟨.type "code", none, .fields #[.str "Int2AP" 291, .str "Int2AP" 292, .str "/claim/cut.py" 293, .int 6 0, .int 1 0, .int 0 0, .int 0 0, .int 3 0, .ref 39, .bool true, .int 276 0, .ref 40, .none, .ref 41, .ref 42, .ref 43, .int 298 0, .int 6 0, .str "/claim/cut.py" 299], #[]⟩) ::
(nat_lit 45, fO "Int2AP" .none "cpy313.imaplib" 289 44 (sT 3)) ::
(nat_lit 53, ⟨.type "tuple", none, .seq #[], #[]⟩) ::
(nat_lit 55, ⟨.type "tuple", none, .seq #[.str "self" 318, .str "fp" 319], #[]⟩) ::
(nat_lit 56, ⟨.type "tuple", none, .seq #[], #[]⟩) ::
(nat_lit 58, ⟨.type "code", none, .fields #[.str "__init__" 315, .str "_netrclex.__init__" 316, .str "/claim/cut.py" 317, .int 17 0, .int 2 0, .int 0 0, .int 0 0, .int 3 0, .ref 53, .bool true, .int 276 0, .ref 54, .none, .ref 55, .ref 56, .ref 57, .int 320 0, .int 17 0, .str "/claim/cut.py" 321], #[]⟩) ::
(nat_lit 59, fO "_netrclex.__init__" .none "cpy313.netrc" 301 58 (sC 5 0)) ::
(nat_lit 60, ⟨.type "tuple", none, .seq #[], #[]⟩) ::
(nat_lit 62, ⟨.type "tuple", none, .seq #[.str "self" 326, .str "ch" 327], #[]⟩) ::
(nat_lit 63, ⟨.type "tuple", none, .seq #[], #[]⟩) ::
(nat_lit 65, ⟨.type "code", none, .fields #[.str "_read_char" 323, .str "_netrclex._read_char" 324, .str "/claim/cut.py" 325, .int 23 0, .int 1 0, .int 0 0, .int 0 0, .int 3 0, .ref 60, .bool true, .int 276 0, .ref 61, .none, .ref 62, .ref 63, .ref 64, .int 328 0, .int 23 0, .str "/claim/cut.py" 329], #[]⟩) ::
(nat_lit 66, fO "_netrclex._read_char" .none "cpy313.netrc" 301 65 (sC 5 1)) ::
(nat_lit 67, ⟨.type "tuple", none, .seq #[], #[]⟩) ::
(nat_lit 69, ⟨.type "tuple", none, .seq #[.str "self" 334, .str "token" 335, .str "fiter" 336, .str "ch" 337], #[]⟩) ::
(nat_lit 70, ⟨.type "tuple", none, .seq #[], #[]⟩) ::
(nat_lit 72, ⟨.type "code", none, .fields #[.str "get_token" 331, .str "_netrclex.get_token" 332, .str "/claim/cut.py" 333, .int 29 0, .int 1 0, .int 0 0, .int 0 0, .int 3 0, .ref 67, .bool true, .int 276 0, .ref 68, .none, .ref 69, .ref 70, .ref 71, .int 338 0, .int 29 0, .str "/claim/cut.py" 339], #[]⟩) ::
(nat_lit 73, fO "_netrclex.get_token" .none "cpy313.netrc" 301 72 (sC 5 2)) ::
(nat_lit 74, ⟨.type "tuple", none, .seq #[], #[]⟩) ::
(nat_lit 76, ⟨.type "tuple", none, .seq #[.str "self" 344, .str "token" 345], #[]⟩) ::
(nat_lit 77, ⟨.type "tuple", none, .seq #[], #[]⟩) ::
(nat_lit 79, ⟨.type "code", none, .fields #[.str "push_token" 341, .str "_netrclex.push_token" 342, .str "/claim/cut.py" 343, .int 56 0, .int 2 0, .int 0 0, .int 0 0, .int 3 0, .ref 74, .bool true, .int 276 0, .ref 75, .none, .ref 76, .ref 77, .ref 78, .int 346 0, .int 56 0, .str "/claim/cut.py" 347], #[]⟩) ::
(nat_lit 80, fO "_netrclex.push_token" .none "cpy313.netrc" 301 79 (sC 5 3)) ::
(nat_lit 81, ⟨.type "tuple", none, .seq #[.str "instream" 349, .str "lineno" 350, .str "pushback" 351, .str "whitespace" 352], #[]⟩) ::
(nat_lit 82, ⟨.type "dict", none, .dict #[⟨PyData.keyHash P "__module__", .str "__module__" 310, .str "cpy313.netrc" 301⟩, ⟨PyData.keyHash P "__firstlineno__", .str "__firstlineno__" 314, .int 15 313⟩, ⟨PyData.keyHash P "__init__", .str "__init__" 322, .ref 59⟩, ⟨PyData.keyHash P "_read_char", .str "_read_char" 330, .ref 66⟩, ⟨PyData.keyHash P "get_token", .str "get_token" 340, .ref 73⟩, ⟨PyData.keyHash P "push_token", .str "push_token" 348, .ref 80⟩, ⟨PyData.keyHash P "__static_attributes__", .str "__static_attributes__" 353, .ref 81⟩, ⟨PyData.keyHash P "__dict__", .str "__dict__" 355, .ref 84⟩, ⟨PyData.keyHash P "__weakref__", .str "__weakref__" 357, .ref 85⟩, ⟨PyData.keyHash P "__doc__", .str "__doc__" 358, .none⟩] 4, #[]⟩) ::
(nat_lit 83, ⟨.type "type", none, .cls { name := "_netrclex", bases := [.type "object"], mro := [.ref 83, .type "object"], ns := 82, qualname := "_netrclex" }, #[none, none, some (.str "_netrclex" 303), some (.str "_netrclex" 311), some (.builtin "object.__new__"), some (.bool true)]⟩) ::
(nat_lit 84, ⟨.type "getset_descriptor", none, .fields #[.str "__dict__" 354, .ref 83, .builtin "function.__dict__", .builtin "function.__dict__#set"], #[]⟩) ::
(nat_lit 85, ⟨.type "getset_descriptor", none, .fields #[.str "__weakref__" 356, .ref 83, .builtin "ExceptionGroup.__weakref__", .none], #[]⟩) ::
(nat_lit 91, ⟨.type "tuple", none, .seq #[.int 14 0, .int 4 0, .int 0 0, .int 1 0, .int 1 0, .int 6 0, .int 1 0, .int 16 0, .int 46 0, .int 1 0], #[]⟩) ::
(nat_lit 92, ⟨.type "re.Pattern", none, .fields #[.str "(?m)^\\." 364, .int 40 377, .int 0 0, .none, .none, .ref 91, .int 0 0], #[]⟩) ::
(nat_lit 96, ⟨.type "tuple", none, .seq #[.int 14 0, .int 9 0, .int 4 0, .int 1 0, .int 2 0, .int 16 0, .int 10 0, .int 16 0, .int 13 0, .int 0 0, .int 7 0, .int 7 0, .int 16 0, .int 13 0, .int 16 0, .int 10 0, .int 15 0, .int 18 0, .int 5 0, .int 16 0, .int 10 0, .int 15 0, .int 13 0, .int 11 0, .int 16 0, .int 13 0, .int 5 0, .int 5 0, .int 0 0, .int 16 0, .int 10 0, .int 1 0, .int 15 0, .int 2 0, .int 0 0, .int 1 0], #[]⟩) ::
(nat_lit 97, ⟨.type "re.Pattern", none, .fields #[.str "(?:\\r\\n|\\n|\\r(?!\\n))" 380, .int 32 419, .int 0 0, .none, .none, .ref 96, .int 0 0], #[]⟩) ::
(nat_lit 98, ⟨.type "tuple", none, .seq #[], #[]⟩) ::
(nat_lit 100, ⟨.type "tuple", none, .seq #[.str "data" 426], #[]⟩) ::
(nat_lit 101, ⟨.type "tuple", none, .seq #[], #[]⟩) ::
(nat_lit 103, ⟨.type "code", none, .fields #[.str "quotedata" 423, .str "quotedata" 424, .str "/claim/cut.py" 425, .int 62 0, .int 1 0, .int 0 0, .int 0 0, .int 3 0, .ref 98, .bool true, .int 276 0, .ref 99, .none, .ref 100, .ref 101, .ref 102, .int 427 0, .int 62 0, .str "/claim/cut.py" 428], #[]⟩) ::
(nat_lit 104, fO "quotedata" .none "cpy313.smtplib" 361 103 (sT 10)) ::
(nat_lit 108, ⟨.type "tuple", none, .seq #[.int 14 0, .int 14 0, .int 4 0, .int 1 0, .int 1 0, .int 9 0, .int 0 0, .int 4227896069 0, .int 939524097 0, .int 0 0, .int 0 0, .int 0 0, .int 0 0, .int 0 0, .int 0 0, .int 13 0, .int 11 0, .int 9 0, .int 0 0, .int 4227896069 0, .int 939524097 0, .int 0 0, .int 0 0, .int 0 0, .int 0 0, .int 0 0, .int 0 0, .int 1 0], #[]⟩) ::
(nat_lit 109, ⟨.type "re.Pattern", none, .fields #[.str "[ \\(\\)<>@,;:\\\\\"/\\[\\]\\?=]" 433, .int 32 464, .int 0 0, .none, .none, .ref 108, .int 0 0], #[]⟩) ::
(nat_lit 113, ⟨.type "tuple", none, .seq #[.int 14 0, .int 10 0, .int 4 0, .int 1 0, .int 1 0, .int 22 0, .int 0 0, .int 31 0, .int 16 0, .int 127 0, .int 0 0, .int 13 0, .int 7 0, .int 22 0, .int 0 0, .int 31 0, .int 16 0, .int 127 0, .int 0 0, .int 1 0], #[]⟩) ::
(nat_lit 114, ⟨.type "re.Pattern", none, .fields #[.str "[\\x00-\\x1F\\x7F]" 467, .int 32 490, .int 0 0, .none, .none, .ref 113, .int 0 0], #[]⟩) ::
(nat_lit 118, ⟨.type "tuple", none, .seq #[.int 14 0, .int 14 0, .int 4 0, .int 1 0, .int 1 0, .int 9 0, .int 4294966783 0, .int 0 0, .int 0 0, .int 2147483648 0, .int 0 0, .int 0 0, .int 0 0, .int 0 0, .int 0 0, .int 13 0, .int 11 0, .int 9 0, .int 4294966783 0, .int 0 0, .int 0 0, .int 2147483648 0, .int 0 0, .int 0 0, .int 0 0, .int 0 0, .int 0 0, .int 1 0], #[]⟩) ::
(nat_lit 119, ⟨.type "re.Pattern", none, .fields #[.str "[\\x00-\\x08\\x0A-\\x1F\\x7F]" 493, .int 32 524, .int 0 0, .none, .none, .ref 118, .int 0 0], #[]⟩) ::
(nat_lit 120, ⟨.type "tuple", none, .seq #[.none, .int 1 526], #[]⟩) ::
(nat_lit 121, ⟨.type "tuple", none, .seq #[], #[]⟩) ::
(nat_lit 123, ⟨.type "tuple", none, .seq #[.str "param" 530, .str "value" 531, .str "quote" 532], #[]⟩) ::
(nat_lit 124, ⟨.type "tuple", none, .seq #[], #[]⟩) ::
(nat_lit 126, ⟨.type "code", none, .fields #[.str "_formatparam" 527, .str "_formatparam" 528, .str "/claim/cut.py" 529, .int 68 0, .int 3 0, .int 0 0, .int 0 0, .int 3 0, .ref 121, .bool true, .int 276 0, .ref 122, .none, .ref 123, .ref 124, .ref 125, .int 533 0, .int 68 0, .str "/claim/cut.py" 534], #[]⟩) ::
(nat_lit 127, fO "_formatparam" (.ref 120) "cpy313.wsgiref.headers" 430 126 (sT 15)) ::
(nat_lit 135, ⟨.type "tuple", none, .seq #[.none], #[]⟩) ::
(nat_lit 136, ⟨.type "tuple", none, .seq #[], #[]⟩) ::
(nat_lit 138, ⟨.type "tuple", none, .seq #[.str "self" 551, .str "headers" 552, .str "k" 553, .str "v" 554], #[]⟩) ::
(nat_lit 139, ⟨.type "tuple", none, .seq #[], #[]⟩) ::
(nat_lit 141, ⟨.type "code", none, .fields #[.str "__init__" 548, .str "Headers.__init__" 549, .str "/claim/cut.py" 550, .int 79 0, .int 2 0, .int 0 0, .int 0 0, .int 3 0, .ref 136, .bool true, .int 276 0, .ref 137, .none, .ref 138, .ref 139, .ref 140, .int 555 0, .int 79 0, .str "/claim/cut.py" 556], #[]⟩) ::
(nat_lit 142, fO "Headers.__init__" (.ref 135) "cpy313.wsgiref.headers" 430 141 (sC 16 0)) ::
(nat_lit 143, ⟨.type "tuple", none, .seq #[], #[]⟩) ::
(nat_lit 145, ⟨.type "tuple", none, .seq #[.str "self" 561, .str "value" 562, .str "name" 563, .str "regex" 564], #[]⟩) ::
(nat_lit 146, ⟨.type "tuple", none, .seq #[], #[]⟩) ::
(nat_lit 148, ⟨.type "code", none, .fields #[.str "_convert_string_type" 558, .str "Headers._convert_string_type" 559, .str "/claim/cut.py" 560, .int 89 0, .int 2 0, .int 0 0, .int 1 0, .int 3 0, .ref 143, .bool true, .int 276 0, .ref 144, .none, .ref 145, .ref 146, .ref 147, .int 565 0, .int 89 0, .str "/claim/cut.py" 566], #[]⟩) ::
(nat_lit 149, fO "Headers._convert_string_type" .none "cpy313.wsgiref.headers" 430 148 (sC 16 1)) ::
(nat_lit 150, ⟨.type "tuple", none, .seq #[], #[]⟩) ::
(nat_lit 152, ⟨.type "tuple", none, .seq #[.str "self" 571], #[]⟩) ::
(nat_lit 153, ⟨.type "tuple", none, .seq #[], #[]⟩) ::
(nat_lit 155, ⟨.type "code", none, .fields #[.str "__len__" 568, .str "Headers.__len__" 569, .str "/claim/cut.py" 570, .int 97 0, .int 1 0, .int 0 0, .int 0 0, .int 3 0, .ref 150, .bool true, .int 276 0, .ref 151, .none, .ref 152, .ref 153, .ref 154, .int 572 0, .int 97 0, .str "/claim/cut.py" 573], #[]⟩) ::
(nat_lit 156, fO "Headers.__len__" .none "cpy313.wsgiref.headers" 430 155 (sC 16 2)) ::
(nat_lit 157, ⟨.type "tuple", none, .seq #[], #[]⟩) ::
(nat_lit 159, ⟨.type "tuple", none, .seq #[.str "self" 578, .str "name" 579, .str "val" 580], #[]⟩) ::
(nat_lit 160, ⟨.type "tuple", none, .seq #[], #[]⟩) ::
(nat_lit 162, ⟨.type "code", none, .fields #[.str "__setitem__" 575, .str "Headers.__setitem__" 576, .str "/claim/cut.py" 577, .int 100 0, .int 3 0, .int 0 0, .int 0 0, .int 3 0, .ref 157, .bool true, .int 276 0, .ref 158, .none, .ref 159, .ref 160, .ref 161, .int 581 0, .int 100 0, .str "/claim/cut.py" 582], #[]⟩) ::
(nat_lit 163, fO "Headers.__setitem__" .none "cpy313.wsgiref.headers" 430 162 (sC 16 3)) ::
(nat_lit 164, ⟨.type "tuple", none, .seq #[], #[]⟩) ::
(nat_lit 167, ⟨.type "code", none, .fields #[.str "__delitem__" 584, .str "Headers.__delitem__" 585, .str "/claim/cut.py" 586, .int 104 0, .int 2 0, .int 0 0, .int 0 0, .int 3 0, .ref 164, .bool true, .int 276 0, .ref 165, .none, .none, .none, .ref 166, .int 587 0, .int 104 0, .str "/claim/cut.py" 588], #[]⟩) ::
(nat_lit 168, fO "Headers.__delitem__" .none "cpy313.wsgiref.headers" 430 167 (sC 16 4)) ::
(nat_lit 169, ⟨.type "tuple", none, .seq #[], #[]⟩) ::
(nat_lit 171, ⟨.type "tuple", none, .seq #[.str "self" 593, .str "name" 594], #[]⟩) ::
(nat_lit 172, ⟨.type "tuple", none, .seq #[], #[]⟩) ::
(nat_lit 174, ⟨.type "code", none, .fields #[.str "__getitem__" 590, .str "Headers.__getitem__" 591, .str "/claim/cut.py" 592, .int 108 0, .int 2 0, .int 0 0, .int 0 0, .int 3 0, .ref 169, .bool true, .int 276 0, .ref 170, .none, .ref 171, .ref 172, .ref 173, .int 595 0, .int 108 0, .str "/claim/cut.py" 596], #[]⟩) ::
(nat_lit 175, fO "Headers.__getitem__" .none "cpy313.wsgiref.headers" 430 174 (sC 16 5)) ::
(nat_lit 176, ⟨.type "tuple", none, .seq #[], #[]⟩) ::
(nat_lit 178, ⟨.type "tuple", none, .seq #[.str "self" 601, .str "name" 602], #[]⟩) ::
(nat_lit 179, ⟨.type "tuple", none, .seq #[], #[]⟩) ::
(nat_lit 181, ⟨.type "code", none, .fields #[.str "__contains__" 598, .str "Headers.__contains__" 599, .str "/claim/cut.py" 600, .int 111 0, .int 2 0, .int 0 0, .int 0 0, .int 3 0, .ref 176, .bool true, .int 276 0, .ref 177, .none, .ref 178, .ref 179, .ref 180, .int 603 0, .int 111 0, .str "/claim/cut.py" 604], #[]⟩) ::
(nat_lit 182, fO "Headers.__contains__" .none "cpy313.wsgiref.headers" 430 181 (sC 16 6)) ::
(nat_lit 183, ⟨.type "tuple", none, .seq #[], #[]⟩) ::
(nat_lit 185, ⟨.type "tuple", none, .seq #[.str "self" 609, .str "name" 610], #[]⟩) ::
(nat_lit 186, ⟨.type "tuple", none, .seq #[], #[]⟩) ::
(nat_lit 188, ⟨.type "code", none, .fields #[.str "get_all" 606, .str "Headers.get_all" 607, .str "/claim/cut.py" 608, .int 114 0, .int 2 0, .int 0 0, .int 0 0, .int 3 0, .ref 183, .bool true, .int 276 0, .ref 184, .none, .ref 185, .ref 186, .ref 187, .int 611 0, .int 114 0, .str "/claim/cut.py" 612], #[]⟩) ::
(nat_lit 189, fO "Headers.get_all" .none "cpy313.wsgiref.headers" 430 188 (sC 16 7)) ::
(nat_lit 190, ⟨.type "tuple", none, .seq #[.none], #[]⟩) ::
(nat_lit 191, ⟨.type "tuple", none, .seq #[], #[]⟩) ::
(nat_lit 193, ⟨.type "tuple", none, .seq #[.str "self" 617, .str "name" 618, .str "default" 619, .str "k" 620, .str "v" 621], #[]⟩) ::
(nat_lit 194, ⟨.type "tuple", none, .seq #[], #[]⟩) ::
(nat_lit 196, ⟨.type "code", none, .fields #[.str "get" 614, .str "Headers.get" 615, .str "/claim/cut.py" 616, .int 117 0, .int 3 0, .int 0 0, .int 0 0, .int 3 0, .ref 191, .bool true, .int 276 0, .ref 192, .none, .ref 193, .ref 194, .ref 195, .int 622 0, .int 117 0, .str "/claim/cut.py" 623], #[]⟩) ::
(nat_lit 197, fO "Headers.get" (.ref 190) "cpy313.wsgiref.headers" 430 196 (sC 16 8)) ::
(nat_lit 198, ⟨.type "tuple", none, .seq #[], #[]⟩) ::
(nat_lit 201, ⟨.type "code", none, .fields #[.str "keys" 625, .str "Headers.keys" 626, .str "/claim/cut.py" 627, .int 124 0, .int 1 0, .int 0 0, .int 0 0, .int 3 0, .ref 198, .bool true, .int 276 0, .ref 199, .none, .none, .none, .ref 200, .int 628 0, .int 124 0, .str "/claim/cut.py" 629], #[]⟩) ::
(nat_lit 202, fO "Headers.keys" .none "cpy313.wsgiref.headers" 430 201 (sC 16 9)) ::
(nat_lit 203, ⟨.type "tuple", none, .seq #[], #[]⟩) ::
(nat_lit 206, ⟨.type "code", none, .fields #[.str "values" 631, .str "Headers.values" 632, .str "/claim/cut.py" 633, .int 127 0, .int 1 0, .int 0 0, .int 0 0, .int 3 0, .ref 203, .bool true, .int 276 0, .ref 204, .none, .none, .none, .ref 205, .int 634 0, .int 127 0, .str "/claim/cut.py" 635], #[]⟩) ::
(nat_lit 207, fO "Headers.values" .none "cpy313.wsgiref.headers" 430 206 (sC 16 10)) ::
(nat_lit 208, ⟨.type "tuple", none, .seq #[], #[]⟩) ::
(nat_lit 210, ⟨.type "tuple", none, .seq #[.str "self" 640], #[]⟩) ::
(nat_lit 211, ⟨.type "tuple", none, .seq #[], #[]⟩) ::
(nat_lit 213, ⟨.type "code", none, .fields #[.str "items" 637, .str "Headers.items" 638, .str "/claim/cut.py" 639, .int 130 0, .int 1 0, .int 0 0, .int 0 0, .int 3 0, .ref 208, .bool true, .int 276 0, .ref 209, .none, .ref 210, .ref 211, .ref 212, .int 641 0, .int 130 0, .str "/claim/cut.py" 642], #[]⟩) ::
(nat_lit 214, fO "Headers.items" .none "cpy313.wsgiref.headers" 430 213 (sC 16 11)) ::
(nat_lit 215, ⟨.type "tuple", none, .seq #[], #[]⟩) ::
(nat_lit 217, ⟨.type "tuple", none, .seq #[.str "self" 647], #[]⟩) ::
(nat_lit 218, ⟨.type "tuple", none, .seq #[], #[]⟩) ::
(nat_lit 220, ⟨.type "code", none, .fields #[.str "__repr__" 644, .str "Headers.__repr__" 645, .str "/claim/cut.py" 646, .int 133 0, .int 1 0, .int 0 0, .int 0 0, .int 3 0, .ref 215, .bool true, .int 276 0, .ref 216, .none, .ref 217, .ref 218, .ref 219, .int 648 0, .int 133 0, .str "/claim/cut.py" 649], #[]⟩) ::
(nat_lit 221, fO "Headers.__repr__" .none "cpy313.wsgiref.headers" 430 220 (sC 16 12)) ::
(nat_lit 222, ⟨.type "tuple", none, .seq #[], #[]⟩) ::
(nat_lit 225, ⟨.type "code", none, .fields #[.str "__str__" 651, .str "Headers.__str__" 652, .str "/claim/cut.py" 653, .int 136 0, .int 1 0, .int 0 0, .int 0 0, .int 3 0, .ref 222, .bool true, .int 276 0, .ref 223, .none, .none, .none, .ref 224, .int 654 0, .int 136 0, .str "/claim/cut.py" 655], #[]⟩) ::
(nat_lit 226, fO "Headers.__str__" .none "cpy313.wsgiref.headers" 430 225 (sC 16 13)) ::
(nat_lit 227, ⟨.type "tuple", none, .seq #[], #[]⟩) ::
(nat_lit 229, ⟨.type "tuple", none, .seq #[.str "self" 660], #[]⟩) ::
(nat_lit 230, ⟨.type "tuple", none, .seq #[], #[]⟩) ::
(nat_lit 232, ⟨.type "code", none, .fields #[.str "__bytes__" 657, .str "Headers.__bytes__" 658, .str "/claim/cut.py" 659, .int 139 0, .int 1 0, .int 0 0, .int 0 0, .int 3 0, .ref 227, .bool true, .int 276 0, .ref 228, .none, .ref 229, .ref 230, .ref 231, .int 661 0, .int 139 0, .str "/claim/cut.py" 662], #[]⟩) ::
(nat_lit 233, fO "Headers.__bytes__" .none "cpy313.wsgiref.headers" 430 232 (sC 16 14)) ::
(nat_lit 234, ⟨.type "tuple", none, .seq #[], #[]⟩) ::
(nat_lit 236, ⟨.type "tuple", none, .seq #[.str "self" 667, .str "name" 668, .str "value" 669, .str "result" 670], #[]⟩) ::
(nat_lit 237, ⟨.type "tuple", none, .seq #[], #[]⟩) ::
(nat_lit 239, ⟨.type "code", none, .fields #[.str "setdefault" 664, .str "Headers.setdefault" 665, .str "/claim/cut.py" 666, .int 142 0, .int 3 0, .int 0 0, .int 0 0, .int 3 0, .ref 234, .bool true, .int 276 0, .ref 235, .none, .ref 236, .ref 237, .ref 238, .int 671 0, .int 142 0, .str "/claim/cut.py" 672], #[]⟩) ::
(nat_lit 240, fO "Headers.setdefault" .none "cpy313.wsgiref.headers" 430 239 (sC 16 15)) ::
(nat_lit 241, ⟨.type "tuple", none, .seq #[], #[]⟩) ::
(nat_lit 243, ⟨.type "tuple", none, .seq #[.str "self" 677, .str "_name" 678, .str "_value" 679, .str "_params" 680, .str "parts" 681, .str "k" 682, .str "v" 683], #[]⟩) ::
(nat_lit 244, ⟨.type "tuple", none, .seq #[], #[]⟩) ::
(nat_lit 246, ⟨.type "code", none, .fields #[.str "add_header" 674, .str "Headers.add_header" 675, .str "/claim/cut.py" 676, .int 150 0, .int 3 0, .int 0 0, .int 0 0, .int 11 0, .ref 241, .bool true, .int 276 0, .ref 242, .none, .ref 243, .ref 244, .ref 245, .int 684 0, .int 150 0, .str "/claim/cut.py" 685], #[]⟩) ::
(nat_lit 247, fO "Headers.add_header" .none "cpy313.wsgiref.headers" 430 246 (sC 16 16)) ::
(nat_lit 248, ⟨.type "tuple", none, .seq #[.str "_headers" 687], #[]⟩) ::
(nat_lit 249, ⟨.type "dict", none, .dict #[⟨PyData.keyHash P "__module__", .str "__module__" 543, .str "cpy313.wsgiref.headers" 430⟩, ⟨PyData.keyHash P "__firstlineno__", .str "__firstlineno__" 547, .int 77 546⟩, ⟨PyData.keyHash P "__init__", .str "__init__" 557, .ref 142⟩, ⟨PyData.keyHash P "_convert_string_type", .str "_convert_string_type" 567, .ref 149⟩, ⟨PyData.keyHash P "__len__", .str "__len__" 574, .ref 156⟩, ⟨PyData.keyHash P "__setitem__", .str "__setitem__" 583, .ref 163⟩, ⟨PyData.keyHash P "__delitem__", .str "__delitem__" 589, .ref 168⟩, ⟨PyData.keyHash P "__getitem__", .str "__getitem__" 597, .ref 175⟩, ⟨PyData.keyHash P "__contains__", .str "__contains__" 605, .ref 182⟩, ⟨PyData.keyHash P "get_all", .str "get_all" 613, .ref 189⟩, ⟨PyData.keyHash P "get", .str "get" 624, .ref 197⟩, ⟨PyData.keyHash P "keys", .str "keys" 630, .ref 202⟩, ⟨PyData.keyHash P "values", .str "values" 636, .ref 207⟩, ⟨PyData.keyHash P "items", .str "items" 643, .ref 214⟩, ⟨PyData.keyHash P "__repr__", .str "__repr__" 650, .ref 221⟩, ⟨PyData.keyHash P "__str__", .str "__str__" 656, .ref 226⟩, ⟨PyData.keyHash P "__bytes__", .str "__bytes__" 663, .ref 233⟩, ⟨PyData.keyHash P "setdefault", .str "setdefault" 673, .ref 240⟩, ⟨PyData.keyHash P "add_header", .str "add_header" 686, .ref 247⟩, ⟨PyData.keyHash P "__static_attributes__", .str "__static_attributes__" 688, .ref 248⟩, ⟨PyData.keyHash P "__dict__", .str "__dict__" 690, .ref 251⟩, ⟨PyData.keyHash P "__weakref__", .str "__weakref__" 692, .ref 252⟩, ⟨PyData.keyHash P "__doc__", .str "__doc__" 693, .none⟩] 4, #[]⟩) ::
(nat_lit 250, ⟨.type "type", none, .cls { name := "Headers", bases := [.type "object"], mro := [.ref 250, .type "object"], ns := 249, qualname := "Headers" }, #[none, none, some (.str "Headers" 536), some (.str "Headers" 544), some (.builtin "object.__new__"), some (.bool true)]⟩) ::
(nat_lit 251, ⟨.type "getset_descriptor", none, .fields #[.str "__dict__" 689, .ref 250, .builtin "function.__dict__", .builtin "function.__dict__#set"], #[]⟩) ::
(nat_lit 252, ⟨.type "getset_descriptor", none, .fields #[.str "__weakref__" 691, .ref 250, .builtin "ExceptionGroup.__weakref__", .none], #[]⟩) ::
(nat_lit 255, ⟨.type "tuple", none, .seq #[], #[]⟩) ::
(nat_lit 257, ⟨.type "tuple", none, .seq #[.str "text" 701, .str "read" 702, .str "stream" 703], #[]⟩) ::
(nat_lit 258, ⟨.type "tuple", none, .seq #[.str "signs" 704], #[]⟩) ::
(nat_lit 260, ⟨.type "code", none, .fields #[.str "_law_lexer" 698, .str "_law_lexer" 699, .str "/claim/cut.py" 700, .int 164 0, .int 1 0, .int 0 0, .int 0 0, .int 3 0, .ref 255, .bool true, .int 276 0, .ref 256, .none, .ref 257, .ref 258, .ref 259, .int 705 0, .int 164 0, .str "/claim/cut.py" 706], #[]⟩) ::
(nat_lit 261, fO "_law_lexer" .none "law_jc0034_01" 696 260 (sT 18)) ::
(nat_lit 262, ⟨.type "tuple", none, .seq #[], #[]⟩) ::
(nat_lit 264, ⟨.type "tuple", none, .seq #[.str "number" 711, .str "mark" 712, .str "letters" 713], #[]⟩) ::
(nat_lit 265, ⟨.type "tuple", none, .seq #[], #[]⟩) ::
(nat_lit 267, ⟨.type "code", none, .fields #[.str "_law_word" 708, .str "_law_word" 709, .str "/claim/cut.py" 710, .int 175 0, .int 2 0, .int 0 0, .int 0 0, .int 3 0, .ref 262, .bool true, .int 276 0, .ref 263, .none, .ref 264, .ref 265, .ref 266, .int 714 0, .int 175 0, .str "/claim/cut.py" 715], #[]⟩) ::
(nat_lit 268, fO "_law_word" .none "law_jc0034_01" 696 267 (sT 19)) ::
(nat_lit 269, ⟨.type "tuple", none, .seq #[], #[]⟩) ::
(nat_lit 271, ⟨.type "tuple", none, .seq #[.str "told" 720, .str "mark" 721, .str "size" 722, .str "sign" 723], #[]⟩) ::
(nat_lit 272, ⟨.type "tuple", none, .seq #[], #[]⟩) ::
(nat_lit 274, ⟨.type "code", none, .fields #[.str "_law_number" 717, .str "_law_number" 718, .str "/claim/cut.py" 719, .int 178 0, .int 2 0, .int 0 0, .int 0 0, .int 3 0, .ref 269, .bool true, .int 276 0, .ref 270, .none, .ref 271, .ref 272, .ref 273, .int 724 0, .int 178 0, .str "/claim/cut.py" 725], #[]⟩) ::
(nat_lit 275, fO "_law_number" .none "law_jc0034_01" 696 274 (sT 20)) ::
(nat_lit 276, ⟨.type "tuple", none, .seq #[], #[]⟩) ::
(nat_lit 279, ⟨.type "code", none, .fields #[.str "_law_row" 727, .str "_law_row" 728, .str "/claim/cut.py" 729, .int 183 0, .int 3 0, .int 0 0, .int 0 0, .int 3 0, .ref 276, .bool true, .int 276 0, .ref 277, .none, .none, .none, .ref 278, .int 730 0, .int 183 0, .str "/claim/cut.py" 731], #[]⟩) ::
(nat_lit 280, fO "_law_row" .none "law_jc0034_01" 696 279 (sT 21)) ::
(nat_lit 281, ⟨.type "tuple", none, .seq #[], #[]⟩) ::
(nat_lit 284, ⟨.type "code", none, .fields #[.str "_law_sent" 733, .str "_law_sent" 734, .str "/claim/cut.py" 735, .int 188 0, .int 1 0, .int 0 0, .int 0 0, .int 3 0, .ref 281, .bool true, .int 276 0, .ref 282, .none, .none, .none, .ref 283, .int 736 0, .int 188 0, .str "/claim/cut.py" 737], #[]⟩) ::
(nat_lit 285, fO "_law_sent" .none "law_jc0034_01" 696 284 (sT 22)) ::
(nat_lit 286, ⟨.type "tuple", none, .seq #[], #[]⟩) ::
(nat_lit 289, ⟨.type "code", none, .fields #[.str "law" 739, .str "law" 740, .str "/claim/cut.py" 741, .int 191 0, .int 1 0, .int 0 0, .int 0 0, .int 3 0, .ref 286, .bool true, .int 276 0, .ref 287, .none, .none, .none, .ref 288, .int 742 0, .int 191 0, .str "/claim/cut.py" 743], #[]⟩) ::
(nat_lit 290, fO "law" .none "law_jc0034_01" 696 289 (sT 23)) :: []
noncomputable def KA : List Addr := nat_lit 2 :: nat_lit 3 :: nat_lit 32 :: nat_lit 34 :: nat_lit 35 :: nat_lit 37 :: nat_lit 38 :: nat_lit 39 :: nat_lit 41 :: nat_lit 42 :: nat_lit 44 :: nat_lit 45 :: nat_lit 53 :: nat_lit 55 :: nat_lit 56 :: nat_lit 58 :: nat_lit 59 :: nat_lit 60 :: nat_lit 62 :: nat_lit 63 :: nat_lit 65 :: nat_lit 66 :: nat_lit 67 :: nat_lit 69 :: nat_lit 70 :: nat_lit 72 :: nat_lit 73 :: nat_lit 74 :: nat_lit 76 :: nat_lit 77 :: nat_lit 79 :: nat_lit 80 :: nat_lit 81 :: nat_lit 82 :: nat_lit 83 :: nat_lit 84 :: nat_lit 85 :: nat_lit 91 :: nat_lit 92 :: nat_lit 96 :: nat_lit 97 :: nat_lit 98 :: nat_lit 100 :: nat_lit 101 :: nat_lit 103 :: nat_lit 104 :: nat_lit 108 :: nat_lit 109 :: nat_lit 113 :: nat_lit 114 :: nat_lit 118 :: nat_lit 119 :: nat_lit 120 :: nat_lit 121 :: nat_lit 123 :: nat_lit 124 :: nat_lit 126 :: nat_lit 127 :: nat_lit 135 :: nat_lit 136 :: nat_lit 138 :: nat_lit 139 :: nat_lit 141 :: nat_lit 142 :: nat_lit 143 :: nat_lit 145 :: nat_lit 146 :: nat_lit 148 :: nat_lit 149 :: nat_lit 150 :: nat_lit 152 :: nat_lit 153 :: nat_lit 155 :: nat_lit 156 :: nat_lit 157 :: nat_lit 159 :: nat_lit 160 :: nat_lit 162 :: nat_lit 163 :: nat_lit 164 :: nat_lit 167 :: nat_lit 168 :: nat_lit 169 :: nat_lit 171 :: nat_lit 172 :: nat_lit 174 :: nat_lit 175 :: nat_lit 176 :: nat_lit 178 :: nat_lit 179 :: nat_lit 181 :: nat_lit 182 :: nat_lit 183 :: nat_lit 185 :: nat_lit 186 :: nat_lit 188 :: nat_lit 189 :: nat_lit 190 :: nat_lit 191 :: nat_lit 193 :: nat_lit 194 :: nat_lit 196 :: nat_lit 197 :: nat_lit 198 :: nat_lit 201 :: nat_lit 202 :: nat_lit 203 :: nat_lit 206 :: nat_lit 207 :: nat_lit 208 :: nat_lit 210 :: nat_lit 211 :: nat_lit 213 :: nat_lit 214 :: nat_lit 215 :: nat_lit 217 :: nat_lit 218 :: nat_lit 220 :: nat_lit 221 :: nat_lit 222 :: nat_lit 225 :: nat_lit 226 :: nat_lit 227 :: nat_lit 229 :: nat_lit 230 :: nat_lit 232 :: nat_lit 233 :: nat_lit 234 :: nat_lit 236 :: nat_lit 237 :: nat_lit 239 :: nat_lit 240 :: nat_lit 241 :: nat_lit 243 :: nat_lit 244 :: nat_lit 246 :: nat_lit 247 :: nat_lit 248 :: nat_lit 249 :: nat_lit 250 :: nat_lit 251 :: nat_lit 252 :: nat_lit 255 :: nat_lit 257 :: nat_lit 258 :: nat_lit 260 :: nat_lit 261 :: nat_lit 262 :: nat_lit 264 :: nat_lit 265 :: nat_lit 267 :: nat_lit 268 :: nat_lit 269 :: nat_lit 271 :: nat_lit 272 :: nat_lit 274 :: nat_lit 275 :: nat_lit 276 :: nat_lit 279 :: nat_lit 280 :: nat_lit 281 :: nat_lit 284 :: nat_lit 285 :: nat_lit 286 :: nat_lit 289 :: nat_lit 290 :: []
/-- the part of the text that the ground is read off: all but the module names and the def with a default -/
noncomputable def vw : Program := view prg [0, 1, 3, 5, 7, 8, 9, 10, 12, 13, 14, 16, 18, 19, 20, 21, 22, 23]
theorem KA_eq : ∀ P, KA = (KF P).map (·.1) := fun _ => by kernel_rfl
noncomputable abbrev hk : Hook := kmHook KF KA KA_eq [256]
/-- the top's run, by the kernel at once; the equations put the library's quick forms in the place of the run's words -/
theorem left : LeftO prg vw ["_twin_re_1", "_twin_re_2", "tspecials", "_name_disallowed_re", "_value_disallowed_re", "_formatparam"] (fun s => xlAt vw [] s && recOk (RowW.records PySem.Challenge.rw_jc0034_01.row.toRowW) s) hk.obs hk.val 3668 := by
  intro w
  unfold openEnds fencedOpening topFrom
  rw [PySem.W.Fast.te10274390034422433532, PySem.W.Fast.te4187177175401517315, PySem.W.Fast.te5923862056798008813, PySem.W.Fast.te14364793385576792824, PySem.W.Fast.te1435165496053646825, PySem.W.Fast.te14289696077712309145, PySem.W.Fast.te14082659384304107361, PySem.W.Fast.te8920871248978507458]
  kernel_rfl
theorem said : OpenLaw.wellSaid PySem.Challenge.rw_jc0034_01 = true := by
  rw [PySem.W.Fast.te9446332074065402090]
  kernel_rfl
theorem bare : prg.bare := ⟨rfl, rfl, rfl, rfl, rfl, by decide +kernel⟩
theorem wits : PySem.Challenge.rw_jc0034_01.row.toRowW.promised := by w_witness2
theorem chains : (chainsOk vw && opensWell prg && (frees PySem.Challenge.rw_jc0034_01.row.toRowW && PySem.Challenge.rw_jc0034_01.row.within.isEmpty)) = true := by decide +kernel
end Mine
end
section
theorem Mine.wTop_Base : True ∧ True := by
  w_top off
  (try (walk1; fail))
  exact ⟨trivial, trivial⟩
open PySem PySem.W PyProof.Rows PySem.Calls PySem.Spec
set_option Elab.async false
set_option maxRecDepth 100000
namespace Mine

/-- what a contract asks of the stack -/
structure Room (A : Around) (d u : Nat) : Prop where
  hh : A.handled = none
  hd : A.depth + d < recursionLimit
  hu : A.units + u < cLine
theorem Room.deeper {A : Around} {d u : Nat} {env : Env} (r : Room A (d + 1) (u + 3)) : Room (A.deeper env) d u :=
  ⟨r.hh, by have := r.hd; show A.depth + 1 + d < _; omega, by have := r.hu; show A.units + 3 + u < _; omega⟩
theorem Room.made {A : Around} {d u : Nat} {C : Addr} {pos : List Value} {kw : List (Str × Value)} (r : Room A (d + 1) (u + 3)) : Room (A.under (.builtin "type.__call__" ⟨.ref C :: pos, kw⟩)) d u :=
  ⟨r.hh, by have := r.hd; show A.depth + 1 + d < _; omega, by have := r.hu; have e : (Code.builtin "type.__call__" ⟨.ref C :: pos, kw⟩).cUnits ≤ 3 := (by decide : (Code.builtin "type.__call__" ⟨[.ref 0], []⟩).cUnits ≤ 3); show A.units + _ + u < _; omega⟩
theorem Room.less {A : Around} {d u d' u' : Nat} (r : Room A d u) (h : d' ≤ d) (h' : u' ≤ u) : Room A d' u' := ⟨r.hh, by have := r.hd; omega, by have := r.hu; omega⟩
theorem Room.in1 {A : Around} {d u : Nat} (r : Room A d (u + 1)) : Room A.in1 d u := ⟨r.hh, r.hd, by have := r.hu; show A.units + 1 + u < _; omega⟩

section
variable {prog : Program} {w : World} {A : Around} {s : Shared} {h₀ : Heap} {L : Addr} {m : Str → Option Value} {news : List (Addr × Obj)} {K : Frag}
  {name qual : Str} {params : Arguments} {body : List Stmt} {scope : Scope} {dV kV doc pm cdv ct oc : Value} {an od : Option Addr} {osl : Array (Option Value)} {f : Addr} {args : Args} {binds : List (Str × Value)}
  {Q E : Value → Shared → Prop} {p : Program} {loose : List Str} {mean : ExcName → Option Value} {mg mb : Str → Option Value}

/-- what comes back of a def: the caller's frame stands, the ledger is the new one -/
theorem ground (F : Fr h₀ L s.heap m) (N : News h₀ L s.heap news) :
    Fr h₀ L (hideAll s.heap (news.map (·.1))) m ∧ h₀.StaysIn (hideAll s.heap (news.map (·.1))) ∧
      ∀ (R : Result → Shared → Prop) v s', LeaveK h₀ L m (hideAll s.heap (news.map (·.1))) R v s' → R (.ok (.ret v)) s' := by
  have nm : ∀ b o, h₀.get? b = some o → b ∉ news.map (·.1) := fun b o e q => by
    obtain ⟨p, hp, rfl⟩ := List.mem_map.mp q
    rw [(N p hp).2.2] at e; cases e
  have st : h₀.StaysIn (hideAll s.heap (news.map (·.1))) := fun b o e => hideAll_get _ (F.keep b o e) (nm b o e)
  obtain ⟨oL, es, ep, hL, hLd, hLk, hLf⟩ := F.ns
  have nL : L ∉ news.map (·.1) := fun q => by
    obtain ⟨p, hp, e⟩ := List.mem_map.mp q
    exact (N p hp).2.1 e
  have hLg := hideAll_get (news.map (·.1)) hL nL
  refine ⟨⟨⟨oL, es, ep, hLg, hLd, hLk, hLf⟩, st, F.above⟩, st, fun R v s' hl => ?_⟩
  obtain ⟨L', m', news', F', N', k⟩ := hl
  refine k ⟨⟨oL, es, ep, F'.keep L oL hLg, hLd, hLk, hLf⟩, fun b o e => F'.keep b o (st b o e), F.above⟩ fun p hp => ⟨(N' p hp).1, fun q => ?_, ?_⟩
  · have := (N' p hp).2.2; rw [q, hLg] at this; cases this
  · cases q : h₀.get? p.1 with
    | none => rfl
    | some o => have := (N' p hp).2.2; rw [st _ _ q] at this; cases this

/-- none of the rest is in the ledger -/
noncomputable def Apart (led rest : List (Addr × Obj)) : Prop := ∀ p ∈ rest, ∀ q ∈ led, p.1 ≠ q.1
theorem Apart.nil {rest : List (Addr × Obj)} : Apart [] rest := fun _ _ _ h => nomatch h
theorem News.sub {h₀ h : Heap} {L : Addr} {l l' : List (Addr × Obj)} (N : News h₀ L h l) (hs : ∀ p ∈ l', p ∈ l) : News h₀ L h l' := fun p hp => N p (hs p hp)

theorem enterXc {R : Result → Shared → Prop} {fo : Obj} {cl : List (Str × Addr)} {pos : List Value} {kw : List (Str × Value)} {d u : Nat} {rest : List (Addr × Obj)} (Bnd : List (Addr × Obj) → List (Str × Value) → Prop) (X₀ : K.In h₀) (T : Top p loose mean mg mb h₀) (r : Room A (d + 1) (u + 3)) {b9 : Nat} (ht : b9 ≤ s.toks)
    (ho : s.heap.get? f = some fo) (hfd : fo.data = .func (fnX name qual params body scope cl dV kV doc pm an cdv ct)) (hcd : s.heap.CodeRec cdv qual)
    (hbind : ∀ (A : Around) (Q' : List (Str × Value) → Shared → Prop) (E' : Value → Shared → Prop), (∀ h' tk' news₁ binds, Fr h₀ L h' m → News h₀ L h' (news₁ ++ rest) → Apart news₁ rest → Bnd news₁ binds → s.toks ≤ tk' → Q' binds { s with heap := h', toks := tk' }) →
      wpAny (model prog w) A (bindArgs (fnX name qual params body scope cl dV kV doc pm an cdv ct) ⟨pos, kw⟩) Q' E' s)
    (hloc : ∀ news₁ binds, Bnd news₁ binds → ∀ y ∈ binds, scope.names.lookup y.1 = some .local)
    (h : ∀ g L' h₁ tk news₁ binds dp fr gd un (Qb : Flow → Shared → Prop), Bnd news₁ binds → Fr h₀ L g m → Fr g L' h₁ (fun y => binds.reverse.lookup y) → News g L' h₁ news₁ → K.In g → Top p loose mean mg mb g → Room ⟨none, dp, fr, gd, un⟩ d u → (∀ p ∈ news₁, p.1 < L') → b9 ≤ tk → s.toks ≤ tk →
      (∀ v s' L'' m' news', Fr g L'' s'.heap m' → News g L'' s'.heap news' → (Fr h₀ L s'.heap m → News h₀ L s'.heap (news' ++ rest) → Apart news' rest → s.toks ≤ s'.toks → R (.ok (.ret v)) s') → Qb (.ret v) s') →
      (∀ s' L'' m' news', Fr g L'' s'.heap m' → News g L'' s'.heap news' → (Fr h₀ L s'.heap m → News h₀ L s'.heap (news' ++ rest) → Apart news' rest → s.toks ≤ s'.toks → R (.ok (.ret .none)) s') → Qb .next s') →
      wpAny (model prog w) ⟨none, dp, fr, gd, un⟩ (execs body (envX qual scope L' f cdv cl)) Qb (fun _ _ => False) { s with heap := h₁, toks := tk })
    (hcell : ∀ x ∈ scope.names, x.2 ≠ .cell) (hco : scope.isCoroutine = false) (hgen : scope.isGenerator = false) (hk : scope.kind = .function) :
    codeAny (model prog w) A (.call (.ref f) ⟨pos, kw⟩) R s := by
  obtain ⟨hA, dp, fr, gd, un⟩ := A
  obtain rfl : hA = none := r.hh
  refine codeAny_call_function (fd := fnX name qual params body scope cl dV kV doc pm an cdv ct) (body := body) (by have := r.hd; omega) ho hfd hco hgen rfl hcd ?_
  refine hbind _ _ _ (fun h' tk' news₁ binds F' Nr hap hB ht' => ?_)
  have N' : News h₀ L h' news₁ := News.sub Nr fun p hp => List.mem_append_left _ hp
  obtain ⟨FG, st, lv⟩ := ground (s := { s with heap := h', toks := tk' }) F' N'
  have kr : ∀ p ∈ rest, (hideAll h' (news₁.map (·.1))).get? p.1 = some p.2 ∧ p.1 ≠ L ∧ h₀.get? p.1 = none := fun p hp =>
    have z := Nr p (List.mem_append_right _ hp)
    ⟨hideAll_get _ z.1 fun q => by obtain ⟨q', hq, e⟩ := List.mem_map.mp q; exact hap p hp q' hq e.symm, z.2⟩
  refine wpAny_newFunctionEnv hcell (hloc _ _ hB) (fun h₁ hns hsb => ⟨(T.nolimit.keeps F'.keep).fresh _ hsb, codeAny_func ?_⟩) hk
  have hk₁ : ∀ b o, h'.get? b = some o → h₁.get? b = some o := fun b o e => hsb.extBut b o (Nat.ne_of_lt (Heap.lt_size e)) (Heap.get?_push_of_some _ e)
  have Rm := Room.deeper (env := envX qual scope h'.objs.size f cdv cl) r
  show wpAny (model prog w) (Around.deeper ⟨none, dp, fr, gd, un⟩ (envX qual scope h'.objs.size f cdv cl)) (execs body (envX qual scope h'.objs.size f cdv cl)) _ _ _
  refine wpAny_with_toks (n := s.toks) (Nat.le_trans ht' (Nat.le_add_right _ _)) ?_
  refine wpAny_mono (h (hideAll h' (news₁.map (·.1))) h'.objs.size h₁ _ news₁ binds _ _ _ _ (fun fl s' => LeaveK h₀ L m (hideAll h' (news₁.map (·.1))) (fun r' s' => (∀ p ∈ rest, s'.heap.get? p.1 = some p.2) → s.toks ≤ s'.toks → R r' s') (match fl with | .ret v => v | _ => .none) s' ∧ (∀ p ∈ rest, s'.heap.get? p.1 = some p.2)) 
    hB FG ⟨hns, fun b o e => hk₁ b o (of_hideAll _ e), Nat.le_of_eq (hideAll_size _ _)⟩
    (fun p hp => ⟨hk₁ _ _ (N' p hp).1, Nat.ne_of_lt (Heap.lt_size (N' p hp).1), hideAll_none _ (List.mem_map_of_mem hp)⟩) (X₀.keeps st) (T.keeps st) Rm (fun p hp => Heap.lt_size (N' p hp).1) (Nat.le_trans ht (Nat.le_trans ht' (Nat.le_add_right _ _))) (Nat.le_trans ht' (Nat.le_add_right _ _))
    (fun v s' L'' m' news' F'' N'' k => ⟨⟨L'', m', news', F'', N'', fun a b kp => k a (fun p hp => (List.mem_append.mp hp).elim (b p) fun hr => ⟨kp p hr, (kr p hr).2⟩) (fun p hp q hq e => by have z := (N'' q hq).2.2; rw [← e, (kr p hp).1] at z; cases z)⟩, fun p hr => F''.keep _ _ (kr p hr).1⟩)
    (fun s' L'' m' news' F'' N'' k => ⟨⟨L'', m', news', F'', N'', fun a b kp => k a (fun p hp => (List.mem_append.mp hp).elim (b p) fun hr => ⟨kp p hr, (kr p hr).2⟩) (fun p hp q hq e => by have z := (N'' q hq).2.2; rw [← e, (kr p hp).1] at z; cases z)⟩, fun p hr => F''.keep _ _ (kr p hr).1⟩)) (fun fl s' hl ht' => ?_) fun _ _ y => y.elim
  exact lv (fun r' s' => (∀ p ∈ rest, s'.heap.get? p.1 = some p.2) → s.toks ≤ s'.toks → R r' s') _ _ hl.1 hl.2 ht'

theorem enterX {fo : Obj} {cl : List (Str × Addr)} {pos : List Value} {kw : List (Str × Value)} {d u : Nat} {rest : List (Addr × Obj)} (Bnd : List (Addr × Obj) → List (Str × Value) → Prop) (X₀ : K.In h₀) (T : Top p loose mean mg mb h₀) (r : Room A (d + 1) (u + 3)) {b9 : Nat} (ht : b9 ≤ s.toks)
    (ho : s.heap.get? f = some fo) (hfd : fo.data = .func (fnX name qual params body scope cl dV kV doc pm an cdv ct)) (hcd : s.heap.CodeRec cdv qual)
    (hbind : ∀ (A : Around) (Q' : List (Str × Value) → Shared → Prop) (E' : Value → Shared → Prop), (∀ h' tk' news₁ binds, Fr h₀ L h' m → News h₀ L h' (news₁ ++ rest) → Apart news₁ rest → Bnd news₁ binds → s.toks ≤ tk' → Q' binds { s with heap := h', toks := tk' }) →
      wpAny (model prog w) A (bindArgs (fnX name qual params body scope cl dV kV doc pm an cdv ct) ⟨pos, kw⟩) Q' E' s)
    (hloc : ∀ news₁ binds, Bnd news₁ binds → ∀ y ∈ binds, scope.names.lookup y.1 = some .local)
    (h : ∀ g L' h₁ tk news₁ binds dp fr gd un (Qb : Flow → Shared → Prop), Bnd news₁ binds → Fr h₀ L g m → Fr g L' h₁ (fun y => binds.reverse.lookup y) → News g L' h₁ news₁ → K.In g → Top p loose mean mg mb g → Room ⟨none, dp, fr, gd, un⟩ d u → (∀ p ∈ news₁, p.1 < L') → b9 ≤ tk → s.toks ≤ tk →
      (∀ v s' L'' m' news', Fr g L'' s'.heap m' → News g L'' s'.heap news' → (Fr h₀ L s'.heap m → News h₀ L s'.heap (news' ++ rest) → Apart news' rest → s.toks ≤ s'.toks → Q v s') → Qb (.ret v) s') →
      (∀ s' L'' m' news', Fr g L'' s'.heap m' → News g L'' s'.heap news' → (Fr h₀ L s'.heap m → News h₀ L s'.heap (news' ++ rest) → Apart news' rest → s.toks ≤ s'.toks → Q .none s') → Qb .next s') →
      wpAny (model prog w) ⟨none, dp, fr, gd, un⟩ (execs body (envX qual scope L' f cdv cl)) Qb (fun _ _ => False) { s with heap := h₁, toks := tk })
    (hcell : ∀ x ∈ scope.names, x.2 ≠ .cell) (hco : scope.isCoroutine = false) (hgen : scope.isGenerator = false) (hk : scope.kind = .function) :
    wpAny (model prog w) A (call (.ref f) pos kw) Q E s :=
  wpAny_call (enterXc (R := fun r s' => match r with | .ok (.ret v) => Q v s' | .ok _ => False | .error e => E e s') (L := L) (m := m) (rest := rest) Bnd X₀ T r ht ho hfd hcd hbind hloc h hcell hco hgen hk)

theorem enterMc {R : Result → Shared → Prop} {led rest : List (Addr × Obj)} {pos : List Value} {kw : List (Str × Value)} {d u : Nat} (F : Fr h₀ L s.heap m) (N : News h₀ L s.heap (led ++ rest)) (hap : Apart led rest) (X₀ : K.In h₀) (T : Top p loose mean mg mb h₀) (r : Room A (d + 1) (u + 3)) {b9 : Nat} (ht : b9 ≤ s.toks)
    (ho : K.lookup f = some ⟨oc, od, .func (fnOf name qual params body scope dV kV doc pm an cdv ct), osl⟩) (hcd : codeIn K cdv qual = true)
    (hbind : BindsTo s (fnOf name qual params body scope dV kV doc pm an cdv ct) ⟨pos, kw⟩ binds) (hloc : ∀ y ∈ binds, scope.names.lookup y.1 = some .local)
    (h : ∀ g L' h₁ tk dp fr gd un (Qb : Flow → Shared → Prop), Fr g L' h₁ (fun y => binds.reverse.lookup y) → News g L' h₁ led → K.In g → Top p loose mean mg mb g → Room ⟨none, dp, fr, gd, un⟩ d u → (∀ p ∈ led, p.1 < L') → b9 ≤ tk → s.toks ≤ tk →
      (∀ v s' L'' m' news', Fr g L'' s'.heap m' → News g L'' s'.heap news' → (Fr h₀ L s'.heap m → News h₀ L s'.heap (news' ++ rest) → Apart news' rest → s.toks ≤ s'.toks → R (.ok (.ret v)) s') → Qb (.ret v) s') →
      (∀ s' L'' m' news', Fr g L'' s'.heap m' → News g L'' s'.heap news' → (Fr h₀ L s'.heap m → News h₀ L s'.heap (news' ++ rest) → Apart news' rest → s.toks ≤ s'.toks → R (.ok (.ret .none)) s') → Qb .next s') →
      wpAny (model prog w) ⟨none, dp, fr, gd, un⟩ (execs body (envOf qual scope L' f cdv)) Qb (fun _ _ => False) { s with heap := h₁, toks := tk })
    (hcell : ∀ x ∈ scope.names, x.2 ≠ .cell) (hco : scope.isCoroutine = false) (hgen : scope.isGenerator = false) (hk : scope.kind = .function) :
    codeAny (model prog w) A (.call (.ref f) ⟨pos, kw⟩) R s :=
  enterXc (cl := []) (rest := rest) (fun n b => n = led ∧ b = binds) X₀ T r ht ((X₀.keeps F.keep) _ _ ho) rfl (codeRec_of (X₀.keeps F.keep) hcd)
    (fun _ Q' E' hq => hbind _ _ _ _ (hq s.heap s.toks led binds F N hap ⟨rfl, rfl⟩ (Nat.le_refl _))) (fun _ _ hB => hB.2 ▸ hloc)
    (fun g L' h₁ tk news₁ binds₁ dp fr gd un Qb hB FG F' N' X' T' r' l1 ht' htt' back backN => by obtain ⟨rfl, rfl⟩ := hB; exact h g L' h₁ tk dp fr gd un Qb F' N' X' T' r' l1 ht' htt' back backN) hcell hco hgen hk

theorem enterM {led rest : List (Addr × Obj)} {pos : List Value} {kw : List (Str × Value)} {d u : Nat} (F : Fr h₀ L s.heap m) (N : News h₀ L s.heap (led ++ rest)) (hap : Apart led rest) (X₀ : K.In h₀) (T : Top p loose mean mg mb h₀) (r : Room A (d + 1) (u + 3)) {b9 : Nat} (ht : b9 ≤ s.toks)
    (ho : K.lookup f = some ⟨oc, od, .func (fnOf name qual params body scope dV kV doc pm an cdv ct), osl⟩) (hcd : codeIn K cdv qual = true)
    (hbind : BindsTo s (fnOf name qual params body scope dV kV doc pm an cdv ct) ⟨pos, kw⟩ binds) (hloc : ∀ y ∈ binds, scope.names.lookup y.1 = some .local)
    (h : ∀ g L' h₁ tk dp fr gd un (Qb : Flow → Shared → Prop), Fr g L' h₁ (fun y => binds.reverse.lookup y) → News g L' h₁ led → K.In g → Top p loose mean mg mb g → Room ⟨none, dp, fr, gd, un⟩ d u → (∀ p ∈ led, p.1 < L') → b9 ≤ tk → s.toks ≤ tk →
      (∀ v s' L'' m' news', Fr g L'' s'.heap m' → News g L'' s'.heap news' → (Fr h₀ L s'.heap m → News h₀ L s'.heap (news' ++ rest) → Apart news' rest → s.toks ≤ s'.toks → Q v s') → Qb (.ret v) s') →
      (∀ s' L'' m' news', Fr g L'' s'.heap m' → News g L'' s'.heap news' → (Fr h₀ L s'.heap m → News h₀ L s'.heap (news' ++ rest) → Apart news' rest → s.toks ≤ s'.toks → Q .none s') → Qb .next s') →
      wpAny (model prog w) ⟨none, dp, fr, gd, un⟩ (execs body (envOf qual scope L' f cdv)) Qb (fun _ _ => False) { s with heap := h₁, toks := tk })
    (hcell : ∀ x ∈ scope.names, x.2 ≠ .cell) (hco : scope.isCoroutine = false) (hgen : scope.isGenerator = false) (hk : scope.kind = .function) :
    wpAny (model prog w) A (call (.ref f) pos kw) Q E s :=
  wpAny_call (enterMc (R := fun r s' => match r with | .ok (.ret v) => Q v s' | .ok _ => False | .error e => E e s') F N hap X₀ T r ht ho hcd hbind hloc h hcell hco hgen hk)

/-- a def with **params: the given names in a new dict -/
theorem enterKw {led rest : List (Addr × Obj)} {pos : List Value} {kw : List (Str × Value)} {d u : Nat} {nm : Str} {ex front : List (Str × Value)} {DD : List (PyData × PyData)} {g₁ : Addr → Sem (List (Str × Value))} (F : Fr h₀ L s.heap m) (N : News h₀ L s.heap (led ++ rest)) (hap : Apart led rest) (X₀ : K.In h₀) (T : Top p loose mean mg mb h₀) (r : Room A (d + 1) (u + 3)) {b9 : Nat} (ht : b9 ≤ s.toks)
    (ho : K.lookup f = some ⟨oc, od, .func (fnOf name qual params body scope dV kV doc pm an cdv ct), osl⟩) (hcd : codeIn K cdv qual = true)
    (hn : kwDistinct ex = true) (hD : PyProof.V.FlatPairs PyData.str ex DD)
    (hp : peekA K ⟨prog, w.params⟩ (bindArgs (fnOf name qual params body scope dV kV doc pm an cdv ct) ⟨pos, kw⟩) = some (dictOf [] 0, g₁))
    (hk₁ : ∀ D, g₁ D = (forIn ex PUnit.unit (fun x _ => (nsSet D x.1 x.2 >>= fun _ => pure (ForInStep.yield PUnit.unit))) >>= fun _ => pure (front ++ [(nm, Value.ref D)])))
    (hloc : ∀ D, ∀ y ∈ front ++ [(nm, Value.ref D)], scope.names.lookup y.1 = some .local)
    (h : ∀ D o g L' h₁ tk dp fr gd un (Qb : Flow → Shared → Prop), (∀ p ∈ led, p.1 < D) → (D == sysModules) = false → o.IsDictOf (strKind prog w) ex → PyProof.V.FlatPairs PyData.str ex DD → Fr g L' h₁ (fun y => (front ++ [(nm, Value.ref D)]).reverse.lookup y) → News g L' h₁ ((D, o) :: led) → K.In g → Top p loose mean mg mb g → Room ⟨none, dp, fr, gd, un⟩ d u → (∀ p ∈ (D, o) :: led, p.1 < L') → b9 ≤ tk → s.toks ≤ tk →
      (∀ v s' L'' m' news', Fr g L'' s'.heap m' → News g L'' s'.heap news' → (Fr h₀ L s'.heap m → News h₀ L s'.heap (news' ++ rest) → Apart news' rest → s.toks ≤ s'.toks → Q v s') → Qb (.ret v) s') →
      (∀ s' L'' m' news', Fr g L'' s'.heap m' → News g L'' s'.heap news' → (Fr h₀ L s'.heap m → News h₀ L s'.heap (news' ++ rest) → Apart news' rest → s.toks ≤ s'.toks → Q .none s') → Qb .next s') →
      wpAny (model prog w) ⟨none, dp, fr, gd, un⟩ (execs body (envOf qual scope L' f cdv)) Qb (fun _ _ => False) { s with heap := h₁, toks := tk })
    (hcell : ∀ x ∈ scope.names, x.2 ≠ .cell) (hco : scope.isCoroutine = false) (hgen : scope.isGenerator = false) (hk : scope.kind = .function) :
    wpAny (model prog w) A (call (.ref f) pos kw) Q E s := by
  have hn' := kwDistinct_nodup hn
  refine enterX (L := L) (m := m) (cl := []) (rest := rest) (fun n b => ∃ D t₀ n₀, n = (D, dictOf (kwEs w.params t₀ ex) n₀) :: led ∧ b = front ++ [(nm, Value.ref D)] ∧ (∀ p ∈ led, p.1 < D) ∧ (D == sysModules) = false) X₀ T r ht ((X₀.keeps F.keep) _ _ ho) rfl (codeRec_of (X₀.keeps F.keep) hcd)
    (fun A' Q' E' hq => ?_) (fun _ _ hB => ?_) (fun g L' h₁ tk news₁ binds₁ dp fr gd un Qb hB FG F' N' X' T' r' l1 ht' htt' back backN => ?_) hcell hco hgen hk
  · refine wp_of_peekA (o := dictOf [] 0) F N (X₀.keeps F.keep) rfl _ g₁ hp fun h' F' N' l => ?_
    rw [hk₁]
    refine wpAny_bind (kp_fill ex { s with heap := h' } [] 0 F' N' (fun p hp => Nat.ne_of_lt (l p hp)) (fun _ he => nomatch he) (fun _ he => nomatch he) hn' fun h'' F'' N'' => wpAny_pure ?_)
    refine hq h'' _ _ _ F'' N'' (fun p hp q hq => ?_) ⟨_, _, _, rfl, rfl, (fun p hp => l p (List.mem_append_left _ hp)), F.notModules (modules_low T.nolimit)⟩ (Nat.le_add_right _ _)
    rcases List.mem_cons.mp hq with rfl | hq
    · exact Nat.ne_of_lt (l p (List.mem_append_right _ hp))
    · exact hap p hp q hq
  · obtain ⟨D, t₀, n₀, rfl, rfl, l⟩ := hB; exact hloc D
  · obtain ⟨D, t₀, n₀, rfl, rfl, l, l'⟩ := hB
    exact h D _ g L' h₁ tk dp fr gd un Qb l l' (kp_isDict t₀ n₀ hn') hD F' N' X' T' r' l1 ht' htt' back backN
end
/-- a continuation that is told that no token was lost -/
noncomputable def Wt {α : Type} (n : Nat) (Q : α → Shared → Prop) : α → Shared → Prop := fun a s' => n ≤ s'.toks → Q a s'
theorem withT {α : Type} {M : Model} {A : Around} {t : Sem α} {Q : α → Shared → Prop} {E : Value → Shared → Prop} {s : Shared} (h : wpAny M A t (Wt s.toks Q) E s) : wpAny M A t Q E s :=
  wpAny_with_toks (n := s.toks) (Nat.le_refl _) (wpAny_mono h (fun _ _ x => x) fun _ _ x _ => x)
theorem Wt.intro {α : Type} {n : Nat} {Q : α → Shared → Prop} {a : α} {s' : Shared} (h : n ≤ s'.toks → Q a s') : Wt n Q a s' := h
theorem iteM {c : Prop} [Decidable c] {a b : Prop} (h1 : c → a) (h2 : ¬ c → b) : if c then a else b := by
  by_cases h : c
  · rw [if_pos h]; exact h1 h
  · rw [if_neg h]; exact h2 h
/-- a text by its signs -/
noncomputable def S (l : List Nat) : Str := ⟨l.toArray⟩
@[simp] theorem S_length (l : List Nat) : (S l).length = l.length := by simp [S, Str.length]
theorem S_append (a b : List Nat) : S a ++ S b = S (a ++ b) := by show Str.append _ _ = _; simp [S, Str.append]
theorem S_toList (l : List Nat) : (S l).cps.toList = l := by simp [S]
theorem S_of {x : Str} {l : List Nat} (h : x.cps.toList = l) : x = S l := by obtain ⟨⟨a⟩⟩ := x; exact congrArg _ (congrArg _ h)

theorem retS {Q : Value → Shared → Prop} {x y : Str} {t : Tok} {s : Shared} (e : x = y) (h : Q (.str y t) s) : Q (.str x t) s := e ▸ h
theorem sub_nil {α : Type} {l' : List α} : ∀ q ∈ ([] : List α), q ∈ l' := fun _ h => nomatch h
theorem sub_cons {α : Type} {p : α} {l l' : List α} (h : p ∈ l') (hs : ∀ q ∈ l, q ∈ l') : ∀ q ∈ p :: l, q ∈ l' := fun q hq => (List.mem_cons.mp hq).elim (fun e => e ▸ h) (hs q)
theorem all_nil {α : Type} {P : α → Prop} : ∀ q ∈ ([] : List α), P q := fun _ h => nomatch h
theorem all_cons {α : Type} {P : α → Prop} {a : α} {l : List α} (h : P a) (h' : ∀ q ∈ l, P q) : ∀ q ∈ a :: l, P q := fun q hq => (List.mem_cons.mp hq).elim (fun e => e ▸ h) (h' q)
theorem all_by {α : Type} {P : α → Prop} {l : List α} {q : α} (hq : q ∈ l) (h : ∀ q ∈ l, P q) : P q := h q hq
theorem sub_app {α : Type} {a b l : List α} (h : ∀ q ∈ a, q ∈ l) (h' : ∀ q ∈ b, q ∈ l) : ∀ q ∈ a ++ b, q ∈ l := fun q hq => (List.mem_append.mp hq).elim (h q) (h' q)
theorem sub_self {α : Type} {a : List α} : ∀ q ∈ a, q ∈ a := fun _ h => h
theorem sub_al {α : Type} {a b : List α} : ∀ q ∈ a, q ∈ a ++ b := fun _ h => List.mem_append_left _ h
theorem sub_ar {α : Type} {a b c : List α} (h : ∀ q ∈ a, q ∈ c) : ∀ q ∈ a, q ∈ b ++ c := fun q hq => List.mem_append_right _ (h q hq)
theorem sub_ac {α : Type} {a c : List α} {x : α} (h : ∀ q ∈ a, q ∈ c) : ∀ q ∈ a, q ∈ x :: c := fun q hq => List.Mem.tail _ (h q hq)
theorem sub_rest {α : Type} {pre l : List α} : ∀ q ∈ l, q ∈ pre ++ l := fun _ h => List.mem_append_right _ h
theorem fillK : (KF, PySem.Challenge.rw_jc0034_01) = (KF, PySem.Challenge.rw_jc0034_01) := by k_fill; rfl
end Mine
end
section
theorem Mine.wTop_Txt : True ∧ True := by
  w_top off
  (try (walk1; fail))
  exact ⟨trivial, trivial⟩
open PySem PySem.W PyProof.Rows PySem.Calls PySem.Spec
namespace Mine
open PySem.StrLaws

/- objects -/
noncomputable abbrev lst (vs : List Value) (n : Nat) : Obj := { cls := .type "list", data := .seq vs.toArray n }
noncomputable abbrev tup (vs : List Value) : Obj := { cls := .type "tuple", data := .seq vs.toArray }
noncomputable abbrev hdDict (w : World) (t : Tok) (hl : Addr) : Obj := dictOf [⟨PyData.keyHash w.params "_headers", .str "_headers" t, .ref hl⟩] 1
noncomputable abbrev hdLed (w : World) (x dx hl : Addr) (t0 : Tok) (vs : List Value) (n : Nat) : List (Addr × Obj) := [(x, instObj 250 dx), (dx, hdDict w t0 hl), (hl, lst vs n)]

/-- each sign c turned into z -/
noncomputable def rep1 (c : Nat) (z l : List Nat) : List Nat := l.flatMap fun a => if a = c then z else [a]
theorem rep1_append (c : Nat) (z a b : List Nat) : rep1 c z (a ++ b) = rep1 c z a ++ rep1 c z b := by simp [rep1]
theorem rep1_free (c : Nat) (z : List Nat) : ∀ l : List Nat, c ∉ l → rep1 c z l = l
  | [], _ => rfl
  | k :: r, h => by
    have h1 : ¬ k = c := fun e => h (e ▸ List.mem_cons_self ..)
    have h2 : c ∉ r := fun m => h (List.mem_cons_of_mem _ m)
    show (if k = c then z else [k]) ++ rep1 c z r = _
    rw [if_neg h1, rep1_free c z r h2]; rfl
theorem rep1_join (c : Nat) (z : Str) : ∀ parts : List Str, (∀ p ∈ parts, c ∉ p.cps.toList) → rep1 c z.cps.toList (Str.join ⟨#[c]⟩ parts).cps.toList = (Str.join z parts).cps.toList
  | [], _ => rfl
  | [p], h => rep1_free c _ _ (h p (List.mem_singleton.mpr rfl))
  | p :: q :: r, h => by
    have ih := rep1_join c z (q :: r) fun a ha => h a (List.mem_cons_of_mem _ ha)
    show rep1 c _ (p ++ ⟨#[c]⟩ ++ Str.join ⟨#[c]⟩ (q :: r)).cps.toList = (p ++ z ++ Str.join z (q :: r)).cps.toList
    simp only [Str.cps_append, Array.toList_append]
    rw [rep1_append, rep1_append, ih, rep1_free c _ _ (h p (List.mem_cons_self ..))]
    simp [rep1]
theorem replace1 (x z : Str) (c : Nat) : Txt.replace x ⟨#[c]⟩ z = S (rep1 c z.cps.toList x.cps.toList) := by
  refine S_of ?_
  rw [replace_one, ← rep1_join c z _ (split_free x c), join_split]

theorem replace1S (l z : List Nat) (c : Nat) : Txt.replace (S l) (S [c]) (S z) = S (rep1 c z l) := by
  have h := replace1 (S l) (S z) c
  rw [S_toList, S_toList] at h
  exact h
theorem rep1_len2 (c : Nat) (z : List Nat) (hz : z.length = 2) : ∀ l, (rep1 c z l).length ≤ 2 * l.length
  | [] => Nat.le_refl _
  | a :: r => by
    have ih := rep1_len2 c z hz r
    show ((if a = c then z else [a]) ++ rep1 c z r).length ≤ _
    rw [List.length_append]
    split
    · rw [hz, List.length_cons]; omega
    · simp only [List.length_cons, List.length_nil]; omega
/-- texts joined by a text -/
noncomputable def joinL (z : List Nat) : List (List Nat) → List Nat
  | [] => []
  | [a] => a
  | a :: b :: r => a ++ z ++ joinL z (b :: r)
theorem str_join (z : List Nat) : ∀ ts : List (List Nat), Str.join (S z) (ts.map S) = S (joinL z ts)
  | [] => rfl
  | [a] => rfl
  | a :: b :: r => by
    show S a ++ S z ++ Str.join (S z) ((b :: r).map S) = _
    rw [str_join z (b :: r), S_append, S_append]
    rfl
theorem txt_join (x : Str) (ys : List Str) : Txt.join x ys = Str.join x ys := StrLaws.glued_eq_join x ys
theorem txt_joinS (z : List Nat) (ts : List (List Nat)) : Txt.join (S z) (ts.map S) = S (joinL z ts) := (txt_join _ _).trans (str_join z ts)
theorem txt_join2 (z a b : List Nat) : Txt.join (S z) [S a, S b] = S (a ++ z ++ b) := txt_joinS z [a, b]
theorem rep1_free' {c : Nat} {z l : List Nat} (h : c ∉ l) : rep1 c z l = l := rep1_free c z l h
theorem lit_empty : Str.empty = S [] := rfl
theorem lit_nil : Str.ofString "" = S [] := by decide +kernel
theorem lit_bs : Str.ofString "\\" = S [92] := by decide +kernel
theorem lit_bs2 : Str.ofString "\\\\" = S [92, 92] := by decide +kernel
theorem lit_q : Str.ofString "\"" = S [34] := by decide +kernel
theorem lit_bq : Str.ofString "\\\"" = S [92, 34] := by decide +kernel
theorem lit_crlf : Str.ofString "\r\n" = S [13, 10] := by decide +kernel
theorem lit_us : Str.ofString "_" = S [95] := by decide +kernel
theorem lit_hy : Str.ofString "-" = S [45] := by decide +kernel
theorem lit_eqq : Str.ofString "=\"" = S [61, 34] := by decide +kernel
theorem lit_eq : Str.ofString "=" = S [61] := by decide +kernel
theorem lit_semi : Str.ofString "; " = S [59, 32] := by decide +kernel
theorem lit_colon : Str.ofString ": " = S [58, 32] := by decide +kernel
theorem lit_dot : Str.ofString "." = S [46] := by decide +kernel
theorem lit_dots : Str.ofString ".." = S [46, 46] := by decide +kernel
theorem lit_hash : Str.ofString "#" = S [35] := by decide +kernel
theorem lit_x : Str.ofString "x" = S [120] := by decide +kernel
theorem lit_nl : Str.ofString "\n" = S [10] := by decide +kernel
theorem lit_cr : Str.ofString "\r" = S [13] := by decide +kernel
theorem lit_now : Str.ofString "n_o_w" = S [110, 95, 111, 95, 119] := by decide +kernel
/-- all of them, for simp -/
theorem lits : (Str.empty = S []) ∧ (Str.ofString "\\" = S [92]) ∧ (Str.ofString "\\\\" = S [92, 92]) ∧ (Str.ofString "\"" = S [34]) ∧ (Str.ofString "\\\"" = S [92, 34]) ∧ (Str.ofString "" = S []) ∧ (Str.ofString "\r\n" = S [13, 10]) ∧ (Str.ofString "_" = S [95]) ∧ (Str.ofString "-" = S [45]) ∧ (Str.ofString "=\"" = S [61, 34]) ∧ (Str.ofString "=" = S [61]) ∧ (Str.ofString "; " = S [59, 32]) ∧ (Str.ofString ": " = S [58, 32]) ∧ (Str.ofString "." = S [46]) ∧ (Str.ofString ".." = S [46, 46]) ∧ (Str.ofString "#" = S [35]) ∧ (Str.ofString "x" = S [120]) ∧ (Str.ofString "\n" = S [10]) ∧ (Str.ofString "\r" = S [13]) ∧ (Str.ofString "n_o_w" = S [110, 95, 111, 95, 119]) :=
  ⟨lit_empty, lit_bs, lit_bs2, lit_q, lit_bq, lit_nil, lit_crlf, lit_us, lit_hy, lit_eqq, lit_eq, lit_semi, lit_colon, lit_dot, lit_dots, lit_hash, lit_x, lit_nl, lit_cr, lit_now⟩
theorem S_lit1 (c : Nat) : (⟨#[c]⟩ : Str) = S [c] := rfl
theorem S_lit2 (c d : Nat) : (⟨#[c, d]⟩ : Str) = S [c, d] := rfl
section
variable {prog : Program} {w : World} {A : Around} {E : Value → Shared → Prop} {s : Shared} {x y z : Str} {t u v : Tok} {Q : Value → Shared → Prop}
theorem replaceM (hu : u ≠ 0) (hv : v ≠ 0) (huv : u ≠ v) (hyz : (y == z) = false) (hb : x.length + (x.length + 1) * z.length ≤ 16777216)
    (hq : ∀ t' k, s.toks ≤ k → Q (.str (Txt.replace x y z) t') { s with toks := k }) :
    wpAny (model prog w) A (call (.builtin "str.replace") [.str x t, .str y u, .str z v]) Q E s :=
  wpAny_with_toks (Nat.le_refl _) (PySem.SC.replace hu hv huv hyz hb (fun t' k ht => hq t' k ht))
theorem joinM {D : Addr} {items : Array Value} {ys : List Str} (hl : s.heap.IsList D items) (hi : StrsAre items.toList ys) (hok : (ys.map (·.length)).sum + ys.length * x.length ≤ 16777216)
    (h : ∀ t' k, s.toks ≤ k → Q (.str (Txt.join x ys) t') { s with toks := k }) : wpAny (model prog w) A (call (.builtin "str.join") [.str x t, .ref D]) Q E s :=
  wpAny_with_toks (Nat.le_refl _) (join_list hl hi hok fun t' k ht => h t' k ht)
end
end Mine
end
section
theorem Mine.wTop_Sl : True ∧ True := by
  w_top off
  (try (walk1; fail))
  exact ⟨trivial, trivial⟩
open PySem PySem.W PyProof.Rows PySem.Calls PySem.Spec
namespace Mine
theorem slice_S {l : List Nat} {i j : Int} (h : 0 ≤ i ∧ i ≤ j ∧ j ≤ l.length) : Txt.slice (S l) (some i) (some j) = S ((l.drop i.toNat).take (j - i).toNat) := by
  have := StrLaws.sliceText_plain (x := S l) (i := i) (j := j) (by rw [S_toList]; exact h)
  rw [S_toList] at this
  exact this
theorem slice_neg {l : List Nat} {i : Option Int} {j : Int} (h0 : j < 0) (h1 : -(l.length : Int) ≤ j) : Txt.slice (S l) i (some j) = Txt.slice (S l) i (some (j + l.length)) := by
  have := StrLaws.sliceText_neg_hi (S l) i h0 (by rw [S_length]; exact h1)
  rw [S_length] at this
  exact this
theorem slice_to {l : List Nat} {j : Int} (h : 0 ≤ j ∧ j ≤ l.length) : Txt.slice (S l) none (some j) = S (l.take j.toNat) := by
  have := StrLaws.sliceText_to (x := S l) (j := j) (by rw [S_toList]; exact h)
  rw [S_toList, List.drop_zero, Int.sub_zero] at this
  exact this
theorem slice_word {p wd : List Nat} (h : p.length = 7) : Txt.slice (S (p ++ wd ++ [34])) (some 7) (some (-1)) = S wd := by
  rw [slice_neg (by decide) (by simp only [List.length_append, List.length_cons, List.length_nil]; omega), slice_S (by simp only [List.length_append, List.length_cons, List.length_nil]; omega)]
  congr 1
  rw [show ((7 : Int)).toNat = p.length by rw [h]; rfl, List.append_assoc, List.drop_left]
  have e : ∀ k : Nat, k = wd.length → List.take k (wd ++ [34]) = wd := fun k hk => by rw [hk, List.take_left]
  exact e _ (by simp only [List.length_append, List.length_cons, List.length_nil]; omega)
theorem slice_init {l : List Nat} {a : Nat} : Txt.slice (S (l ++ [a])) none (some (-1)) = S l := by
  rw [slice_neg (by decide) (by simp only [List.length_append, List.length_cons, List.length_nil]; omega), slice_to (by simp only [List.length_append, List.length_cons, List.length_nil]; omega)]
  congr 1
  have e : ∀ k : Nat, k = l.length → List.take k (l ++ [a]) = l := fun k hk => by rw [hk, List.take_left]
  exact e _ (by simp only [List.length_append, List.length_cons, List.length_nil]; omega)
end Mine
end
section
theorem Mine.wTop_Cell : True ∧ True := by
  w_top off
  (try (walk1; fail))
  exact ⟨trivial, trivial⟩
open PySem PySem.W PyProof.Rows PySem.Calls PySem.Spec
set_option Elab.async false
set_option maxRecDepth 100000
namespace Mine
section
variable {prog : Program} {w : World} {A : Around} {s : Shared} {h₀ : Heap} {L : Addr} {m : Str → Option Value} {news : List (Addr × Obj)} {K : Frag}
  {name qual : Str} {params : Arguments} {body : List Stmt} {scope : Scope} {dV kV doc pm cdv ct oc : Value} {an od : Option Addr} {osl : Array (Option Value)} {f : Addr} {args : Args} {binds : List (Str × Value)}
  {Q E : Value → Shared → Prop} {p : Program} {loose : List Str} {mean : ExcName → Option Value} {mg mb : Str → Option Value}
theorem enterC {led rest : List (Addr × Obj)} {pos : List Value} {kw : List (Str × Value)} {d u : Nat} (F : Fr h₀ L s.heap m) (N : News h₀ L s.heap (led ++ rest)) (hap : Apart led rest) (X₀ : K.In h₀) (T : Top p loose mean mg mb h₀) (r : Room A (d + 1) (u + 3)) {b9 : Nat} (ht : b9 ≤ s.toks)
    (ho : K.lookup f = some ⟨oc, od, .func (fnX name qual params body scope [] dV kV doc pm an cdv ct), osl⟩) (hcd : codeIn K cdv qual = true)
    (hbind : BindsTo s (fnX name qual params body scope [] dV kV doc pm an cdv ct) ⟨pos, kw⟩ binds)
    (hkind : ∀ n, ∀ x ∈ binds, scope.names.lookup x.1 = some .local ∨ (scope.names.lookup x.1 = some .cell ∧ ((cellsFrom n scope.names []).lookup x.1).isSome = true))
    (hnd : ((cellsFrom 0 scope.names []).map (·.1)).Nodup)
    (h : ∀ g L' h₁ tk cells dp fr gd un (Qb : Flow → Shared → Prop), Fr g L' h₁ (bindL (envOfC qual scope L' f cdv).kindOf binds fun _ => none) → News g L' h₁ (cells ++ led) →
      CellsAre (bindC (envOfC qual scope L' f cdv).kindOf binds fun _ => none) (cellsFrom (L' + 1) scope.names []) cells → K.In g → Top p loose mean mg mb g → Room ⟨none, dp, fr, gd, un⟩ d u → (∀ p ∈ led, p.1 < L') → b9 ≤ tk → s.toks ≤ tk →
      (∀ v s' L'' m' news', Fr g L'' s'.heap m' → News g L'' s'.heap news' → (Fr h₀ L s'.heap m → News h₀ L s'.heap (news' ++ rest) → Apart news' rest → s.toks ≤ s'.toks → Q v s') → Qb (.ret v) s') →
      (∀ s' L'' m' news', Fr g L'' s'.heap m' → News g L'' s'.heap news' → (Fr h₀ L s'.heap m → News h₀ L s'.heap (news' ++ rest) → Apart news' rest → s.toks ≤ s'.toks → Q .none s') → Qb .next s') →
      wpAny (model prog w) ⟨none, dp, fr, gd, un⟩ (execs body (envOfC qual scope L' f cdv)) Qb (fun _ _ => False) { s with heap := h₁, toks := tk })
    (hco : scope.isCoroutine = false) (hgen : scope.isGenerator = false) (hk : scope.kind = .function) :
    wpAny (model prog w) A (call (.ref f) pos kw) Q E s := by
  obtain ⟨hA, dp, fr, gd, un⟩ := A
  obtain rfl : hA = none := r.hh
  refine wpAny_call ?_
  have N' : News h₀ L s.heap led := News.sub N fun p hp => List.mem_append_left _ hp
  obtain ⟨FG, st, lv⟩ := ground (s := s) F N'
  have kr : ∀ p ∈ rest, (hideAll s.heap (led.map (·.1))).get? p.1 = some p.2 ∧ p.1 ≠ L ∧ h₀.get? p.1 = none := fun p hp =>
    have z := N p (List.mem_append_right _ hp)
    ⟨hideAll_get _ z.1 fun q => by obtain ⟨q', hq, e⟩ := List.mem_map.mp q; exact hap p hp q' hq e.symm, z.2⟩
  refine codeAny_call_function (by have : dp + (d + 1) < recursionLimit := r.hd; show dp < _; omega) ((X₀.keeps F.keep) _ _ ho) rfl hco hgen rfl (codeRec_of (X₀.keeps F.keep) hcd) (hbind _ _ _ _ ?_)
  refine wpAny_with_toks (n := s.toks) (Nat.le_refl _) ?_
  refine wpAny_newFunctionEnv_cells hk (hkind _) fun env' he s' x hts => ?_
  subst he
  refine ⟨(T.nolimit.keeps F.keep).keeps x.toInCall.keep, codeAny_func ?_⟩
  obtain ⟨h₁, tk, rfl, _⟩ := x.done
  have hk₁ := x.toInCall.keep
  obtain ⟨cells, NC, Y⟩ := Cl.news (h₀ := s.heap) (Nat.le_refl _) fun n c hm => ⟨x.cell n c (lookup_of_mem_nodup (cellsFrom_names scope.names 0 (s.heap.objs.size + 1) [] [] rfl ▸ hnd) hm), x.above n c hm⟩
  have Rm := Room.deeper (env := envOfC qual scope s.heap.objs.size f cdv) r
  refine wpAny_with_toks (n := s.toks) hts ?_
  refine wpAny_mono (h (hideAll s.heap (led.map (·.1))) s.heap.objs.size h₁ tk cells _ _ _ _ (fun fl s' => LeaveK h₀ L m (hideAll s.heap (led.map (·.1))) (fun r' s' => (∀ p ∈ rest, s'.heap.get? p.1 = some p.2) → s.toks ≤ s'.toks → (match r' with | .ok (.ret v) => Q v s' | .ok _ => False | .error e => E e s')) (match fl with | .ret v => v | _ => .none) s' ∧ (∀ p ∈ rest, s'.heap.get? p.1 = some p.2))
    ⟨x.toInCall.ns, fun b o e => hk₁ b o (of_hideAll _ e), Nat.le_of_eq (hideAll_size _ _)⟩ (fun p hp => ?_) Y (X₀.keeps st) (T.keeps st) Rm (fun p hp => Heap.lt_size (N' p hp).1) (Nat.le_trans ht hts) hts
    (fun v s' L'' m' news' F'' N'' k => ⟨⟨L'', m', news', F'', N'', fun a b kp => k a (fun p hp => (List.mem_append.mp hp).elim (b p) fun hr => ⟨kp p hr, (kr p hr).2⟩) (fun p hp q hq e => by have z := (N'' q hq).2.2; rw [← e, (kr p hp).1] at z; cases z)⟩, fun p hr => F''.keep _ _ (kr p hr).1⟩)
    (fun s' L'' m' news' F'' N'' k => ⟨⟨L'', m', news', F'', N'', fun a b kp => k a (fun p hp => (List.mem_append.mp hp).elim (b p) fun hr => ⟨kp p hr, (kr p hr).2⟩) (fun p hp q hq e => by have z := (N'' q hq).2.2; rw [← e, (kr p hp).1] at z; cases z)⟩, fun p hr => F''.keep _ _ (kr p hr).1⟩)) (fun fl s' hl ht' => ?_) fun _ _ y => y.elim
  · rcases List.mem_append.mp hp with hp | hp
    · refine ⟨(NC p hp).1, (NC p hp).2.1, ?_⟩
      cases q : (hideAll s.heap (led.map (·.1))).get? p.1 with
      | none => rfl
      | some o => have := of_hideAll _ q; rw [(NC p hp).2.2] at this; cases this
    · exact ⟨hk₁ _ _ (N' p hp).1, Nat.ne_of_lt (Heap.lt_size (N' p hp).1), hideAll_none _ (List.mem_map_of_mem hp)⟩
  · exact lv (fun r' s' => (∀ p ∈ rest, s'.heap.get? p.1 = some p.2) → s.toks ≤ s'.toks → (match r' with | .ok (.ret v) => Q v s' | .ok _ => False | .error e => E e s')) _ _ hl.1 hl.2 ht'
theorem CellsAre.one' {cm : Str → Option Value} {n₁ : Str} {c₁ : Addr} {cells : List (Addr × Obj)} (x : CellsAre cm [(n₁, c₁)] cells) : ∃ o₁, cells = [(c₁, o₁)] ∧ o₁.data = .cell (cm n₁) := by
  cases x with
  | cons h r => cases r; exact ⟨_, rfl, h⟩
end
end Mine
end
section
theorem Mine.wTop_LexT : True ∧ True := by
  w_top off
  (try (walk1; fail))
  exact ⟨trivial, trivial⟩
open PySem PySem.W PyProof.Rows PySem.Calls PySem.Spec
set_option maxRecDepth 100000
namespace Mine
structure LxT where
  (t1 t2 t3 t4 tw : Tok)
noncomputable abbrev lxE (w : World) (t1 t2 t3 t4 tw : Tok) (n : Int) (tn : Tok) (fp : Value) (px : Addr) : List DictEntry :=
  [⟨PyData.keyHash w.params "lineno", .str "lineno" t1, .int n tn⟩, ⟨PyData.keyHash w.params "instream", .str "instream" t2, fp⟩, ⟨PyData.keyHash w.params "whitespace", .str "whitespace" t3, .str "\n\t\r " tw⟩, ⟨PyData.keyHash w.params "pushback", .str "pushback" t4, .ref px⟩]
noncomputable abbrev lxLed (w : World) (x dx px : Addr) (t1 t2 t3 t4 tw : Tok) (n : Int) (tn : Tok) (fp : Value) (c : Nat) (vs : List Value) (vn : Nat) : List (Addr × Obj) :=
  [(x, instObj 83 dx), (dx, dictOf (lxE w t1 t2 t3 t4 tw n tn fp px) c), (px, lst vs vn)]

noncomputable def nestedDef (K : Frag) (f : Addr) : Option (Arguments × List Stmt × Scope) := match K.lookup f with
  | some ⟨_, _, .func ⟨_, _, _, .stmts (_ :: .FunctionDef _ ps body _ _ _ scope _ _ _ :: _), _, _, _, _, _, _, _, _, _, _, _⟩, _⟩ => some (ps, body, scope)
  | _ => none
theorem nest_use {K : Frag} {f : Addr} {rp a : Arguments} {rb b : List Stmt} {rs c : Scope} (h : nestedDef K f = some (rp, rb, rs)) (h' : nestedDef K f = some (a, b, c)) : rp = a ∧ rb = b ∧ rs = c := by
  rw [h] at h'
  cases h'
  exact ⟨rfl, rfl, rfl⟩
/-- one text for each sign -/
noncomputable abbrev chars (l : List Nat) : List Str := l.map fun c => S [c]
theorem strs_carried {vs : List Value} {ys : List Str} (h : StrsAre vs ys) : CarriedAll vs (ys.map PyData.str) := by
  induction h with
  | nil => exact .nil
  | cons y t _ ih => exact .cons (.str y t) ih
theorem canLay_strs : ∀ ys : List Str, (∀ y ∈ ys, PyData.strOk y = true) → PyData.canLayAll0 (ys.map PyData.str) = true
  | [], _ => rfl
  | y :: r, h => by simp [PyData.canLayAll0, PyData.canLay0, canLay_strs r (fun z hz => h z (List.mem_cons_of_mem _ hz)), h y (List.mem_cons_self ..)]
theorem depth_strs : ∀ ys : List Str, PyData.depthAll (ys.map PyData.str) = 0
  | [] => rfl
  | _ :: r => by simp [PyData.depthAll, PyData.depth, depth_strs r]
theorem shaped_strs {ys : List Str} (h : ∀ y ∈ ys, PyData.strOk y = true) : SeqAt.shaped (.list (ys.map PyData.str)) = true := by
  simp [SeqAt.shaped, PyData.canLay0, PyData.depth, canLay_strs ys h, depth_strs]
theorem strOk_S {l : List Nat} (h : ∀ c ∈ l, c < 128) : PyData.strOk (S l) = true := by
  simp only [PyData.strOk, S, List.all_toArray, List.all_eq_true, decide_eq_true_eq]
  intro c hc
  have := h c hc
  omega
section
variable {prog : Program} {w : World} {A : Around} {E : Value → Shared → Prop} {s : Shared} {a b : Addr} {vs : List Value} {l : List Nat} {Q : Value → Shared → Prop}
theorem eq_nilS (ha : s.heap.IsList a vs.toArray) (hb : s.heap.IsList b #[]) (hi : StrsAre vs (chars l)) (hl : ∀ c ∈ l, c < 128) (hu : A.units + 64 < cLine) (h : Q (.bool l.isEmpty) s) :
    wpAny (model prog w) A (compareOp .Eq (.ref a) (.ref b)) Q E s := by
  refine eq_dataH (reads_newData ha (strs_carried hi)) (reads_newData hb .nil) (shaped_strs fun y hy => ?_) (shaped_strs (ys := []) fun y hy => nomatch hy) hu ?_
  · obtain ⟨c, hc, rfl⟩ := List.mem_map.mp hy
    exact strOk_S fun d hd => by have := List.mem_singleton.mp hd; have := hl c hc; omega
  · cases l with
    | nil => exact h
    | cons c r => exact h
end
theorem strs_len {vs : List Value} {ys : List Str} (h : StrsAre vs ys) : vs.length = ys.length := by
  induction h with
  | nil => rfl
  | cons _ _ _ ih => simp [ih]
theorem pop0 {prog : Program} {w : World} {A : Around} {E Q : Value → Shared → Prop} {s : Shared} {h₀ : Heap} {L D : Addr} {m : Str → Option Value} {news news' : List (Addr × Obj)} {n : Nat} {v : Value} {vs : List Value} {u : Tok} (F : Fr h₀ L s.heap m) (N : News h₀ L s.heap news)
    (U : Upd D (listOf (v :: vs).toArray n) (listOf vs.toArray (n + 1)) news news') (hz : (v :: vs).length ≤ 16777216) (h : ∀ h', Fr h₀ L h' m → News h₀ L h' news' → Q v { s with heap := h' }) : wpAny (model prog w) A (call (.builtin "list.pop") [.ref D, .int 0 u]) Q E s :=
  kl_popAt (k := 0) (p := []) (q := vs) (y := v) (its := (v :: vs).toArray) (n := n) F N rfl (by
    show seqIndex? 0 (v :: vs).toArray.size = some 0
    simp [seqIndex?]) rfl U (by rw [sizeLine_eq]; exact hz) h
/-- what the reader needs -/
noncomputable abbrev rdLed (cA : Addr) (oC : Obj) (sg : Addr) (vs : List Value) (vn : Nat) (c' : Addr) (oc : Obj) (f : Addr) (rp : Arguments) (rb : List Stmt) (rs : Scope) (qual : Str) (doc pm ctv : Value) : List (Addr × Obj) :=
  [(sg, lst vs vn), (f, fnMade "read" qual rp rb rs [("signs", cA)] doc pm c' ctv), (c', oc), (cA, oC)]
structure RdOk (w : World) (oC : Obj) (sg : Addr) (oc : Obj) (rp : Arguments) (rb : List Stmt) (rs : Scope) (qual : Str) : Prop where
  hr : nestedDef (KF w.params) 261 = some (rp, rb, rs)
  hC : oC.data = .cell (some (.ref sg))
  hc : ∃ vc tq, oc.data = .fields vc ∧ vc[1]? = some (.str qual tq)
/-- a lexer over a stream over a reader: what stands -/
structure LX where
  (x dx px y dy py sg f c' cA : Addr)
  (t1 t2 t3 t4 tw u1 u2 u3 u4 uw u5 un : Tok)
  (oc oC : Obj)
  (rp : Arguments)
  (rb : List Stmt)
  (rs : Scope)
  (qual : Str)
  (doc pm ctv : Value)
noncomputable abbrev lxY (w : World) (Z : LX) : List DictEntry := lxE w Z.u1 Z.u2 Z.u3 Z.u4 Z.uw 1 Z.un .none Z.py ++ [⟨PyData.keyHash w.params "read", .str "read" Z.u5, .ref Z.f⟩]
noncomputable abbrev lxA (w : World) (Z : LX) (n : Int) (tn : Tok) (ps : List Value) (pn : Nat) (vs : List Value) (vn : Nat) : List (Addr × Obj) :=
  [(Z.x, instObj 83 Z.dx), (Z.dx, dictOf (lxE w Z.t1 Z.t2 Z.t3 Z.t4 Z.tw n tn (.ref Z.y) Z.px) 4), (Z.px, lst ps pn), (Z.y, instObj 83 Z.dy), (Z.dy, dictOf (lxY w Z) 5),
   (Z.sg, lst vs vn), (Z.f, fnMade "read" Z.qual Z.rp Z.rb Z.rs [("signs", Z.cA)] Z.doc Z.pm Z.c' Z.ctv), (Z.c', Z.oc), (Z.cA, Z.oC)]
structure LX.Ok (Z : LX) (w : World) : Prop where
  rd : RdOk w Z.oC Z.sg Z.oc Z.rp Z.rb Z.rs Z.qual
  e1 : @LT.lt Nat _ Z.cA Z.sg
  e2 : @LT.lt Nat _ Z.sg Z.f
  e3 : @LT.lt Nat _ Z.c' Z.f
  e9 : @Ne Nat Z.c' Z.sg
  e4 : @LT.lt Nat _ Z.f Z.dy
  e5 : @LT.lt Nat _ Z.dy Z.y
  e6 : @LT.lt Nat _ Z.y Z.dx
  e7 : @LT.lt Nat _ Z.dx Z.x
  e8 : @LT.lt Nat _ Z.x Z.px
theorem lxA_apart {w : World} {Z : LX} (ok : Z.Ok w) (n : Int) (tn : Tok) (pn vn : Nat) (ps vs : List Value) :
    Apart (rdLed Z.cA Z.oC Z.sg vs vn Z.c' Z.oc Z.f Z.rp Z.rb Z.rs Z.qual Z.doc Z.pm Z.ctv) [(Z.x, instObj 83 Z.dx), (Z.dx, dictOf (lxE w Z.t1 Z.t2 Z.t3 Z.t4 Z.tw n tn (.ref Z.y) Z.px) 4), (Z.px, lst ps pn), (Z.y, instObj 83 Z.dy), (Z.dy, dictOf (lxY w Z) 5)] := by
  obtain ⟨_, e1, e2, e3, e9, e4, e5, e6, e7, e8⟩ := ok
  intro p hp q hq
  have hp' : @LT.lt Nat _ Z.f p.1 := by
    simp only [List.mem_cons, List.not_mem_nil, or_false] at hp
    rcases hp with rfl | rfl | rfl | rfl | rfl <;> (dsimp only; omega)
  have hq' : @LE.le Nat _ q.1 Z.f := by
    simp only [List.mem_cons, List.not_mem_nil, or_false] at hq
    rcases hq with rfl | rfl | rfl | rfl <;> (dsimp only; omega)
  exact Nat.ne_of_gt (Nat.lt_of_le_of_lt hq' hp')
theorem S_beq (a b : List Nat) : (S a == S b) = (a == b) := by
  by_cases h : a = b
  · subst h; simp
  · rw [beq_eq_false_iff_ne.mpr h, beq_eq_false_iff_ne]
    intro e
    apply h
    have := congrArg (fun s : Str => s.cps.toList) e
    simpa [S] using this
theorem eq_sign {prog : Program} {w : World} {A : Around} {E Q : Value → Shared → Prop} {s : Shared} {y : Str} {q a : Nat} {t u : Tok} (hy : y = S [q]) (h : Q (.bool (decide (a = q))) s) :
    wpAny (model prog w) A (compareOp .Eq (.str (S [a]) t) (.str y u)) Q E s := by
  refine eq_str ?_
  subst hy
  rw [S_beq]
  have e : ([a] == [q]) = decide (a = q) := by by_cases h : a = q <;> simp [h]
  rw [e]
  exact h
end Mine
end
section
theorem Mine.wTop_Tx2 : True ∧ True := by
  w_top off
  (try (walk1; fail))
  exact ⟨trivial, trivial⟩
open PySem PySem.W PyProof.Rows PySem.Calls PySem.Spec
namespace Mine
noncomputable def isMark (mk : Nat) : Prop := mk = 34 ∨ mk = 92 ∨ mk = 40 ∨ mk = 39
theorem isMark.off {mk : Nat} (h : isMark mk) : mk < 65 ∨ 80 < mk := by unfold isMark at h; omega
theorem isMark.lt {mk : Nat} (h : isMark mk) : mk < 128 := by unfold isMark at h; omega
theorem wp_cut {α : Type} {M : Model} {A : Around} {t : Sem α} {Q : α → Shared → Prop} {E : Value → Shared → Prop} {s : Shared} (R : α → Shared → Prop) (h1 : wpAny M A t R E s) (h2 : ∀ a s', R a s' → Q a s') : wpAny M A t Q E s :=
  wpAny_mono h1 h2 fun _ _ x => x
section
variable {prog : Program} {w : World} {A : Around} {E Q : Value → Shared → Prop} {s : Shared} {h₀ : Heap} {L : Addr} {m : Str → Option Value} {news : List (Addr × Obj)}
theorem add_S {x y : Str} {a b : List Nat} {t u : Tok} (hx : x = S a) (hy : y = S b) (hz : a.length + b.length ≤ 16777216) (h : ∀ t' k, s.toks ≤ k → Q (.str (S (a ++ b)) t') { s with toks := k }) :
    wpAny (model prog w) A (binaryOp .Add (.str x t) (.str y u)) Q E s := by
  subst hx; subst hy
  refine wpAny_with_toks (Nat.le_refl _) (add_str (fun t' k => ?_) (by rw [S_length, S_length, sizeLine_eq]; exact hz))
  intro ht
  rw [S_append]
  exact h t' k ht
/-- what a tree yields is one text, and the frame stands -/
noncomputable def TextR (s : Shared) (h₀ : Heap) (L : Addr) (m : Str → Option Value) (news : List (Addr × Obj)) (l : List Nat) (v : Value) (s' : Shared) : Prop :=
  ∃ tt h' k, s' = { s with heap := h', toks := k } ∧ v = .str (S l) tt ∧ s.toks ≤ k ∧ Fr h₀ L h' m ∧ News h₀ L h' news
theorem TextR.of {l : List Nat} {v : Value} {tt : Tok} {h' : Heap} {k : Nat} (F : Fr h₀ L h' m) (N : News h₀ L h' news) (e : v = .str (S l) tt) (ht : s.toks ≤ k) : TextR s h₀ L m news l v { s with heap := h', toks := k } := ⟨tt, h', k, rfl, e, ht, F, N⟩
theorem text_cut {t : Sem Value} (l : List Nat) (_F : Fr h₀ L s.heap m) (_N : News h₀ L s.heap news) (h1 : wpAny (model prog w) A t (TextR s h₀ L m news l) E s)
    (h2 : ∀ tt h' k, s.toks ≤ k → Fr h₀ L h' m → News h₀ L h' news → Q (.str (S l) tt) { s with heap := h', toks := k }) : wpAny (model prog w) A t Q E s :=
  wp_cut (TextR s h₀ L m news l) h1 fun v s' h => by
    obtain ⟨tt, h', k, rfl, rfl, ht, F, N⟩ := h
    exact h2 tt h' k ht F N
end
/-- the dot that quotedata lays ahead of a row -/
noncomputable def dotL (l : List Nat) : List Nat := if l.take 1 = [46] then [46] else []
theorem dotL_len (l : List Nat) : (dotL l).length ≤ 1 := by unfold dotL; split <;> simp
theorem dotL_pos {l : List Nat} (h : (S (l.take 1) == S [46]) = true) : dotL l = [46] := by
  rw [S_beq] at h
  rw [dotL, if_pos (by simpa using h)]
theorem dotL_neg {l : List Nat} (h : ¬ (S (l.take 1) == S [46]) = true) : dotL l = [] := by
  rw [S_beq] at h
  rw [dotL, if_neg (by simpa using h)]
section
variable {prog : Program} {w : World} {A : Around} {E Q : Value → Shared → Prop} {s : Shared} {h₀ : Heap} {L : Addr} {m : Str → Option Value} {news : List (Addr × Obj)}
theorem dot_cut {t : Sem Value} {mm : Str → Option Value} {l : List Nat} {tl : Tok} (_hx : mm (Str.ofString "line") = some (.str (S l) tl)) (F : Fr h₀ L s.heap m) (N : News h₀ L s.heap news) (h1 : wpAny (model prog w) A t (TextR s h₀ L m news (dotL l)) E s)
    (h2 : ∀ tt h' k, s.toks ≤ k → Fr h₀ L h' m → News h₀ L h' news → Q (.str (S (dotL l)) tt) { s with heap := h', toks := k }) : wpAny (model prog w) A t Q E s := text_cut (dotL l) F N h1 h2
end
theorem slice_one (l : List Nat) : Txt.slice (S l) none (some 1) = S (l.take 1) := by
  cases l with
  | nil => decide +kernel
  | cons a r => rw [slice_to (by simp only [List.length_cons]; omega)]; rfl
theorem text_join {prog : Program} {w : World} {A : Around} {E Q : Value → Shared → Prop} {s : Shared} {x : Str} {t : Tok} {D : Addr} {items : Array Value} {z : List Nat} {ts : List (List Nat)} (hx : x = S z) (hl : s.heap.IsList D items) (hi : StrsAre items.toList (ts.map S)) (hok : (ts.map (·.length)).sum + ts.length * z.length ≤ 16777216)
    (h : ∀ t' k, s.toks ≤ k → Q (.str (S (joinL z ts)) t') { s with toks := k }) : wpAny (model prog w) A (call (.builtin "str.join") [.str x t, .ref D]) Q E s := by
  subst hx
  refine joinM hl hi ?_ fun t' k ht => ?_
  · rw [S_length, List.length_map, List.map_map, show (Str.length ∘ S) = List.length from funext fun l => S_length l]
    exact hok
  · rw [txt_joinS]; exact h t' k ht
theorem dot_end1 {l : List Nat} {t : Tok} (h : (Txt.slice (S l) none (some 1) == Str.ofString ".") = true) : Value.str (Str.ofString ".") t = .str (S (dotL l)) t := by
  rw [slice_one, lit_dot] at h
  rw [dotL_pos h, lit_dot]
theorem dot_end0 {l : List Nat} {t : Tok} (h : ¬ (Txt.slice (S l) none (some 1) == Str.ofString ".") = true) : Value.str (Str.ofString "") t = .str (S (dotL l)) t := by
  rw [slice_one, lit_dot] at h
  rw [dotL_neg h, lit_nil]
theorem mul_dots : ∀ d : Nat, d < 20 → Txt.mul (Str.ofString ".") (d : Int) = S (List.replicate d 46) := by decide +kernel
theorem dotsM {prog : Program} {w : World} {A : Around} {E Q : Value → Shared → Prop} {s : Shared} {d : Nat} {i : Int} {t u : Tok} (hi : i = (d : Int)) (hd : d < 20) (h : ∀ t' k, s.toks ≤ k → Q (.str (S (List.replicate d 46)) t') { s with toks := k }) :
    wpAny (model prog w) A (binaryOp .Mult (.str (Str.ofString ".") t) (.int i u)) Q E s := by
  subst hi
  refine wpAny_with_toks (Nat.le_refl _) (PySem.SB.mul (mulOk_of 16 1048576 (by decide +kernel) (by omega) (by omega) (by decide) (by decide)) fun t' k => ?_)
  intro ht
  rw [mul_dots d hd]
  exact h t' k ht
theorem lit_a : Str.ofString "a" = S [97] := by decide +kernel
theorem lit_b : Str.ofString "b" = S [98] := by decide +kernel
end Mine
end
section
theorem Mine.wTop_Fown : True ∧ True := by
  w_top off
  (try (walk1; fail))
  exact ⟨trivial, trivial⟩
open PySem PySem.W PyProof.Rows PySem.Calls PySem.Spec
set_option Elab.async false
set_option maxRecDepth 100000
namespace Mine
section
variable {prog : Program} {w : World} {A : Around} {E : Value → Shared → Prop} {s : Shared} {env : Env}
theorem For_own {v : Str} {px pos : Pos} {iter : Expr} {body : List Stmt} {Q : Flow → Shared → Prop} (I : Addr) (Inv : Nat → Shared → Prop) (n : Nat)
    (h : wpAny (model prog w) A (eval iter env) (fun xv s₁ => wpAny (model prog w) A (pyIter xv) (fun it s₂ => it = .ref I ∧ Inv n s₂) E s₁) E s)
    (turn : ∀ k s', Inv k s' → wpAny (model prog w) A (pyNext (.ref I)) (OwitTurn prog w A E env v body Q (fun s3 => ∃ k', k' < k ∧ Inv k' s3)) E s')
    (hs : ∀ x, foldedSetIterable iter env x = pure x := by intro _; rfl) (hE : PassesOwn (model prog w) A env E := by passes_own) :
    wpAny (model prog w) A (exec (.For (.Name v px) iter body [] pos) env) Q E s := by
  refine wpAny_For (wpAny_mono h (fun xv s₁ h₁ => wpAny_mono h₁ (fun it s₂ h₂ => ?_) fun _ _ z => z) fun _ _ z => z) hs
  obtain ⟨rfl, h₂⟩ := h₂
  refine codeAny_forLoop (R := fun r s' => match r with | .ok f => Q f s' | .error e => cameBackBy (model prog w) A env E e s') Inv ?_ n h₂
  intro k s' hk
  refine wpAny_passesOwn hE (wpAny_mono (turn k s' hk) (fun r s₁ hr => ?_) fun _ _ z => z)
  cases r with
  | none => exact wpAny_execs_nil hr
  | some y =>
    refine wpAny_passesOwn hE (wpAny_assign_Name (wpAny_mono hr (fun _ s₂ h₂ => ?_) fun _ _ z => z))
    refine wpAny_passesOwn hE (wpAny_mono h₂ (fun f s₃ h₃ => ?_) fun _ _ z => z)
    cases f with
    | next => exact h₃
    | cont => exact h₃
    | brk => exact h₃
    | ret _ => exact h₃
end
/-- a blank -/
noncomputable abbrev ws (c : Nat) : Prop := c = 10 ∨ c = 9 ∨ c = 13 ∨ c = 32
/-- a word up to a blank: what get_token's inner loop reads -/
noncomputable def tokB : List Nat → List Nat → Option (List Nat × List Nat)
  | _, [] => none
  | t, a :: l => if ws a then some (t, l) else if a = 92 then (match l with | [] => none | b :: l' => tokB (t ++ [b]) l') else tokB (t ++ [a]) l
/-- the next word: what get_token reads -/
noncomputable def tokA : List Nat → Option (List Nat × List Nat)
  | [] => none
  | a :: l => if ws a then tokA l else if a = 34 ∨ a = 92 then none else tokB [a] l
noncomputable def nl (l : List Nat) : Int := (l.count 10 : Nat)
theorem ws_all : ∀ a, a < 128 → (!(PySem.Builtin.Str.occurrences (Str.ofString "\n\t\r ") (S [a]) 0 (Str.ofString "\n\t\r ").length 1).isEmpty) = decide (ws a) := by decide +kernel
section
variable {prog : Program} {w : World} {A : Around} {E Q : Value → Shared → Prop} {s : Shared}
theorem in_ws {a : Nat} {t u : Tok} (ha : a < 128) (h : Q (.bool (decide (ws a))) s) : wpAny (model prog w) A (compareOp .In (.str (S [a]) u) (.str (Str.ofString "\n\t\r ") t)) Q E s :=
  in_str (by rw [ws_all a ha]; exact h)
end
theorem ws_nl {a : Nat} {l : List Nat} {n n0 : Int} (h : n + nl (a :: l) = n0) : (if a = 10 then n + 1 else n) + nl l = n0 := by
  unfold nl at h ⊢
  rw [List.count_cons] at h
  by_cases e : a = 10
  · subst e
    rw [if_pos rfl]
    simp at h
    omega
  · rw [if_neg e]
    rw [if_neg (by simpa using e)] at h
    omega
end Mine
end
section
theorem Mine.wTop_Lit : True ∧ True := by
  w_top off
  (try (walk1; fail))
  exact ⟨trivial, trivial⟩
open PySem PySem.W PyProof.Rows PySem.Calls PySem.Spec
set_option Elab.async false
set_option maxRecDepth 100000
namespace Mine
structure LitObj (o : Obj) (D : Addr) (i : Nat) : Prop where
  cls : o.cls = .type "list_iterator"
  data : o.data = .fields #[.ref D, .int i 0]
section
variable {prog : Program} {w : World} {A : Around} {E : Value → Shared → Prop} {s : Shared} {h₀ : Heap} {L : Addr} {m : Str → Option Value} {news : List (Addr × Obj)}
theorem News.list {h : Heap} {D : Addr} {vs : List Value} {n : Nat} (N : News h₀ L h news) (hD : (D, lst vs n) ∈ news) : h.IsList D vs.toArray := ⟨_, N.get hD, rfl, n, rfl⟩
theorem lit_iter {D : Addr} {vs : List Value} {n : Nat} {Q : Value → Shared → Prop} (F : Fr h₀ L s.heap m) (N : News h₀ L s.heap news) (hD : (D, lst vs n) ∈ news)
    (h : ∀ I o h', LitObj o D 0 → Fr h₀ L h' m → News h₀ L h' ((I, o) :: news) → (∀ p ∈ news, @LT.lt Nat _ p.1 I) → Q (.ref I) { s with heap := h' }) : wpAny (model prog w) A (pyIter (.ref D)) Q E s :=
  wpAny_pyIter_list (News.list N hD) (h _ _ _ ⟨rfl, rfl⟩ (F.push _) (N.push F _) fun p hp => Heap.lt_size (N p hp).1)
theorem lit_next {I D : Addr} {o : Obj} {vs : List Value} {n i : Nat} {Q : Option Value → Shared → Prop} (hh : A.handled = none) (F : Fr h₀ L s.heap m) (N : News h₀ L s.heap ((I, o) :: news)) (hD : (D, lst vs n) ∈ news) (hap : ∀ q ∈ news, q.1 ≠ I) (ho : LitObj o D i)
    (ret0 : vs.length ≤ i → ∀ h' tk, s.toks ≤ tk → Fr h₀ L h' m → News h₀ L h' news → Q none { s with heap := h', toks := tk })
    (ret1 : ∀ v o' h' tk, s.toks ≤ tk → vs[i]? = some v → LitObj o' D (i + 1) → Fr h₀ L h' m → News h₀ L h' ((I, o') :: news) → Q (some v) { s with heap := h', toks := tk }) (hi : i ≤ vs.length) :
    wpAny (model prog w) A (pyNext (.ref I)) Q E s := by
  have hl := News.list N (List.mem_cons_of_mem _ hD)
  have hne : D ≠ I := hap _ hD
  have W := Walks.list (prog := prog) (w := w) hh I D hne vs.toArray
  have hit : s.heap.IsListIter I D i := ⟨o, N.get (.head _), ho.cls, ho.data⟩
  have hIL := (N _ (.head _)).2.1
  have hI₀ := (N _ (.head _)).2.2
  refine wpAny_with_toks (Nat.le_refl _) ?_
  by_cases hlt : i < vs.length
  · refine W.item i s (fun r s' => s.toks ≤ s'.toks → Q r s') (fun e s' => s.toks ≤ s'.toks → E e s') (by simpa using hlt) ⟨hit, hl⟩ fun v h' tk hP hst hk htk => ?_
    obtain ⟨o', e1, e2, e3⟩ := hst.1
    have F' := LCg.fr_but F (fun b x hb e => hk b x hb e) (Ne.symm hIL) hI₀
    refine ret1 v o' h' tk htk (by simpa using hP) ⟨e2, e3⟩ F' fun p hp => ?_
    rcases List.mem_cons.mp hp with rfl | hp
    · exact ⟨e1, hIL, hI₀⟩
    · exact ⟨hk _ _ (by simpa using hap p hp) (N p (.tail _ hp)).1, (N p (.tail _ hp)).2⟩
  · have hi' : i = vs.toArray.size := by simp; omega
    subst hi'
    refine W.done s (fun r s' => s.toks ≤ s'.toks → Q r s') (fun e s' => s.toks ≤ s'.toks → E e s') ⟨hit, hl⟩ fun h' tk hk htk => ret0 (by simp) h' tk htk (LCg.fr_but F (fun b x hb e => hk b x hb e) (Ne.symm hIL) hI₀) fun p hp => ⟨hk _ _ (by simpa using hap p hp) (N p (.tail _ hp)).1, (N p (.tail _ hp)).2⟩
end
section
variable {prog : Program} {w : World} {A : Around} {E : Value → Shared → Prop} {s : Shared} {env : Env}
/-- one turn of a for with any target -/
noncomputable def AnyTurn (prog : Program) (w : World) (A : Around) (E : Value → Shared → Prop) (env : Env) (target : Expr) (it : Value) (body : List Stmt) (Q : Flow → Shared → Prop) (rest : Shared → Prop) (r : Option Value) (s₁ : Shared) : Prop := match r with
  | none => Q .next s₁
  | some y => wpAny (model prog w) A (letOwnedTupleGo target it y) (fun _ s₁' => wpAny (model prog w) A (assign target env y) (fun _ s₂ => wpAny (model prog w) A (execs body env) (OwitFlow Q rest) E s₂) E s₁') E s₁
theorem For_any {target : Expr} {iter : Expr} {body : List Stmt} {pos : Pos} {Q : Flow → Shared → Prop} (Inv : Addr → Nat → Shared → Prop) (n : Nat)
    (h : wpAny (model prog w) A (eval iter env) (fun xv s₁ => wpAny (model prog w) A (pyIter xv) (fun it s₂ => ∃ I, it = .ref I ∧ Inv I n s₂) E s₁) E s)
    (turn : ∀ I k s', Inv I k s' → wpAny (model prog w) A (pyNext (.ref I)) (AnyTurn prog w A E env target (.ref I) body Q (fun s3 => ∃ k', k' < k ∧ Inv I k' s3)) E s')
    (hs : ∀ x, foldedSetIterable iter env x = pure x := by intro _; rfl) (hE : PassesOwn (model prog w) A env E := by passes_own) :
    wpAny (model prog w) A (exec (.For target iter body [] pos) env) Q E s := by
  refine wpAny_For (wpAny_mono h (fun xv s₁ h₁ => wpAny_mono h₁ (fun it s₂ h₂ => ?_) fun _ _ z => z) fun _ _ z => z) hs
  obtain ⟨I, rfl, h₂⟩ := h₂
  refine codeAny_forLoop_any (R := fun r s' => match r with | .ok f => Q f s' | .error e => cameBackBy (model prog w) A env E e s') (Inv I) ?_ n h₂
  intro k s' hk
  refine wpAny_passesOwn hE (wpAny_mono (turn I k s' hk) (fun r s₁ hr => ?_) fun _ _ z => z)
  cases r with
  | none => exact wpAny_execs_nil hr
  | some y =>
    refine wpAny_passesOwn hE (wpAny_mono hr (fun _ s₁' h₁' => ?_) fun _ _ z => z)
    refine wpAny_passesOwn hE (wpAny_mono h₁' (fun _ s₂ h₂ => ?_) fun _ _ z => z)
    refine wpAny_passesOwn hE (wpAny_mono h₂ (fun f s₃ h₃ => ?_) fun _ _ z => z)
    cases f with
    | next => exact h₃
    | cont => exact h₃
    | brk => exact h₃
    | ret _ => exact h₃
end
theorem go_list {prog : Program} {w : World} {A : Around} {E : Value → Shared → Prop} {s : Shared} {h₀ : Heap} {L I D T : Addr} {o : Obj} {i : Nat} {news : List (Addr × Obj)} {elts : List Expr} {x1 : Nat} {pos : Pos} {Q : Unit → Shared → Prop} (N : News h₀ L s.heap ((I, o) :: news)) (ho : LitObj o D i) (hQ : Q () s) :
    wpAny (model prog w) A (letOwnedTupleGo (.Tuple elts x1 pos) (.ref I) (.ref T)) Q E s :=
  wpAny_letOwnedTupleGo_listiter ⟨o, N.get (.head _), ho.cls, ho.data⟩ hQ
/-- small letters -/
noncomputable def low (l : List Nat) : List Nat := l.map lo1
theorem lower_S {l : List Nat} (h : ∀ c ∈ l, c < 128) : Txt.lower (S l) = S (low l) := by
  rw [lower_ascii (by rw [S_toList]; exact h)]
  simp [S, low]
theorem lowerM {prog : Program} {w : World} {A : Around} {E Q : Value → Shared → Prop} {s : Shared} {l : List Nat} {t : Tok} (hl : ∀ c ∈ l, c < 128) (hz : l.length ≤ 100000) (h : Q (.str (S (low l)) s.toks) { s with toks := s.toks + 1 }) :
    wpAny (model prog w) A (call (.builtin "str.lower") [.str (S l) t]) Q E s := by
  refine PySem.SC.lower ?_ ?_
  · rw [lower_S hl, S_length, low, List.length_map]
    unfold PySem.Builtin.Str.tooLong
    rw [sizeLine_eq]
    simp
    omega
  · rw [lower_S hl]; exact h
theorem low_len (l : List Nat) : (low l).length = l.length := by simp [low]
theorem low_lt {l : List Nat} (h : ∀ c ∈ l, c < 128) : ∀ c ∈ low l, c < 160 := by
  intro c hc
  obtain ⟨a, ha, rfl⟩ := List.mem_map.mp hc
  have := h a ha
  unfold lo1
  split <;> omega
theorem news_ne {h₀ h : Heap} {L a b : Addr} {o o' : Obj} {news : List (Addr × Obj)} (N : News h₀ L h news) (ha : (a, o) ∈ news) (hb : (b, o') ∈ news) (e : o ≠ o') : a ≠ b := fun q => by
  have h1 := N.get ha
  have h2 := N.get hb
  rw [q, h2] at h1
  exact e (Option.some.inj h1).symm
theorem news_off {h₀ h : Heap} {L D : Addr} {o : Obj} {news : List (Addr × Obj)} (N : News h₀ L h ((D, o) :: news)) (hc : ∀ q ∈ news, q.2 ≠ o) : ∀ q ∈ news, q.1 ≠ D := fun q hq =>
  news_ne N (List.mem_cons_of_mem _ hq) (List.Mem.head _) (hc q hq)
theorem append_led {prog : Program} {w : World} {A : Around} {E Q : Value → Shared → Prop} {s : Shared} {h₀ : Heap} {L D : Addr} {m : Str → Option Value} {news : List (Addr × Obj)} {vs : List Value} {n : Nat} {v : Value} (F : Fr h₀ L s.heap m) (N : News h₀ L s.heap ((D, lst vs n) :: news)) (hap : ∀ q ∈ news, q.1 ≠ D) (hz : vs.length ≤ 10000)
    (h : ∀ h', Fr h₀ L h' m → News h₀ L h' ((D, lst (vs ++ [v]) (n + 1)) :: news) → Q .none { s with heap := h' }) : wpAny (model prog w) A (call (.builtin "list.append") [.ref D, v]) Q E s := by
  refine append_at (N.get (.head _)) (fun h' hs hg => h h' (F.change hs (N _ (.head _)).2.1 (N _ (.head _)).2.2) (N.setHead hap hs ?_)) (by rw [sizeLine_eq]; simp; omega)
  rw [hg, List.push_toArray]
theorem append_mid {prog : Program} {w : World} {A : Around} {E Q : Value → Shared → Prop} {s : Shared} {h₀ : Heap} {L D : Addr} {m : Str → Option Value} {pre post : List (Addr × Obj)} {vs : List Value} {n : Nat} {v : Value} (F : Fr h₀ L s.heap m) (N : News h₀ L s.heap (pre ++ (D, lst vs n) :: post)) (hc : ∀ q ∈ pre ++ post, q.2 ≠ lst vs n) (hz : vs.length ≤ 10000)
    (h : ∀ h', Fr h₀ L h' m → News h₀ L h' (pre ++ (D, lst (vs ++ [v]) (n + 1)) :: post) → Q .none { s with heap := h' }) : wpAny (model prog w) A (call (.builtin "list.append") [.ref D, v]) Q E s := by
  have N1 : News h₀ L s.heap ((D, lst vs n) :: (pre ++ post)) := fun p hp => N p (by
    rcases List.mem_cons.mp hp with rfl | hp
    · exact List.mem_append_right _ (List.Mem.head _)
    · rcases List.mem_append.mp hp with hp | hp
      · exact List.mem_append_left _ hp
      · exact List.mem_append_right _ (List.mem_cons_of_mem _ hp))
  refine append_led F N1 (news_off N1 hc) hz fun h' F' N' => h h' F' fun p hp => N' p ?_
  rcases List.mem_append.mp hp with hp | hp
  · exact List.mem_cons_of_mem _ (List.mem_append_left _ hp)
  · rcases List.mem_cons.mp hp with rfl | hp
    · exact List.Mem.head _
    · exact List.mem_cons_of_mem _ (List.mem_append_right _ hp)
end Mine
end
section
theorem Mine.wTop_LawD : True ∧ True := by
  w_top off
  (try (walk1; fail))
  exact ⟨trivial, trivial⟩
open PySem PySem.W PyProof.Rows PySem.Calls PySem.Spec
set_option maxRecDepth 100000
namespace Mine
/-- the law's own def, its body, its scope, read off the program -/
noncomputable def lawDef : Stmt := prg.main.body.getLast?.getD (.Pass ⟨0, 0, 0, 0⟩)
noncomputable def lawBody : List Stmt := match lawDef with
  | .FunctionDef _ _ body _ _ _ _ _ _ _ => body
  | _ => []
noncomputable def lawScope : Scope := match lawDef with
  | .FunctionDef _ _ _ _ _ _ scope _ _ _ => scope
  | _ => default
noncomputable def lawS (i : Nat) : Stmt := lawBody.getD i (.Pass ⟨0, 0, 0, 0⟩)
noncomputable def turnBody : List Stmt := match lawS 11 with
  | .For _ _ body _ _ => body
  | _ => []
noncomputable def turnS (i : Nat) : Stmt := turnBody.getD i (.Pass ⟨0, 0, 0, 0⟩)
noncomputable abbrev lawEnv (L f : Addr) (cd : Value) : Env := envOfC (Str.ofString "law") lawScope L f cd
example : lawBody.length = 16 := by decide +kernel
example : turnBody.length = 16 := by decide +kernel
end Mine
end
section
theorem Mine.wTop_LawU : True ∧ True := by
  w_top off
  (try (walk1; fail))
  exact ⟨trivial, trivial⟩
open PySem PySem.W PyProof.Rows PySem.Calls PySem.Spec
set_option maxRecDepth 100000
namespace Mine
noncomputable def turnsN (kn : Nat) : Nat := [5, 6, 6, 8, 8, 9].getD kn 0
noncomputable def wtN (kn : Nat) : Nat × Nat := [(1, 1), (1, 2), (2, 1), (1, 3), (3, 1), (1, 1)].getD kn (1, 1)
/-- two frames' maps differ at most at some names -/
noncomputable def Agree (xs : List Str) (m m' : Str → Option Value) : Prop := ∀ x, x ∉ xs → m' x = m x
theorem Agree.get {xs : List Str} {m m' : Str → Option Value} {x : Str} {v : Option Value} (h : Agree xs m m') (hv : m x = v) (hx : x ∉ xs := by decide) : m' x = v := (h x hx).trans hv
theorem Agree.sub {xs zs : List Str} {m m' : Str → Option Value} (h : Agree xs m m') (s : ∀ q ∈ xs, q ∈ zs) : Agree zs m m' := fun x hx => h x fun q => hx (s x q)
theorem Agree.tr {ys zs : List Str} {m m' m₂ : Str → Option Value} (h : Agree zs m m') (h' : Agree ys m' m₂) (s : ∀ q ∈ ys, q ∈ zs) : Agree zs m m₂ := fun x hx => (h' x fun q => hx (s x q)).trans (h x hx)
theorem lt6 : ∀ n : Nat, n < 6 → n = 0 ∨ n = 1 ∨ n = 2 ∨ n = 3 ∨ n = 4 ∨ n = 5 := by decide
theorem lt4 : ∀ n : Nat, n < 4 → n = 0 ∨ n = 1 ∨ n = 2 ∨ n = 3 := by decide
theorem lt3 : ∀ n : Nat, n < 3 → n = 0 ∨ n = 1 ∨ n = 2 := by decide
theorem fmod_nat (c : Int) (n : Nat) (h : 0 < (n : Int)) : ∃ k : Nat, k < n ∧ c.fmod n = (k : Int) :=
  have h0 := Int.fmod_nonneg_of_pos c h
  ⟨(c.fmod n).toNat, Int.ofNat_lt.mp (by rw [Int.toNat_of_nonneg h0]; exact Int.fmod_lt_of_pos c h), (Int.toNat_of_nonneg h0).symm⟩
theorem mark_item (c : Int) : ∃ mk, isMark mk ∧ Txt.item (Str.ofString "\"\\('") (c.fmod 4) = S [mk] := by
  obtain ⟨k, hk, e⟩ := fmod_nat c 4 (by decide)
  have e : c.fmod 4 = (k : Int) := e
  rw [e]
  rcases lt4 k hk with rfl | rfl | rfl | rfl
  · exact ⟨34, .inl rfl, by decide +kernel⟩
  · exact ⟨92, .inr (.inl rfl), by decide +kernel⟩
  · exact ⟨40, .inr (.inr (.inl rfl)), by decide +kernel⟩
  · exact ⟨39, .inr (.inr (.inr rfl)), by decide +kernel⟩
theorem kind_nat (c : Int) : ∃ kn : Nat, kn < 6 ∧ c.fmod 6 = (kn : Int) := fmod_nat c 6 (by decide)
theorem num_small (c : Int) : ((c + 10 ^ 6).fmod (2 * 10 ^ 6 + 1) - 10 ^ 6).natAbs ≤ 1000000 := by
  have h0 := Int.fmod_nonneg_of_pos (c + 10 ^ 6) (b := 2 * 10 ^ 6 + 1) (by decide)
  have h1 := Int.fmod_lt_of_pos (c + 10 ^ 6) (b := 2 * 10 ^ 6 + 1) (by decide)
  omega
theorem dot_nat (c : Int) : ∃ d : Nat, d < 3 ∧ c.fmod 3 = (d : Int) := fmod_nat c 3 (by decide)
end Mine
end
section
theorem Mine.wTop_EnumC : True ∧ True := by
  w_top off
  (try (walk1; fail))
  exact ⟨trivial, trivial⟩
open PySem PySem.W PyProof.Rows PySem.Calls PySem.Spec
set_option Elab.async false
set_option maxRecDepth 100000
namespace Mine
open LCg
section
variable {prog : Program} {w : World} {A : Around} {E : Value → Shared → Prop} {s : Shared} {h₀ : Heap} {L : Addr} {m : Str → Option Value} {env : Env}
/-- what a comprehension's element leaves -/
noncomputable def EltEnd (h₀ : Heap) (L : Addr) (m : Str → Option Value) (all : List (Addr × Obj)) (R : Value → Prop) (s : Shared) (y : Value) (s' : Shared) : Prop :=
  ∃ h' tk', s' = { s with heap := h', toks := tk' } ∧ Fr h₀ L h' m ∧ News h₀ L h' all ∧ R y
theorem EltEnd.of {all : List (Addr × Obj)} {R : Value → Prop} {y : Value} {h' : Heap} {tk' : Nat} {big : List (Addr × Obj)} (F : Fr h₀ L h' m) (N : News h₀ L h' big) (hs : ∀ p ∈ all, p ∈ big) (hr : R y) : EltEnd h₀ L m all R s y { s with heap := h', toks := tk' } :=
  ⟨h', tk', rfl, F, fun p hp => N p (hs p hp), hr⟩
theorem enum_block {elt iter : Expr} {a b : Str} {pa pb tp : Pos} {kk : Nat} {scope : Scope} {cl : List (Str × Addr)} {pos : Pos} {s₂ : Shared} {e it l : Addr} {vs : List Value} {n : Nat} {news : List (Addr × Obj)}
    {R : Nat → Value → Prop} {RR : Value → Addr → Result → Shared → Prop} (hh : A.handled = none) (hei : e ≠ it) (hle : l ≠ e) (hli : l ≠ it) (hsz : vs.length ≤ 10000)
    (he : IsEnum s₂.heap e it 0 .none) (hit : s₂.heap.IsListIter it l 0) (hl : (l, lst vs n) ∈ news)
    (hcell : ∀ y ∈ scope.names, y.2 ≠ .cell) (hkind : scope.kind = .function) (hxa : scope.names.lookup a = some .local) (hxb : scope.names.lookup b = some .local) (hab : ¬ a = b)
    (F : Fr h₀ L s₂.heap m) (N : News h₀ L s₂.heap news) (heL : L ≠ e) (he₀ : h₀.get? e = none) (hiL : L ≠ it) (hi₀ : h₀.get? it = none) (off1 : ∀ p ∈ news, p.1 ≠ e) (off2 : ∀ p ∈ news, p.1 ≠ it)
    (elem : ∀ (i : Nat) (v : Value) (t : Tok) oe oi C oC D oD m₂ h tk (E' : Value → Shared → Prop), vs[i]? = some v → NsObj oC m₂ → m₂ a = some (.int (i : Int) t) → m₂ b = some v → Fr h₀ L h m → News h₀ L h ((e, oe) :: (it, oi) :: (C, oC) :: (D, oD) :: news) →
      wpAny (model prog w) A (eval elt (compEnvC scope cl C env)) (EltEnd h₀ L m ((e, oe) :: (it, oi) :: (C, oC) :: (D, oD) :: news) (R i) { s₂ with heap := h, toks := tk }) E' { s₂ with heap := h, toks := tk })
    (hRR : ∀ D C h tk m' ys, ys.length = vs.length → (∀ i y, ys[i]? = some y → R i y) → Fr h₀ L h m → News h₀ L h ((D, lst ys ys.length) :: news) → h.Ns C m' → h₀.get? C = none → h₀.get? D = none → C ≠ L → D ≠ L → C ≠ D → (∀ p ∈ news, p.1 ≠ C) → RR (.ref D) C (.ok .next) { s₂ with heap := h, toks := tk }) :
    wpAny (model prog w) A (newList []) (fun acc s₃ => wpAny (model prog w) A (newFunctionEnv scope env.globals cl [] env.qual none .none (some env)) (fun cenv s₄ =>
      codeAny (model prog w) A (.compStart (.ListComp elt [⟨.Tuple [.Name a pa, .Name b pb] kk tp, iter, [], 0⟩] scope pos) 0 (.ref e) acc { cenv with scope := relabel scope env }) (RR acc cenv.locals) s₄) E s₃) E s₂ := by
  refine wpAny_newObj_type (wpAny_newFunctionEnv hcell (by intro y hy; simp at hy) (fun h₁ hns₁ hsb₁ => ?_) hkind)
  dsimp only at hns₁ hsb₁ ⊢
  generalize hH2 : s₂.heap.push { cls := .type "list", dict := none, data := .seq ([] : List Value).toArray } = H2 at hns₁ hsb₁ ⊢
  have hC : H2.objs.size = s₂.heap.objs.size + 1 := by rw [← hH2, Heap.size_push]
  have hDC : s₂.heap.objs.size ≠ H2.objs.size := by rw [hC]; exact Nat.ne_of_lt (Nat.lt_succ_self _)
  have below : ∀ b, b < s₂.heap.objs.size → b ≠ H2.objs.size ∧ b ≠ s₂.heap.objs.size := fun b hb => ⟨by rw [hC]; exact Nat.ne_of_lt (Nat.lt_succ_of_lt hb), Nat.ne_of_lt hb⟩
  have helt : e < s₂.heap.objs.size := Heap.lt_size he
  have hilt : it < s₂.heap.objs.size := by obtain ⟨_, x, _⟩ := hit; exact Heap.lt_size x
  have old : ∀ b o, s₂.heap.get? b = some o → h₁.get? b = some o := fun b o e => hsb₁.extBut b o (below b (Heap.lt_size e)).1 (Heap.get?_push_of_some _ (hH2 ▸ Heap.get?_push_of_some _ e))
  have hacc : h₁.get? s₂.heap.objs.size = some (lst [] 0) := hsb₁.extBut _ _ hDC (Heap.get?_push_of_some _ (hH2 ▸ Heap.get?_push_size _ rfl))
  have fresh₀ : ∀ a, s₂.heap.objs.size ≤ a → h₀.get? a = none := fun a ha => by
    cases e : h₀.get? a with
    | none => rfl
    | some o' => exact absurd (Heap.lt_size (F.keep a o' e)) (Nat.not_lt.mpr ha)
  have hD₀ : h₀.get? s₂.heap.objs.size = none := fresh₀ _ (Nat.le_refl _)
  have hC₀ : h₀.get? H2.objs.size = none := fresh₀ _ (by rw [hC]; exact Nat.le_succ _)
  have hLlt : L < s₂.heap.objs.size := F.ns.lt
  have hDL : s₂.heap.objs.size ≠ L := Ne.symm (below L hLlt).2
  have hCL : H2.objs.size ≠ L := Ne.symm (below L hLlt).1
  have hCe := (below e helt).1
  have hDe := (below e helt).2
  have hCi := (below it hilt).1
  have hDi := (below it hilt).2
  have offC : ∀ p ∈ news, p.1 ≠ H2.objs.size := fun p hp => (below _ (Heap.lt_size (N p hp).1)).1
  have offD : ∀ p ∈ news, p.1 ≠ s₂.heap.objs.size := fun p hp => (below _ (Heap.lt_size (N p hp).1)).2
  have W := (WalksT.enumerate (prog := prog) (w := w) hh e it l hei hle hli vs.toArray)
  have loop : ∀ s₃ : Shared, s₃ = { s₂ with heap := h₁, toks := s₂.toks + ([] : List (Str × Value)).length } →
      codeAny (model prog w) A (.compLoop (.ListComp elt [⟨.Tuple [.Name a pa, .Name b pb] kk tp, iter, [], 0⟩] scope pos) 0 (.ref e) (.ref s₂.heap.objs.size) (compEnvC scope cl H2.objs.size env))
        (RR (.ref s₂.heap.objs.size) H2.objs.size) s₃ := by
    rintro s₃ rfl
    refine kcp_loop
      (fun k s' => ∃ h' tk i ys m', s' = { s₂ with heap := h', toks := tk } ∧ i ≤ vs.length ∧ k = vs.length + 1 - i ∧ ys.length = i ∧ (∀ j y, ys[j]? = some y → R j y) ∧ (∃ o, IsEnum h' e it i o) ∧ h'.IsListIter it l i ∧ Fr h₀ L h' m ∧ h'.Ns H2.objs.size m' ∧
        News h₀ L h' ((s₂.heap.objs.size, lst ys ys.length) :: news)) ?_ (vs.length + 1)
      ⟨h₁, _, 0, [], _, rfl, Nat.zero_le _, rfl, rfl, by simp, ⟨_, old _ _ he⟩, hit.at fun o x => old _ _ x, F.keeps old, hns₁, fun p hp => ?_⟩
    · rintro k s' ⟨h', tk, i, ys, m', rfl, hi, rfl, hyl, hR, hen, hit', F', hn', N'⟩
      have hl' : h'.IsList l vs.toArray := News.list N' (List.mem_cons_of_mem _ hl)
      by_cases hlt : i < vs.length
      · refine W.item i _ _ _ (by simpa using hlt) ⟨hen, hit', hl'⟩ fun T vals h₂ tk₂ hP hTge hT hM hk₂ => ?_
        obtain ⟨t, x, hx, rfl⟩ := hP
        have hTe := W.apart _ _ _ hM
        have hTlt : T < h₂.objs.size := by obtain ⟨_, x, _⟩ := hT; exact Heap.lt_size x
        refine W.go _ _ _ i T _ _ _ hM fun h₃ hst₃ hk₃ => ?_
        have hT₃ : h₃.IsTuple T #[.int (i : Int) t, x] := hT.at fun o z => hk₃ _ _ hTe z
        have up₃ : ∀ c o, c ≠ e → c ≠ it → h'.get? c = some o → h₃.get? c = some o := fun c o h1 h2 z => hk₃ c o (by simp [h1, h2]) (hk₂ c o (by simp [h1, h2]) z)
        refine kcp_assign (env := compEnvC scope cl H2.objs.size env) hh hT₃ (lookup_relabel_local hxa) (lookup_relabel_local hxb) (by simp [compEnvC, relabel, hkind]) (hn'.at' fun o z => up₃ _ o (Ne.symm hCe) (Ne.symm hCi) z) fun h₄ tk₄ hn₄ hs₄ => ?_
        have up : ∀ c o, c ≠ e → c ≠ it → c ≠ H2.objs.size → h'.get? c = some o → h₄.get? c = some o := fun c o h1 h2 h3 z => hs₄ c o h3 (up₃ c o h1 h2 z)
        obtain ⟨⟨oldv, hen₃⟩, hit₃, _⟩ := hst₃
        have hen₄ : IsEnum h₄ e it ((i + 1 : Nat) : Int) oldv := hs₄ e _ hCe (by have := hen₃; push_cast at this ⊢; exact this)
        have hit₄ : h₄.IsListIter it l (i + 1) := hit₃.at fun o z => hs₄ it o hCi z
        obtain ⟨oi, hoi, hoi2⟩ := id hit₄
        obtain ⟨oC, heC, hoC⟩ := ns_obj hn₄
        have F₄ : Fr h₀ L h₄ m := ⟨F'.ns.at' fun o z => up _ o heL hiL (Ne.symm hCL) z, fun c o z => up c o (fun q => by rw [q, he₀] at z; cases z) (fun q => by rw [q, hi₀] at z; cases z) (fun q => by rw [q, hC₀] at z; cases z) (F'.keep c o z), F'.above⟩
        have N₄ : News h₀ L h₄ ((e, _) :: (it, oi) :: (H2.objs.size, oC) :: (s₂.heap.objs.size, lst ys ys.length) :: news) := fun q hq => by
          rcases List.mem_cons.mp hq with rfl | hq
          · exact ⟨hen₄, Ne.symm heL, he₀⟩
          rcases List.mem_cons.mp hq with rfl | hq
          · exact ⟨hoi, Ne.symm hiL, hi₀⟩
          rcases List.mem_cons.mp hq with rfl | hq
          · exact ⟨heC, hCL, hC₀⟩
          rcases List.mem_cons.mp hq with rfl | hq
          · exact ⟨up _ _ (Ne.symm hDe) (Ne.symm hDi) hDC (N' _ (List.Mem.head _)).1, hDL, hD₀⟩
          · exact ⟨up _ _ (off1 q hq) (off2 q hq) (offC q hq) (N' q (List.mem_cons_of_mem _ hq)).1, (N' q (List.mem_cons_of_mem _ hq)).2⟩
        have hv : vs[i]? = some x := by simpa using hx
        refine wpAny_mono (elem i x t _ oi H2.objs.size oC s₂.heap.objs.size _ _ h₄ tk₄ _ hv hoC (by simp [hab]) (by simp) F₄ N₄) (fun y s₅ h₅ => ?_) fun _ _ z => z
        obtain ⟨h₅, tk₅, rfl, F₅, N₅, hy⟩ := h₅
        have ze := (N₅ (e, _) (List.Mem.head _)).1
        have zi := (N₅ (it, oi) (List.mem_cons_of_mem _ (List.Mem.head _))).1
        have zC := (N₅ (H2.objs.size, oC) (List.mem_cons_of_mem _ (List.mem_cons_of_mem _ (List.Mem.head _)))).1
        have zD := (N₅ (s₂.heap.objs.size, lst ys ys.length) (List.mem_cons_of_mem _ (List.mem_cons_of_mem _ (List.mem_cons_of_mem _ (List.Mem.head _))))).1
        refine append_at (hsz := by rw [sizeLine_eq]; simp; omega) zD fun h₆ hs₆ hD₆ => ?_
        refine ⟨vs.length + 1 - (i + 1), by omega, h₆, tk₅, i + 1, ys ++ [y], _, rfl, hlt, rfl, by simp [hyl], fun j z hz => ?_, ⟨_, hs₆.extBut e _ hDe ze⟩, ⟨oi, hs₆.extBut it oi hDi zi, hoi2⟩, F₅.change hs₆ hDL hD₀, (hoC.ns zC).sameBut hs₆ (Ne.symm hDC), fun q hq => ?_⟩
        · rw [List.getElem?_append] at hz
          split at hz
          · exact hR j z hz
          · rename_i hj
            have : j = ys.length := by
              by_cases h : j = ys.length
              · exact h
              · rw [List.getElem?_eq_none (by simp; omega)] at hz; cases hz
            subst this
            simp at hz
            subst hz
            rw [hyl]; exact hy
        · rcases List.mem_cons.mp hq with rfl | hq
          · refine ⟨hD₆.trans ?_, hDL, hD₀⟩
            simp [lst]
          · have z := N₅ q (List.mem_cons_of_mem _ (List.mem_cons_of_mem _ (List.mem_cons_of_mem _ (List.mem_cons_of_mem _ hq))))
            exact ⟨hs₆.extBut _ _ (offD q hq) z.1, z.2⟩
      · have hin : i = vs.length := Nat.le_antisymm hi (Nat.not_lt.mp hlt)
        subst hin
        refine W.done _ _ _ ⟨by simpa using hen, by simpa using hit', hl'⟩ fun h₂ tk₂ hk₂ => ?_
        have k2 : ∀ c o, c ≠ e → c ≠ it → h'.get? c = some o → h₂.get? c = some o := fun c o h1 h2 z => hk₂ c o (by simp [h1, h2]) z
        refine hRR _ _ h₂ tk₂ _ ys hyl hR ⟨F'.ns.at' fun o z => k2 _ o heL hiL z, fun c o z => k2 c o (fun q => by rw [q, he₀] at z; cases z) (fun q => by rw [q, hi₀] at z; cases z) (F'.keep c o z), F'.above⟩ (fun q hq => ?_)
          (hn'.at' fun o z => k2 _ o (Ne.symm hCe) (Ne.symm hCi) z) hC₀ hD₀ hCL hDL (Ne.symm hDC) offC
        refine ⟨k2 _ _ ?_ ?_ (N' q hq).1, (N' q hq).2⟩
        · rcases List.mem_cons.mp hq with rfl | hq
          · exact Ne.symm hDe
          · exact off1 q hq
        · rcases List.mem_cons.mp hq with rfl | hq
          · exact Ne.symm hDi
          · exact off2 q hq
    · rcases List.mem_cons.mp hp with rfl | hp
      · exact ⟨hacc, hDL, hD₀⟩
      · exact ⟨old _ _ (N p hp).1, (N p hp).2⟩
  refine codeAny_compStart_list (loop _ rfl) ?_
  exact wpAny_pyIter_enum (old _ _ he) (loop _ rfl)
/-- enumerate over a made list, as a comprehension's source -/
inductive SrcEn (prog : Program) (w : World) (A : Around) (h₀ : Heap) (L : Addr) (m : Str → Option Value) (env : Env) (elt : Expr) (a b : Str) (scope : Scope) (cl : List (Str × Addr)) (Q : Addr → List (Addr × Obj) → Shared → Prop) (xv : Value) (s₁ : Shared) : Prop
  | mk (e it l : Addr) (vs : List Value) (n : Nat) (news : List (Addr × Obj)) (R : Nat → Value → Prop) (exv : xv = .ref e) (hh : A.handled = none) (hei : e ≠ it) (hle : l ≠ e) (hli : l ≠ it) (hsz : vs.length ≤ 10000) (he : IsEnum s₁.heap e it 0 .none) (hit : s₁.heap.IsListIter it l 0) (hl : (l, lst vs n) ∈ news) (F : Fr h₀ L s₁.heap m) (N : News h₀ L s₁.heap news)
    (heL : L ≠ e) (he₀ : h₀.get? e = none) (hiL : L ≠ it) (hi₀ : h₀.get? it = none) (off1 : ∀ p ∈ news, p.1 ≠ e) (off2 : ∀ p ∈ news, p.1 ≠ it)
    (elem : ∀ (i : Nat) (v : Value) (t : Tok) oe oi C oC D oD m₂ h tk (E' : Value → Shared → Prop), vs[i]? = some v → NsObj oC m₂ → m₂ a = some (.int (i : Int) t) → m₂ b = some v → Fr h₀ L h m → News h₀ L h ((e, oe) :: (it, oi) :: (C, oC) :: (D, oD) :: news) →
      wpAny (model prog w) A (eval elt (compEnvC scope cl C env)) (EltEnd h₀ L m ((e, oe) :: (it, oi) :: (C, oC) :: (D, oD) :: news) (R i) { s₁ with heap := h, toks := tk }) E' { s₁ with heap := h, toks := tk })
    (fin : ∀ D h tk ys, ys.length = vs.length → (∀ i y, ys[i]? = some y → R i y) → Fr h₀ L h m → News h₀ L h ((D, lst ys ys.length) :: news) → Q D ((D, lst ys ys.length) :: news) { s₁ with heap := h, toks := tk }) : SrcEn prog w A h₀ L m env elt a b scope cl Q xv s₁
theorem enum_ListComp {elt iter : Expr} {a b : Str} {pa pb tp : Pos} {kk : Nat} {scope : Scope} {cl : List (Str × Addr)} {pos : Pos} {Q : Value → Shared → Prop}
    (hclos : closureFor scope env = pure cl) (hcell : ∀ y ∈ scope.names, y.2 ≠ .cell) (hkind : scope.kind = .function)
    (hnames : ∀ y ∈ scope.names, y.2 = .local → scope.names.lookup y.1 = some .local) (hxa : scope.names.lookup a = some .local) (hxb : scope.names.lookup b = some .local) (hab : ¬ a = b)
    (h : wpAny (model prog w) A (eval iter env) (SrcEn prog w A h₀ L m env elt a b scope cl (fun D _ s' => Q (.ref D) s')) E s)
    (hs : ∀ x, foldedSetIterable iter env x = pure x := by intro _; rfl) :
    wpAny (model prog w) A (eval (.ListComp elt [⟨.Tuple [.Name a pa, .Name b pb] kk tp, iter, [], 0⟩] scope pos) env) Q E s := by
  rw [eval_ListComp]
  refine wpAny_comprehension_free (use := none) rfl hs hclos hkind hnames (wpAny_mono h (fun xv s₁ h₁ => ?_) fun _ _ e => e)
  obtain ⟨e, it, l, vs, n, news, R, rfl, hh, hei, hle, hli, hsz, he, hit, hl, F, N, heL, he₀, hiL, hi₀, off1, off2, elem, fin⟩ := h₁
  refine wpAny_pyIter_enum he ?_
  refine enum_block hh hei hle hli hsz he hit hl hcell hkind hxa hxb hab F N heL he₀ hiL hi₀ off1 off2 elem ?_
  intro D C h tk m' ys hyl hR F' N' hn hC₀ hD₀ hCL hDL hCD offC
  refine ⟨m', hn, fun h'' hs'' => fin D h'' tk ys hyl hR (F'.change hs'' hCL hC₀) fun p hp => ?_⟩
  refine ⟨hs''.extBut _ _ ?_ (N' p hp).1, (N' p hp).2⟩
  rcases List.mem_cons.mp hp with rfl | hp
  · exact Ne.symm hCD
  · exact offC p hp
theorem enum_Assign {elt iter : Expr} {y a b : Str} {py pa pb tp : Pos} {kk : Nat} {scope : Scope} {cl : List (Str × Addr)} {pos spos : Pos} {Q : Flow → Shared → Prop} (hLe : env.locals = L)
    (hsw : swapsWith (.ListComp elt [⟨.Tuple [.Name a pa, .Name b pb] kk tp, iter, [], 0⟩] scope pos) (some (.Name y py)) spos.line env = pure true)
    (hclos : closureFor scope env = pure cl) (hcell : ∀ y ∈ scope.names, y.2 ≠ .cell) (hkind : scope.kind = .function)
    (hnames : ∀ y ∈ scope.names, y.2 = .local → scope.names.lookup y.1 = some .local) (hxa : scope.names.lookup a = some .local) (hxb : scope.names.lookup b = some .local) (hab : ¬ a = b)
    (hy : env.kindOf y = some .local) (hp : (env.scope.kind == .class || (env.scope.kind == .module && env.locals != env.globals)) = false)
    (h : wpAny (model prog w) A (eval iter env) (SrcEn prog w A h₀ L m env elt a b scope cl (fun D nw s' => ∀ h' tk', Fr h₀ L h' (fun z => if z = y then some (.ref D) else m z) → News h₀ L h' nw → Q .next { s' with heap := h', toks := tk' })) E s)
    (hs : ∀ x, foldedSetIterable iter env x = pure x := by intro _; rfl) :
    wpAny (model prog w) A (exec (.Assign [.Name y py] (.ListComp elt [⟨.Tuple [.Name a pa, .Name b pb] kk tp, iter, [], 0⟩] scope pos) spos) env) Q E s := by
  subst hLe
  rw [exec_Assign_Name_used _ _ _ _ hsw]
  refine wpAny_bind (wpAny_standAt (wpAny_bind ?_))
  show wpAny _ A (do let _ ← comprehension (.ListComp elt [⟨.Tuple [.Name a pa, .Name b pb] kk tp, iter, [], 0⟩] scope pos) scope env _ (newList []) false (eval iter env) (some (assign (.Name y py) env))) _ _ s
  refine wpAny_bind (wpAny_mono (wpAny_comprehension_free (use := some (assign (.Name y py) env)) (Q := fun _ s' => Q .next s') rfl hs hclos hkind hnames
    (wpAny_mono h (fun xv s₁ h₁ => ?_) fun _ _ e => e)) (fun _ s' hq => wpAny_pure (wpAny_pure hq)) fun _ _ e => e)
  obtain ⟨e, it, l, vs, n, news, R, rfl, hh, hei, hle, hli, hsz, he, hit, hl, F, N, heL, he₀, hiL, hi₀, off1, off2, elem, fin⟩ := h₁
  refine wpAny_pyIter_enum he ?_
  refine enum_block hh hei hle hli hsz he hit hl hcell hkind hxa hxb hab F N heL he₀ hiL hi₀ off1 off2 elem ?_
  intro D C h tk m' ys hyl hR F' N' hn hC₀ hD₀ hCL hDL hCD offC
  show wpAny _ A (assign (.Name y py) env (.ref D)) _ _ _
  refine wpAny_assign_Name (wpAny_storeName_local hy F'.ns (fun h₂ hn₂ hs₂ => ?_) hp)
  have hL₀ : h₀.get? env.locals = none := Heap.get?_none_of_le F'.above
  have F₂ : Fr h₀ env.locals h₂ (fun z => if z = y then some (.ref D) else m z) := ⟨hn₂, fun b o e => hs₂.extBut b o (fun q => by rw [q, hL₀] at e; cases e) (F'.keep b o e), F'.above⟩
  refine ⟨m', hn.sameBut hs₂ hCL, fun h'' hs'' => fin D h tk ys hyl hR F' N' h'' _ (F₂.change hs'' hCL hC₀) fun p hp => ?_⟩
  have z : h₂.get? p.1 = some p.2 := hs₂.extBut _ _ (N' p hp).2.1 (N' p hp).1
  refine ⟨hs''.extBut _ _ ?_ z, (N' p hp).2⟩
  rcases List.mem_cons.mp hp with rfl | hp
  · exact Ne.symm hCD
  · exact offC p hp
theorem call_en {l : Addr} {vs : List Value} {n : Nat} {news : List (Addr × Obj)} {Q : Value → Shared → Prop} (F : Fr h₀ L s.heap m) (N : News h₀ L s.heap news) (hl : (l, lst vs n) ∈ news)
    (h : ∀ e it h', e ≠ it → l ≠ e → l ≠ it → IsEnum h' e it 0 .none → h'.IsListIter it l 0 → Fr h₀ L h' m → News h₀ L h' news → L ≠ e → h₀.get? e = none → L ≠ it → h₀.get? it = none → (∀ p ∈ news, p.1 ≠ e) → (∀ p ∈ news, p.1 ≠ it) → Q (.ref e) { s with heap := h' }) :
    wpAny (model prog w) A (call (.type "enumerate") [.ref l]) Q E s := by
  refine call_enumerate_list (News.list N hl) fun h' hE hI hsz hk => ?_
  have below : ∀ b, b < s.heap.objs.size → b ≠ s.heap.objs.size + 1 ∧ b ≠ s.heap.objs.size := fun b hb => ⟨Nat.ne_of_lt (Nat.lt_succ_of_lt hb), Nat.ne_of_lt hb⟩
  have fresh₀ : ∀ a, s.heap.objs.size ≤ a → h₀.get? a = none := fun a ha => by
    cases e : h₀.get? a with
    | none => rfl
    | some o' => exact absurd (Heap.lt_size (F.keep a o' e)) (Nat.not_lt.mpr ha)
  have bl := below l (Heap.lt_size (N _ hl).1)
  have bL := below L F.ns.lt
  exact h _ _ h' (Nat.succ_ne_self _) bl.1 bl.2 hE hI (F.keeps hk) (N.grown hk) bL.1 (fresh₀ _ (Nat.le_succ _)) bL.2 (fresh₀ _ (Nat.le_refl _)) (fun p hp => (below _ (Heap.lt_size (N p hp).1)).1) fun p hp => (below _ (Heap.lt_size (N p hp).1)).2
end
end Mine
namespace Mine
open LCg
theorem sum_made {prog : Program} {w : World} {A : Around} {E Q : Value → Shared → Prop} {s : Shared} {h₀ : Heap} {L l : Addr} {m : Str → Option Value} {its : Array Value} {n : Nat} {news : List (Addr × Obj)} (hh : A.handled = none) (F : Fr h₀ L s.heap m) (N : News h₀ L s.heap ((l, { cls := .type "list", data := .seq its n }) :: news))
    (hint : ∀ (i : Nat) v, its[i]? = some v → ∃ k t, v = Value.int k t) (h : ∀ c t h' tk, Fr h₀ L h' m → News h₀ L h' ((l, { cls := .type "list", data := .seq its n }) :: news) → Q (.int c t) { s with heap := h', toks := tk }) :
    wpAny (model prog w) A (call (.builtin "sum") [.ref l]) Q E s := by
  have hl : s.heap.IsList l its := ⟨_, N.get (.head _), rfl, n, rfl⟩
  have hlt : l < s.heap.objs.size := Heap.lt_size (N _ (.head _)).1
  refine call_sum_walkG (wpAny_pyIter_list hl ?_)
  refine ⟨s.heap.objs.size, [s.heap.objs.size, l], [s.heap.objs.size], its.size, _, _, fun i => (match its[i]? with | some (Value.int k _) => k | _ => 0), rfl, Walks.list (A := A.in1) hh s.heap.objs.size l (Nat.ne_of_lt hlt) its, ⟨⟨_, Heap.get?_push_size _ rfl, rfl, rfl⟩, hl.push _⟩, ?_, ?_, ?_⟩
  · intro b hb
    show b < (s.heap.push _).objs.size
    rw [Heap.size_push]
    rcases List.mem_cons.mp hb with rfl | hb
    · exact Nat.lt_succ_self _
    · rw [List.mem_singleton.mp hb]; exact Nat.lt_succ_of_lt hlt
  · intro i v hv
    obtain ⟨k, t, rfl⟩ := hint i v hv
    exact ⟨t, by simp only [hv]⟩
  · intro h' tk t' hk
    have up : ∀ b o, s.heap.get? b = some o → h'.get? b = some o := fun b o e => hk b o (by simpa using Nat.ne_of_lt (Heap.lt_size e)) (Heap.get?_push_of_some _ e)
    exact h _ _ h' tk (F.keeps up) (N.grown up)
theorem pick_int {vs : List Value} {ns : List Int} (hi : IntsAre vs ns) (lo hi' st : Option Int) : ∀ (i : Nat) v, (slicePick vs.toArray lo hi' st)[i]? = some v → ∃ k t, v = Value.int k t := by
  have hall : ∀ v ∈ vs, ∃ k t, v = Value.int k t := by
    induction hi with
    | nil => intro v h; cases h
    | cons n t _ ih =>
      intro v h
      rcases List.mem_cons.mp h with rfl | h
      · exact ⟨_, _, rfl⟩
      · exact ih v h
  intro i v hv
  unfold slicePick at hv
  rw [List.getElem?_toArray] at hv
  obtain ⟨j, _, hj⟩ := List.mem_filterMap.mp (List.mem_of_getElem? hv)
  refine hall v ?_
  rw [List.getElem?_toArray] at hj
  exact List.mem_of_getElem? hj
end Mine
end
section
theorem Mine.wTop_Sre1 : True ∧ True := by
  w_top off
  (try (walk1; fail))
  exact ⟨trivial, trivial⟩
open PySem PySem.W PyProof.Rows PySem.Calls PySem.Spec
set_option Elab.async false
set_option maxRecDepth 100000
namespace Mine
theorem plainAttrs_pat : PlainAttrs "re.Pattern" := ⟨⟨"object.__getattribute__", by rw [typeLookup_type, builtinLookup_eq_fast]; kernel_rfl, by decide +kernel⟩, by rw [typeLookup_type, builtinLookup_eq_fast]; kernel_rfl⟩
theorem slot_search : Slot "re.Pattern" "search" "re.Pattern.search" :=
  .of (owner := "re.Pattern") (n := "search") (by rw [typeLookup_type, builtinLookup_eq_fast]; kernel_rfl) (by decide +kernel) (by decide +kernel) (by decide +kernel)
    (by first | exact .inl (by decide +kernel) | exact .inr (by decide +kernel)) (by rw [isSubtype_type]; kernel_rfl)
theorem slot_sub : Slot "re.Pattern" "sub" "re.Pattern.sub" :=
  .of (owner := "re.Pattern") (n := "sub") (by rw [typeLookup_type, builtinLookup_eq_fast]; kernel_rfl) (by decide +kernel) (by decide +kernel) (by decide +kernel)
    (by first | exact .inl (by decide +kernel) | exact .inr (by decide +kernel)) (by rw [isSubtype_type]; kernel_rfl)
theorem type_search : typeOf (.builtin "re.Pattern.search") = pure (.type "method_descriptor") := by show builtinType _ = _; rw [builtinType_eq_fast]; kernel_rfl
theorem type_sub : typeOf (.builtin "re.Pattern.sub") = pure (.type "method_descriptor") := by show builtinType _ = _; rw [builtinType_eq_fast]; kernel_rfl
theorem entry_search : entryFor table "re.Pattern.search" = some Builtin.«re.Pattern.search» := entryFor_of_tree (by kernel_rfl)
theorem entry_sub : entryFor table "re.Pattern.sub" = some Builtin.«re.Pattern.sub» := entryFor_of_tree (by kernel_rfl)
theorem entry_subloop : entryFor table "re.Pattern.sub.loop" = some Builtin.«re.Pattern.sub.loop» := entryFor_of_tree (by kernel_rfl)
theorem owner_pat : Manifest.owners.lookup (String.ofList ['n', 'r', 'e', 't', 't', 'a', 'P', '.', 'e', 'r'].reverse) = some Manifest.sig_re_Pattern := by kernel_rfl
theorem args_search_2 (a b : Value) : argsOk "re.Pattern.search" ⟨[a, b], []⟩ := by
  unfold argsOk; rw [PySem.signature?_of (id := "re.Pattern.search") (n := ['h', 'c', 'r', 'a', 'e', 's']) (o := ['n', 'r', 'e', 't', 't', 'a', 'P', '.', 'e', 'r']) (by kernel_rfl) owner_pat]; kernel_rfl
theorem args_sub_3 (a b c : Value) : argsOk "re.Pattern.sub" ⟨[a, b, c], []⟩ := by
  unfold argsOk; rw [PySem.signature?_of (id := "re.Pattern.sub") (n := ['b', 'u', 's']) (o := ['n', 'r', 'e', 't', 't', 'a', 'P', '.', 'e', 'r']) (by kernel_rfl) owner_pat]; kernel_rfl

section
variable {M : Model} {A : Around} {E : Value → Shared → Prop} {s : Shared}
open Builtin.Re

theorem runFor_stay {m : Sre.M} (h : m.outcome.isSome = true) : ∀ k, Sre.M.runFor k m = m
  | 0 => rfl
  | _ + 1 => by unfold Sre.M.runFor; rw [if_pos h]
theorem runFor_add : ∀ (a b : Nat) (m : Sre.M), Sre.M.runFor (a + b) m = Sre.M.runFor b (Sre.M.runFor a m)
  | 0, b, m => by rw [Nat.zero_add]; rfl
  | a + 1, b, m => by
    rw [Nat.add_right_comm]
    show (if m.outcome.isSome = true then m else Sre.M.runFor (a + b) m.step) = Sre.M.runFor b (if m.outcome.isSome = true then m else Sre.M.runFor a m.step)
    split
    · rename_i h
      exact (runFor_stay h b).symm
    · exact runFor_add a b _

theorem reDrive_wp {mf : Sre.M} {Q : Sre.M → Shared → Prop} (hf : mf.outcome.isSome = true) (h : Q mf s) : ∀ (n k : Nat) (m : Sre.M), Sre.M.runFor k m = mf → k ≤ 4 * n → 0 < n → wpAny M A (reDrive n m) Q E s := by
  intro n
  induction n with
  | zero => intro k m _ _ h0; exact absurd h0 (Nat.lt_irrefl _)
  | succ n ih =>
    intro k m hk hn _
    unfold reDrive
    show wpAny M A (if (Sre.M.runFor 4 m).outcome.isSome = true then pure (Sre.M.runFor 4 m) else (do rule "sre.turn"; reDrive n (Sre.M.runFor 4 m))) Q E s
    by_cases h4 : k ≤ 4
    · have e : Sre.M.runFor 4 m = mf := by
        have := runFor_add k (4 - k) m
        rw [show k + (4 - k) = 4 by omega, hk, runFor_stay hf] at this
        exact this
      rw [e, if_pos hf]
      exact wpAny_pure h
    · have e : Sre.M.runFor (k - 4) (Sre.M.runFor 4 m) = mf := by
        rw [← runFor_add, show 4 + (k - 4) = k by omega, hk]
      split
      · rename_i h5
        rw [runFor_stay h5] at e
        rw [e]; exact wpAny_pure h
      · exact wpAny_bind (wpAny_rule (ih (k - 4) _ e (by omega) (by omega)))

theorem forIn_quiet (f : Nat → PUnit → Sem (ForInStep PUnit)) (hf : ∀ i r (Q : ForInStep PUnit → Shared → Prop), Q (.yield ⟨⟩) s → wpAny M A (f i r) Q E s) {Q : PUnit → Shared → Prop} (h : Q ⟨⟩ s) :
    ∀ l : List Nat, wpAny M A (forIn l ⟨⟩ f) Q E s
  | [] => wpAny_pure h
  | a :: r => by
    rw [List.forIn_cons]
    exact wpAny_bind (hf a _ _ (forIn_quiet f hf h r))

theorem reRunToEnd_wp {m mf : Sre.M} {k : Nat} {Q : Option Sre.M → Shared → Prop} (hk : Sre.M.runFor k m = mf) (hle : k ≤ 2 ^ 64) (h : match mf.outcome with | some .matched => Q (some mf) s | some .failed => Q none s | _ => False) :
    wpAny M A (reRunToEnd m) Q E s := by
  unfold reRunToEnd
  refine wpAny_bind (reDrive_wp ?_ ?_ (2 ^ 64) k m hk (by omega) (by decide))
  · cases hm : mf.outcome with
    | none => rw [hm] at h; exact h.elim
    | some o => rfl
  · refine wpAny_bind (forIn_quiet _ (fun i r Q hq => ?_) ?_ _)
    · split
      · exact wpAny_bind (wpAny_rule (wpAny_pure hq))
      · exact wpAny_bind (wpAny_pure (wpAny_pure hq))
    · revert h
      cases mf.outcome with
      | none => exact fun h => h.elim
      | some o => cases o with
        | matched => exact fun h => wpAny_pure h
        | failed => exact fun h => wpAny_pure h
        | stuck w => exact fun h => h.elim
end
end Mine
end
section
theorem Mine.wTop_Sre2 : True ∧ True := by
  w_top off
  (try (walk1; fail))
  exact ⟨trivial, trivial⟩
open PySem PySem.W PyProof.Rows PySem.Calls PySem.Spec
set_option Elab.async false
set_option maxRecDepth 100000
namespace Mine
open Builtin.Re

structure IsPat (h : Heap) (a c : Addr) (code : List Nat) : Prop where
  pat : ∃ x t fi ft, h.get? a = some { cls := .type "re.Pattern", data := .fields #[.str x t, .int fi ft, .int 0 0, .none, .none, .ref c, .int 0 0] }
  tup : ∃ n, h.get? c = some { cls := .type "tuple", data := .seq (code.map fun (k : Nat) => rawInt (k : Int)).toArray n }
theorem IsPat.keeps {h h' : Heap} {a c : Addr} {code : List Nat} (x : IsPat h a c code) (k : ∀ b o, h.get? b = some o → h'.get? b = some o) : IsPat h' a c code :=
  ⟨let ⟨x, t, fl, ft, e⟩ := x.pat; ⟨x, t, fl, ft, k _ _ e⟩, let ⟨n, e⟩ := x.tup; ⟨n, k _ _ e⟩⟩
theorem rawNats (code : List Nat) : (((code.map fun (k : Nat) => rawInt (k : Int)).toArray.map reRawOf).map (·.toNat)) = code.toArray := by
  simp only [List.map_toArray, List.map_map]
  congr 1
  rw [show ((fun (i : Int) => i.toNat) ∘ reRawOf ∘ fun (k : Nat) => rawInt (k : Int)) = id from rfl, List.map_id]

set_option linter.unusedVariables false
section
variable {M : Model} {A : Around} {E : Value → Shared → Prop} {s : Shared}
theorem IsPat.typeIs {a c : Addr} {code : List Nat} (h : IsPat s.heap a c code) : s.TypeIs (.ref a) "re.Pattern" := let ⟨_, _, _, _, e⟩ := h.pat; ⟨_, e, rfl⟩
theorem rawItems_wp {a c : Addr} {code : List Nat} {Q : Array Int → Shared → Prop} (h : IsPat s.heap a c code) (hq : Q ((code.map fun (k : Nat) => rawInt (k : Int)).toArray.map reRawOf) s) : wpAny M A (reRawItems (.ref c)) Q E s := by
  obtain ⟨n, ht⟩ := h.tup
  unfold reRawItems
  exact wpAny_bind (wpAny_seqItems ht rfl (wpAny_pure hq))
theorem getMethod_pat {a c : Addr} {code : List Nat} {name : Str} {id : String} {pl : Sem Bool} {Q : Value × List Value → Shared → Prop} (h : IsPat s.heap a c code) (slot : Slot "re.Pattern" name id) (ty : typeOf (.builtin id) = pure (.type "method_descriptor"))
    (hq : Q (.builtin id, [.ref a]) s) : wpAny M A (getMethod (.ref a) name pl) Q E s :=
  getMethod_builtin h.typeIs plainAttrs_pat slot ty (fun b e => by cases e; obtain ⟨_, _, _, _, e⟩ := h.pat; exact ⟨_, e, rfl⟩) hq
end

/-- the target of a search in a whole text -/
noncomputable def tgt (a c : Addr) (code : List Nat) (x : Str) (t : Tok) : ReTarget :=
  { pattern := .ref a, string := .str x t, code := code.toArray, text := x.cps, kind := 0, groups := 0, pos := 0, lim := x.cps.size }

section
variable {M : Model} {A : Around} {E : Value → Shared → Prop} {s : Shared}
theorem reTarget_wp {a c : Addr} {code : List Nat} {x : Str} {t : Tok} {Q : ReTarget → Shared → Prop} (h : IsPat s.heap a c code) (hx : x.length ≤ 2 ^ 24) (hq : Q (tgt a c code x t) s) :
    wpAny M A (reTarget "re.Pattern.search" "search" ⟨[.ref a, .str x t], []⟩) Q E s := by
  obtain ⟨y, u, fl, ft, hp⟩ := h.pat
  unfold reTarget
  show wpAny M A (reNamed _ _ _ _ [.str x t] [] >>= _) Q E s
  refine wpAny_bind (wpAny_of_eq (a := [some (.str x t), none, none]) rfl ?_)
  refine wpAny_bind (wpAny_pure ?_)
  refine wpAny_bind (wpAny_pure ?_)
  refine wpAny_bind (wpAny_fieldsOf hp rfl ?_)
  refine wpAny_bind (wpAny_pure ?_)
  show wpAny M A (reNoCollectionInside (.str x t) 0 >>= _) Q E s
  refine wpAny_bind (wpAny_pure ?_)
  refine wpAny_bind (rawItems_wp h ?_)
  rw [rawNats]
  refine wpAny_pure ?_
  have e : min ((2 ^ 63 - 1 : Int)).toNat x.cps.size = x.cps.size := by
    have : x.cps.size ≤ 2 ^ 24 := hx
    rw [Nat.min_eq_right]; omega
  have e0 : min ((0 : Int)).toNat x.cps.size = 0 := by simp
  show Q { pattern := .ref a, string := .str x t, code := code.toArray, text := x.cps, kind := 0, groups := 0, pos := min ((0 : Int)).toNat x.cps.size, lim := min ((2 ^ 63 - 1 : Int)).toNat x.cps.size } s
  rw [e, e0]
  exact hq
end

section
variable {prog : Program} {w : World} {A : Around} {E : Value → Shared → Prop} {s : Shared}
theorem search_none {a c : Addr} {code : List Nat} {x : Str} {t : Tok} {Q : Value → Shared → Prop} {k : Nat} {mf : Sre.M} (h : IsPat s.heap a c code) (hx : x.length ≤ 2 ^ 24)
    (hk : Sre.M.runFor k (Sre.forSearch code.toArray x.cps 0 0 x.cps.size false) = mf) (hle : k ≤ 2 ^ 64) (hm : mf.outcome = some .failed) (hq : Q .none s) :
    wpAny (model prog w) A (call (.builtin "re.Pattern.search") [.ref a, .str x t]) Q E s := by
  refine wpAny_call (codeAny_call_builtin slot_search.plain entry_search (slot_search.check _ _ _ _ _ _ _ _ h.typeIs (args_search_2 _ _) ?_))
  unfold Builtin.«re.Pattern.search»
  refine wpAny_bind (reTarget_wp h hx ?_)
  unfold reAnswer
  refine wpAny_bind (reRunToEnd_wp hk hle ?_)
  rw [hm]
  exact wpAny_pure hq
end
/-- the signs of a header -/
noncomputable def ok (c : Nat) : Prop := 32 ≤ c ∧ c < 127
noncomputable def codeN : List Nat := [14, 10, 4, 1, 1, 22, 0, 31, 16, 127, 0, 13, 7, 22, 0, 31, 16, 127, 0, 1]
noncomputable def codeV : List Nat := [14, 14, 4, 1, 1, 9, 4294966783, 0, 0, 2147483648, 0, 0, 0, 0, 0, 13, 11, 9, 4294966783, 0, 0, 2147483648, 0, 0, 0, 0, 0, 1]
theorem inSetN {c : Nat} (h : ok c) (seen : Sre.Seen) : ∃ seen', Sre.inSet codeN.toArray c 20 5 true seen = .ok (false, seen') := by
  have h1 : (decide (0 ≤ c) && decide (c ≤ 31)) = false := by have := h.1; simp; omega
  have h2 : (c == 127) = false := by have := h.2; simp; omega
  show ∃ seen', (if (decide (0 ≤ c) && decide (c ≤ 31)) = true then _ else Sre.inSet codeN.toArray c 19 8 true (seen.add 22)) = _
  rw [h1, if_neg Bool.false_ne_true]
  show ∃ seen', (if (c == 127) = true then _ else Sre.inSet codeN.toArray c 18 10 true ((seen.add 22).add 16)) = _
  rw [h2, if_neg Bool.false_ne_true]
  exact ⟨_, rfl⟩
theorem bitsV : ∀ c, c < 128 → 32 ≤ c → c < 127 → (decide (c < 256) && (codeV.toArray.getD (5 + (1 + c / 32)) 0).testBit (c % 32)) = false := by decide +kernel
theorem inSetV {c : Nat} (h : ok c) (seen : Sre.Seen) : ∃ seen', Sre.inSet codeV.toArray c 28 5 true seen = .ok (false, seen') := by
  have h1 := bitsV c (by have := h.2; omega) h.1 h.2
  show ∃ seen', (if (decide (c < 256) && (codeV.toArray.getD (5 + (1 + c / 32)) 0).testBit (c % 32)) = true then _ else Sre.inSet codeV.toArray c 27 14 true (seen.add 9)) = _
  rw [h1, if_neg Bool.false_ne_true]
  exact ⟨_, rfl⟩
theorem admitted_none {code : Array Nat} (m : Sre.M) (hc : m.code = code) (hs : ∀ (c : Nat) seen, ok c → ∃ seen', Sre.inSet code c code.size 5 true seen = .ok (false, seen')) (hl : m.lim = m.text.size) (ht : ∀ c ∈ m.text, ok c) :
    ∀ fuel s seen, ∃ seen', m.admitted fuel s seen = .ok (none, seen')
  | 0, _, seen => ⟨seen, rfl⟩
  | fuel + 1, s, seen => by
    unfold Sre.M.admitted
    by_cases h : s ≥ m.lim
    · exact ⟨seen, if_pos h⟩
    · rw [if_neg h, hc]
      have hb : s < m.text.size := by omega
      obtain ⟨seen', e⟩ := hs (m.text.getD s 0) seen (ht _ (by rw [Array.getD_eq_getD_getElem?, Array.getElem?_eq_getElem hb]; exact Array.getElem_mem hb))
      rw [e]
      exact admitted_none m hc hs hl ht fuel (s + 1) seen'
noncomputable def m0 (code : List Nat) (pc : Nat) (T : Array Nat) (n : Nat) : Sre.M :=
  { code := code.toArray, text := T, lim := n, start := 0, pc, pos := 0, handed := 0, marks := #[], mustAdvance := false, seen := ({} : Sre.Seen).add 14 }
theorem fin_failed (m : Sre.M) (h1 : m.outcome = none) (h2 : m.answer = some false) (h3 : m.frames = []) : (Sre.M.runFor 1 m).outcome = some .failed := by
  unfold Sre.M.runFor
  rw [h1, if_neg (by decide)]
  unfold Sre.M.step
  rw [h1, if_neg (by decide), h2, h3]
  rfl
theorem run_first {code : List Nat} {pc : Nat} (hf : ∀ m : Sre.M, m.code = code.toArray → m.hasFirstSet = true) (hs : ∀ (c : Nat) seen, ok c → ∃ seen', Sre.inSet code.toArray c code.toArray.size 5 true seen = .ok (false, seen')) (l : List Nat) (hl : ∀ c ∈ l, ok c)
    (e : Sre.forSearch code.toArray (S l).cps 0 0 (S l).cps.size false = if (decide (0 > (S l).cps.size) || decide ((S l).cps.size - 0 < 1)) = true then (m0 code pc (S l).cps (S l).cps.size).say false else ({ m0 code pc (S l).cps (S l).cps.size with lastStart := (S l).cps.size }).attemptFrom 0 true) :
    ∃ k mf, Sre.M.runFor k (Sre.forSearch code.toArray (S l).cps 0 0 (S l).cps.size false) = mf ∧ k ≤ 2 ^ 64 ∧ mf.outcome = some .failed := by
  refine ⟨1, _, rfl, by decide, ?_⟩
  rw [e]
  split
  · exact fin_failed _ rfl rfl rfl
  · unfold Sre.M.attemptFrom
    rw [hf _ rfl]
    obtain ⟨seen', ea⟩ := admitted_none (code := code.toArray) { m0 code pc (S l).cps (S l).cps.size with lastStart := (S l).cps.size } rfl hs rfl (fun c hc => hl c (by have hc' : c ∈ (S l).cps := hc; simpa [S] using hc')) ((S l).cps.size + 1 - 0) 0 (m0 code pc (S l).cps (S l).cps.size).seen
    show (Sre.M.runFor 1 (match Sre.M.admitted { m0 code pc (S l).cps (S l).cps.size with lastStart := (S l).cps.size } ((S l).cps.size + 1 - 0) 0 (m0 code pc (S l).cps (S l).cps.size).seen with | .ok (some s, seen) => _ | .ok (none, seen) => _ | .error why => _)).outcome = _
    rw [ea]
    exact fin_failed _ rfl rfl rfl
theorem runN (l : List Nat) (hl : ∀ c ∈ l, ok c) : ∃ k mf, Sre.M.runFor k (Sre.forSearch codeN.toArray (S l).cps 0 0 (S l).cps.size false) = mf ∧ k ≤ 2 ^ 64 ∧ mf.outcome = some .failed :=
  run_first (pc := 11) (fun m h => by unfold Sre.M.hasFirstSet; rw [h]; rfl) (fun _ _ h => inSetN h _) l hl rfl
theorem runV (l : List Nat) (hl : ∀ c ∈ l, ok c) : ∃ k mf, Sre.M.runFor k (Sre.forSearch codeV.toArray (S l).cps 0 0 (S l).cps.size false) = mf ∧ k ≤ 2 ^ 64 ∧ mf.outcome = some .failed :=
  run_first (pc := 15) (fun m h => by unfold Sre.M.hasFirstSet; rw [h]; rfl) (fun _ _ h => inSetV h _) l hl rfl

section
variable {w : World} {A : Around} {s : Shared} {h₀ : Heap} {E : Value → Shared → Prop}
theorem patN {h : Heap} (X : (KF w.params).In h) : IsPat h 114 113 codeN := ⟨⟨_, _, _, _, X 114 _ rfl⟩, ⟨_, X 113 _ rfl⟩⟩
theorem patV {h : Heap} (X : (KF w.params).In h) : IsPat h 119 118 codeV := ⟨⟨_, _, _, _, X 119 _ rfl⟩, ⟨_, X 118 _ rfl⟩⟩
theorem searchN {prog : Program} (X : (KF w.params).In s.heap) {l : List Nat} {t : Tok} (hl : ∀ c ∈ l, ok c) (hn : l.length ≤ 2 ^ 24) {Q : Value → Shared → Prop} (hq : Q .none s) :
    wpAny (model prog w) A (call (.builtin "re.Pattern.search") [.ref 114, .str (S l) t]) Q E s := by
  obtain ⟨k, mf, h1, h2, h3⟩ := runN l hl
  exact search_none (patN X) (by rw [S_length]; exact hn) h1 h2 h3 hq
theorem searchV {prog : Program} (X : (KF w.params).In s.heap) {l : List Nat} {t : Tok} (hl : ∀ c ∈ l, ok c) (hn : l.length ≤ 2 ^ 24) {Q : Value → Shared → Prop} (hq : Q .none s) :
    wpAny (model prog w) A (call (.builtin "re.Pattern.search") [.ref 119, .str (S l) t]) Q E s := by
  obtain ⟨k, mf, h1, h2, h3⟩ := runV l hl
  exact search_none (patV X) (by rw [S_length]; exact hn) h1 h2 h3 hq
end
end Mine
end
section
theorem Mine.wTop_Ap : True ∧ True := by
  w_top off
  (try (walk1; fail))
  exact ⟨trivial, trivial⟩
open PySem PySem.W PyProof.Rows PySem.Calls PySem.Spec
namespace Mine
noncomputable def apF : Nat → Nat → List Nat
  | 0, _ => []
  | k + 1, n => if n = 0 then [] else apF k (n / 16) ++ [65 + n % 16]
/-- the letters of a number -/
noncomputable def apL (n : Nat) : List Nat := apF n n
theorem apF_zero : ∀ k, apF k 0 = []
  | 0 => rfl
  | k + 1 => by rw [apF, if_pos rfl]
theorem apF_eq : ∀ (k m n : Nat), n ≤ k → n ≤ m → apF k n = apF m n
  | 0, m, n, h, _ => by
    obtain rfl := Nat.le_zero.mp h
    rw [apF_zero, apF_zero]
  | k + 1, 0, n, _, h => by
    obtain rfl := Nat.le_zero.mp h
    rw [apF_zero, apF_zero]
  | k + 1, m + 1, n, h, h' => by
    by_cases h0 : n = 0
    · subst h0; rw [apF_zero, apF_zero]
    · have hd : n / 16 < n := Nat.div_lt_self (Nat.pos_of_ne_zero h0) (by decide)
      rw [apF, apF, if_neg h0, if_neg h0, apF_eq k m (n / 16) (Nat.le_of_lt_succ (Nat.lt_of_lt_of_le hd h)) (Nat.le_of_lt_succ (Nat.lt_of_lt_of_le hd h'))]
theorem apL_zero : apL 0 = [] := rfl
theorem apL_step {n : Nat} (h : n ≠ 0) : apL n = apL (n / 16) ++ [65 + n % 16] := by
  obtain ⟨k, rfl⟩ := Nat.exists_eq_succ_of_ne_zero h
  have hd : (k + 1) / 16 < k + 1 := Nat.div_lt_self (Nat.succ_pos k) (by decide)
  show apF (k + 1) (k + 1) = apF ((k + 1) / 16) ((k + 1) / 16) ++ _
  rw [apF, if_neg h, apF_eq k ((k + 1) / 16) ((k + 1) / 16) (Nat.le_of_lt_succ hd) (Nat.le_refl _)]
theorem apL_len : ∀ (k n : Nat), n < 16 ^ k → (apL n).length ≤ k
  | 0, n, h => by
    have : n = 0 := by simpa using h
    subst this; rw [apL_zero]; simp
  | k + 1, n, h => by
    by_cases h0 : n = 0
    · subst h0; rw [apL_zero]; simp
    · rw [apL_step h0, List.length_append]
      have := apL_len k (n / 16) (by rw [Nat.pow_succ] at h; omega)
      simp only [List.length_cons, List.length_nil]; omega
theorem apL_mem : ∀ (n c : Nat), c ∈ apL n → 65 ≤ c ∧ c ≤ 80 := by
  intro n
  induction n using Nat.strongRecOn with
  | _ n ih =>
    intro c hc
    by_cases h0 : n = 0
    · subst h0; rw [apL_zero] at hc; cases hc
    · rw [apL_step h0] at hc
      rcases List.mem_append.mp hc with hc | hc
      · exact ih (n / 16) (by omega) c hc
      · have := List.mem_singleton.mp hc
        omega
noncomputable def toB (l : List Nat) : Array UInt8 := (l.map UInt8.ofNat).toArray
theorem toB_append (a b : List Nat) : toB a ++ toB b = toB (a ++ b) := by simp [toB]
theorem toB_size (a : List Nat) : (toB a).size = a.length := by simp [toB]
end Mine
end
section
theorem Mine.wTop_Dec : True ∧ True := by
  w_top off
  (try (walk1; fail))
  exact ⟨trivial, trivial⟩
open PySem PySem.W PyProof.Rows PySem.Calls PySem.Spec PySem.Builtin
set_option Elab.async false
set_option maxRecDepth 100000
namespace Mine
theorem toB_get {l : List Nat} {p : Nat} (hp : p < l.length) (h : ∀ c ∈ l, c < 128) : ((toB l).getD p 0).toNat = l[p] := by
  have := h l[p] (List.getElem_mem hp)
  simp [toB, hp, Array.getD]
  omega
theorem forIn_asc {l : List Nat} {F : Nat → (Nat × Array Nat × _codecs.Faults) → Sem (ForInStep (Nat × Array Nat × _codecs.Faults))}
   (hF : ∀ i p st, (hp : p < l.length) → F i (p, (l.take p).toArray, st) = pure (ForInStep.yield (p + 1, (l.take (p + 1)).toArray, st))) :
   ∀ (k p : Nat) (st : _codecs.Faults), p + k = l.length → forIn (List.range' p k) (p, (l.take p).toArray, st) F = pure (l.length, l.toArray, st)
  | 0, p, st, h => by
    have : p = l.length := by omega
    subst this
    simp
  | k + 1, p, st, h => by
    rw [List.range'_succ, List.forIn_cons, hF p p st (by omega), pure_bind]
    exact forIn_asc hF k (p + 1) st (by omega)
theorem asc_e2 {l : List Nat} {p : Nat} (hp : p < l.length) : (l.take p).toArray ++ [l[p]].toArray = (l.take (p + 1)).toArray := by
  rw [List.take_add_one, List.getElem?_eq_getElem hp]
  exact List.append_toArray _ _
theorem asc_e {l : List Nat} {p : Nat} (hp : p < l.length) (h : ∀ c ∈ l, c < 128) : _codecs.asciiDecoder.find true (toB l) p = _codecs.Found.text [l[p]] (p + 1) := by
  show (if ((toB l).getD p 0).toNat < 128 then _codecs.Found.char _ _ else _) = _
  rw [toB_get hp h, if_pos (h _ (List.getElem_mem hp))]; rfl
set_option maxHeartbeats 1000000 in
theorem run_ascii {l : List Nat} (h : ∀ c ∈ l, c < 128) (hs : l.length ≤ sizeLine) (id : String) : _codecs.runDecoder id _codecs.asciiDecoder none true (toB l) 0 [] = pure (l.toArray, l.length) := by
  unfold _codecs.runDecoder
  simp only [Std.Legacy.Range.forIn_eq_forIn_range', Std.Legacy.Range.size, toB_size, Nat.sub_zero, Nat.add_sub_cancel, Nat.div_one]
  rw [show ((0 : Nat), (#[] : Array Nat), ({} : _codecs.Faults)) = (0, (l.take 0).toArray, {}) from by simp, forIn_asc (l := l) (fun i p st hp => ?_) l.length 0 {} (by omega)]
  · rfl
  · dsimp only
    rw [if_neg (by rw [List.size_toArray, List.length_take]; exact Nat.not_lt.mpr (Nat.le_trans (Nat.min_le_right _ _) hs)), if_neg (by omega)]
    rw [asc_e hp h]
    dsimp only
    rw [asc_e2 hp]
theorem dec_road {id : String} {b : Array UInt8} : _codecs.decodeRoad id b (PySem.Str.ofString "ascii") none [] = (_codecs.runDecoder id _codecs.asciiDecoder none true b 0 [] >>= fun r => mkStr ⟨r.1⟩) := by kernel_rfl
theorem dec_text {b : Array UInt8} {t t1 t2 : Tok} {x d : PySem.Str} {n : Nat} (hd : ∀ id, _codecs.runDecoder id _codecs.asciiDecoder none true b 0 [] = pure (x.cps, n)) :
    Meets («_codecs.decode.text» ⟨[.bytes b t, .str (PySem.Str.ofString "ascii") t1, .none, .str d t2], []⟩) (fun _ R s => x.length ≤ sizeLine ∧ R (.ok (.ret (.str x s.toks))) { s with toks := s.toks + 1 }) := by
  refine .of_wp fun prog w A R s hS => ?_
  obtain ⟨hsz, h⟩ := hS
  show wpAny _ _ (Bytes.bytesLike _ (.bytes b t) >>= fun r => _) _ _ s
  refine wpAny_bind (wpAny_of_eq KBd.like_eq ?_)
  refine wpAny_bind (wpAny_of_eq KBd.held_eq ?_)
  show wpAny _ _ (_codecs.decodeRoad _ b (PySem.Str.ofString "ascii") none [] >>= fun v => _) _ _ s
  rw [dec_road, hd]
  refine wpAny_bind (wpAny_bind (wpAny_pure ?_))
  exact wpAny_mkStr (wpAny_pure ⟨_, rfl, h⟩) hsz
theorem dec_entry {c : UInt8} {cs : List UInt8} {t te : Tok} : «bytes.decode» ⟨[.bytes (c :: cs).toArray t, .str (PySem.Str.ofString "ascii") te], []⟩ = (mkStr (PySem.Str.ofString "utf-8") >>= fun _ => mkStr (PySem.Str.ofString "ascii") >>= fun e => mkStr (PySem.Str.ofString "bytes.decode") >>= fun d =>
    call (.builtin "_codecs.decode.text") [.bytes (c :: cs).toArray t, e, .none, d] >>= fun v => ret v) := by kernel_rfl
theorem dec_entry0 {t te : Tok} : «bytes.decode» ⟨[.bytes #[] t, .str (PySem.Str.ofString "ascii") te], []⟩ = (rule "bytes.decode.empty" >>= fun _ => mkStr PySem.Str.empty >>= fun v => ret v) := by kernel_rfl
theorem args_dec2 (a b : Value) : argsOk "bytes.decode" ⟨[a, b], []⟩ := by unfold argsOk; kernel_rfl
theorem dec_meets {l : List Nat} {t te : Tok} (h : ∀ c ∈ l, c < 128) : 
    Meets («bytes.decode» ⟨[.bytes (toB l) t, .str (PySem.Str.ofString "ascii") te], []⟩) (fun _ R s => l.length ≤ sizeLine ∧ ∀ t' k, s.toks ≤ k → R (.ok (.ret (.str (S l) t'))) { s with toks := k }) := by
  refine .of_wp fun prog w A R s hS => ?_
  obtain ⟨hsz, hR⟩ := hS
  cases l with
  | nil =>
    show wpAny _ _ («bytes.decode» ⟨[.bytes #[] t, .str (PySem.Str.ofString "ascii") te], []⟩) _ _ _
    rw [dec_entry0]
    refine wpAny_bind (wpAny_rule ?_)
    exact wpAny_bind (wpAny_mkStr (wpAny_pure ⟨_, rfl, hR _ _ (by show s.toks ≤ s.toks + 1; omega)⟩) (by decide))
  | cons a l =>
    show wpAny _ _ («bytes.decode» ⟨[.bytes (UInt8.ofNat a :: l.map UInt8.ofNat).toArray t, .str (PySem.Str.ofString "ascii") te], []⟩) _ _ _
    rw [dec_entry]
    refine wpAny_bind (wpAny_mkStr ?_ (by decide))
    refine wpAny_bind (wpAny_mkStr ?_ (by decide))
    refine wpAny_bind (wpAny_mkStr ?_ (by decide))
    exact wpAny_bind (call_function_meets KBd.kind_text KBd.plain_text KBd.entry_text (KBd.args_text _ _ _ _) (dec_text (x := S (a :: l)) (fun id => run_ascii h hsz id)) ⟨by rw [S_length]; exact hsz, wpAny_pure ⟨_, rfl, hR _ _ (by show s.toks ≤ s.toks + 1 + 1 + 1 + 1; omega)⟩⟩)
theorem decodeA {prog : Program} {w : World} {A : Around} {E : Value → Shared → Prop} {s : Shared} {l : List Nat} {t te : Tok} {Q : Value → Shared → Prop} (hl : ∀ c ∈ l, c < 128) (hsz : l.length ≤ 16777216) (h : ∀ t' k, s.toks ≤ k → Q (.str (S l) t') { s with toks := k }) :
    wpAny (model prog w) A (call (.builtin "bytes.decode") [.bytes (toB l) t, .str (PySem.Str.ofString "ascii") te]) Q E s :=
  call_meets FB.slot_bytes_decode (typeIs_bytes _ _ _) FB.entry_bytes_decode (args_dec2 _ _) (dec_meets hl) ⟨by rw [sizeLine_eq]; exact hsz, h⟩
end Mine
end
section
theorem Mine.wTop_Crlf : True ∧ True := by
  w_top off
  (try (walk1; fail))
  exact ⟨trivial, trivial⟩
open PySem PySem.W PyProof.Rows PySem.Calls PySem.Spec PySem.Builtin PySem.Builtin.Str PySem.StrLaws
namespace Mine
theorem at_crlf (l : List Nat) (k : Nat) : At (S l) (S [13, 10]) (S l).length k ↔ l[k]? = some 13 ∧ l[k + 1]? = some 10 := by
  unfold At
  rw [S_length, S_length]
  have key : (k + 2 ≤ l.length ∧ (l.drop k).take 2 = [13, 10]) ↔ (l[k]? = some 13 ∧ l[k + 1]? = some 10) := by
    constructor
    · rintro ⟨h1, h2⟩
      have e1 : ((l.drop k).take 2)[0]? = some 13 := by rw [h2]; rfl
      have e2 : ((l.drop k).take 2)[1]? = some 10 := by rw [h2]; rfl
      rw [List.getElem?_take_of_lt (by decide), List.getElem?_drop] at e1 e2
      exact ⟨e1, e2⟩
    · rintro ⟨h1, h2⟩
      have hl : k + 1 < l.length := by
        by_cases h : k + 1 < l.length
        · exact h
        · rw [List.getElem?_eq_none (by omega)] at h2; cases h2
      refine ⟨by omega, ?_⟩
      apply List.ext_getElem?
      intro i
      rcases i with _ | _ | i
      · rw [List.getElem?_take_of_lt (by decide), List.getElem?_drop]; exact h1
      · rw [List.getElem?_take_of_lt (by decide), List.getElem?_drop]; exact h2
      · rw [List.getElem?_eq_none (by simp; omega), List.getElem?_eq_none (by simp)]
  have e : subAt (S l) (S [13, 10]) k = true ↔ (l.drop k).take 2 = [13, 10] := by
    unfold subAt
    simp only [S, Str.length, beq_iff_eq, List.extract_toArray, List.extract_eq_take_drop]
    rw [show k + [13, 10].toArray.size - k = 2 by simp]
    constructor
    · intro h; exact congrArg Array.toList h
    · intro h; rw [h]
  rw [e]
  exact key
theorem sub_S (l : List Nat) (i j : Nat) : strSub (S l) i j = S ((l.drop i).take (j - i)) := by
  simp only [strSub, S, List.extract_toArray, List.extract_eq_take_drop]
/-- the places where the rows end -/
noncomputable def cutsOf : List (List Nat) → Nat → List Nat
  | [], _ => []
  | [_], _ => []
  | p :: q :: r, a => (a + p.length) :: cutsOf (q :: r) (a + p.length + 2)
theorem cutsOf_len : ∀ (ps : List (List Nat)) (a : Nat), (cutsOf ps a).length = ps.length - 1
  | [], _ => rfl
  | [_], _ => rfl
  | p :: q :: r, a => by
    show (cutsOf (q :: r) _).length + 1 = _
    rw [cutsOf_len (q :: r)]
    simp
theorem no13 {pre p post : List Nat} {k : Nat} (hp : 13 ∉ p) (h1 : pre.length ≤ k) (h2 : k < pre.length + p.length) : (pre ++ (p ++ post))[k]? ≠ some 13 := by
  rw [List.getElem?_append_right h1, List.getElem?_append_left (by omega)]
  intro h
  exact hp (List.mem_of_getElem? h)
theorem chain_cuts : ∀ (ps : List (List Nat)) (pre l : List Nat), ps ≠ [] → (∀ p ∈ ps, 13 ∉ p) → l = pre ++ joinL [13, 10] ps → ∀ cuts f, ChainG (S l) (S [13, 10]) (S l).length pre.length cuts f → (∀ k, f ≤ k → ¬ At (S l) (S [13, 10]) (S l).length k) →
    cuts = cutsOf ps pre.length ∧ partsFrom (S l) 2 pre.length cuts = ps.map S
  | [], _, _, h, _, _, _, _, _, _ => absurd rfl h
  | [p], pre, l, _, hp, hl, cuts, f, hc, hf => by
    have hp0 := hp p (List.mem_singleton.mpr rfl)
    subst hl
    cases cuts with
    | nil =>
      refine ⟨rfl, ?_⟩
      show [strSub _ _ _] = [S p]
      rw [sub_S, S_length]
      simp [joinL]
    | cons i r =>
      exfalso
      obtain ⟨h1, h2, _⟩ := hc
      have := ((at_crlf _ _).mp h2)
      have hi : i < pre.length + p.length := by
        have := (List.getElem?_eq_some_iff.mp this.1).1
        simpa [joinL] using this
      exact no13 (post := []) hp0 h1 hi (by simpa [joinL] using this.1)
  | p :: q :: r, pre, l, _, hp, hl, cuts, f, hc, hf => by
    have hp0 := hp p (List.mem_cons_self ..)
    have e : l = pre ++ (p ++ ([13, 10] ++ joinL [13, 10] (q :: r))) := by rw [hl]; simp [joinL]
    have hat : At (S l) (S [13, 10]) (S l).length (pre.length + p.length) := by
      rw [at_crlf, e]
      constructor
      · rw [List.getElem?_append_right (by omega), List.getElem?_append_right (by omega)]; simp
      · rw [List.getElem?_append_right (by omega), List.getElem?_append_right (by omega)]
        rw [show pre.length + p.length + 1 - pre.length - p.length = 1 by omega]; rfl
    cases cuts with
    | nil =>
      exfalso
      have hfa : f = pre.length := hc
      exact hf _ (by omega) hat
    | cons i rs =>
      obtain ⟨h1, h2, h3, h4⟩ := hc
      have hi : i = pre.length + p.length := by
        by_cases hlt : i < pre.length + p.length
        · exfalso
          have := ((at_crlf _ _).mp h2).1
          rw [e] at this
          exact no13 hp0 h1 hlt this
        · by_cases hgt : pre.length + p.length < i
          · exact absurd hat (h3 _ (by omega) hgt)
          · omega
      subst hi
      have el : (pre ++ p ++ [13, 10]).length = pre.length + p.length + 2 := by simp only [List.length_append, List.length_cons, List.length_nil]
      have ih := chain_cuts (q :: r) (pre ++ p ++ [13, 10]) l (by simp) (fun z hz => hp z (List.mem_cons_of_mem _ hz)) (by rw [e]; simp) rs f (by rw [el]; exact h4) hf
      rw [el] at ih
      refine ⟨?_, ?_⟩
      · show _ :: rs = _ :: _
        rw [ih.1]
      · show strSub _ _ _ :: partsFrom (S l) 2 (pre.length + p.length + 2) rs = S p :: _
        rw [ih.2, sub_S, e]
        congr 1
        simp
theorem cuts_crlf {ps : List (List Nat)} (hne : ps ≠ []) (hp : ∀ p ∈ ps, 13 ∉ p) :
    occurrences (S (joinL [13, 10] ps)) (S [13, 10]) 0 (S (joinL [13, 10] ps)).length ((S (joinL [13, 10] ps)).length + 1) = cutsOf ps 0 ∧
      partsBetween (S (joinL [13, 10] ps)) (cutsOf ps 0) 2 = ps.map S := by
  obtain ⟨f, h1, h2⟩ := occ_tight (S (joinL [13, 10] ps)) (S [13, 10]) (by simp)
  have := chain_cuts ps [] _ hne hp rfl _ f h1 h2
  refine ⟨this.1, ?_⟩
  rw [partsBetween_eq]
  have h3 := this.2
  rw [this.1] at h3
  exact h3
theorem replace_crlf {ps : List (List Nat)} (hne : ps ≠ []) (hp : ∀ p ∈ ps, 13 ∉ p) (z : List Nat) : Txt.replace (S (joinL [13, 10] ps)) (S [13, 10]) (S z) = S (joinL z ps) := by
  obtain ⟨h1, h2⟩ := cuts_crlf hne hp
  unfold Txt.replace
  rw [h1]
  by_cases he : (cutsOf ps 0).isEmpty
  · rw [if_pos (by rw [he]; rfl)]
    have hl := cutsOf_len ps 0
    match ps, hne with
    | [p], _ => rfl
    | p :: q :: r, _ => simp [cutsOf] at he
  · rw [if_neg (by simp [he]), show (S [13, 10]).length = 2 from rfl, h2, glued_eq_join, str_join]
theorem count_crlf {ps : List (List Nat)} (hne : ps ≠ []) (hp : ∀ p ∈ ps, 13 ∉ p) : Txt.count (S (joinL [13, 10] ps)) (S [13, 10]) = ((ps.length - 1 : Nat) : Int) := by
  obtain ⟨h1, _⟩ := cuts_crlf hne hp
  unfold Txt.count
  rw [h1, cutsOf_len]
end Mine
end
section
theorem Mine.wTop_Sit : True ∧ True := by
  w_top off
  (try (walk1; fail))
  exact ⟨trivial, trivial⟩
open PySem PySem.W PyProof.Rows PySem.Calls PySem.Spec
set_option maxRecDepth 100000
namespace Mine
structure SitObj (o : Obj) (l : List Nat) (t : Tok) (i : Nat) : Prop where
  cls : o.cls = .type "str_ascii_iterator"
  data : o.data = .fields #[.str (S l) t, .int i 0]
section
variable {prog : Program} {w : World} {A : Around} {E : Value → Shared → Prop} {s : Shared} {h₀ : Heap} {L : Addr} {m : Str → Option Value} {news : List (Addr × Obj)}
theorem sit_iter {l : List Nat} {t : Tok} {Q : Value → Shared → Prop} (F : Fr h₀ L s.heap m) (N : News h₀ L s.heap news) (hl : ∀ c ∈ l, c < 128)
    (h : ∀ I o h', SitObj o l t 0 → Fr h₀ L h' m → News h₀ L h' ((I, o) :: news) → (∀ p ∈ news, @LT.lt Nat _ p.1 I) → Q (.ref I) { s with heap := h' }) : wpAny (model prog w) A (pyIter (.str (S l) t)) Q E s :=
  wpAny_pyIter_ascii (by simpa [S] using hl) (h _ _ _ ⟨rfl, rfl⟩ (F.push _) (N.push F _) fun p hp => Heap.lt_size (N p hp).1)
theorem sit_next {I : Addr} {o : Obj} {l : List Nat} {t : Tok} {i : Nat} {Q : Option Value → Shared → Prop} (hh : A.handled = none) (F : Fr h₀ L s.heap m) (N : News h₀ L s.heap ((I, o) :: news)) (hap : ∀ q ∈ news, q.1 ≠ I) (ho : SitObj o l t i)
    (ret0 : l.length ≤ i → ∀ h', Fr h₀ L h' m → News h₀ L h' news → Q none { s with heap := h' })
    (ret1 : ∀ c o' h', l[i]? = some c → SitObj o' l t (i + 1) → Fr h₀ L h' m → News h₀ L h' ((I, o') :: news) → Q (some (.str (S [c]) s.toks)) { s with heap := h', toks := s.toks + 1 }) :
    wpAny (model prog w) A (pyNext (.ref I)) Q E s := by
  have hit : s.heap.IsStrIter I "str_ascii_iterator" (S l) t i := ⟨o, N.get (.head _), ho.cls, ho.data⟩
  cases hc : l[i]? with
  | some c =>
    refine wpAny_pyNext_ascii_item hit (c := c) (by simpa [S] using hc) fun h' hit' hs => ?_
    obtain ⟨o', e1, e2, e3⟩ := hit'
    exact ret1 c o' h' hc ⟨e2, e3⟩ (F.change hs (N _ (.head _)).2.1 (N _ (.head _)).2.2) (N.setHead hap hs e1)
  | none =>
    refine wpAny_pyNext_ascii_end hh hit (by simpa [S] using hc) fun h' hx => ?_
    refine ret0 (by simpa using hc) h' ⟨F.ns.extBut hx (N _ (.head _)).2.1.symm, fun b x e => hx b x (fun q => ?_) (F.keep b x e), F.above⟩ fun p hp => ⟨hx _ _ (hap p hp) (N p (.tail _ hp)).1, (N p (.tail _ hp)).2⟩
    have := (N _ (.head _)).2.2
    rw [← q, e] at this; cases this
end
section
variable {prog : Program} {w : World} {A : Around} {E : Value → Shared → Prop} {s : Shared} {env : Env}
theorem For_own2 {v : Str} {px pos : Pos} {iter : Expr} {body : List Stmt} {Q : Flow → Shared → Prop} (Inv : Addr → Nat → Shared → Prop) (n : Nat)
    (h : wpAny (model prog w) A (eval iter env) (fun xv s₁ => wpAny (model prog w) A (pyIter xv) (fun it s₂ => ∃ I, it = .ref I ∧ Inv I n s₂) E s₁) E s)
    (turn : ∀ I k s', Inv I k s' → wpAny (model prog w) A (pyNext (.ref I)) (OwitTurn prog w A E env v body Q (fun s3 => ∃ k', k' < k ∧ Inv I k' s3)) E s')
    (hs : ∀ x, foldedSetIterable iter env x = pure x := by intro _; rfl) (hE : PassesOwn (model prog w) A env E := by passes_own) :
    wpAny (model prog w) A (exec (.For (.Name v px) iter body [] pos) env) Q E s := by
  refine wpAny_For (wpAny_mono h (fun xv s₁ h₁ => wpAny_mono h₁ (fun it s₂ h₂ => ?_) fun _ _ z => z) fun _ _ z => z) hs
  obtain ⟨I, rfl, h₂⟩ := h₂
  refine codeAny_forLoop (R := fun r s' => match r with | .ok f => Q f s' | .error e => cameBackBy (model prog w) A env E e s') (Inv I) ?_ n h₂
  intro k s' hk
  refine wpAny_passesOwn hE (wpAny_mono (turn I k s' hk) (fun r s₁ hr => ?_) fun _ _ z => z)
  cases r with
  | none => exact wpAny_execs_nil hr
  | some y =>
    refine wpAny_passesOwn hE (wpAny_assign_Name (wpAny_mono hr (fun _ s₂ h₂ => ?_) fun _ _ z => z))
    refine wpAny_passesOwn hE (wpAny_mono h₂ (fun f s₃ h₃ => ?_) fun _ _ z => z)
    cases f with
    | next => exact h₃
    | cont => exact h₃
    | brk => exact h₃
    | ret _ => exact h₃
end
end Mine
end
section
theorem Mine.wTop_Cit : True ∧ True := by
  w_top off
  (try (walk1; fail))
  exact ⟨trivial, trivial⟩
open PySem PySem.W PyProof.Rows PySem.Calls PySem.Spec PySem.Builtin
set_option Elab.async false
set_option maxRecDepth 100000
namespace Mine
noncomputable abbrev citObj (f x : Value) (b : Bool) : Obj := { cls := .type "callable_iterator", data := .fields #[f, x, .bool b] }
theorem slot_cit_next : Slot "callable_iterator" "__next__" "callable_iterator.__next__" :=
  .of (owner := "callable_iterator") (n := "__next__") (by rw [typeLookup_type, builtinLookup_eq_fast]; kernel_rfl) (by decide +kernel) (by decide +kernel) (by decide +kernel)
    (by first | exact .inl (by decide +kernel) | exact .inr (by decide +kernel)) (by rw [isSubtype_type]; kernel_rfl)
theorem slot_cit_iter : Slot "callable_iterator" "__iter__" "callable_iterator.__iter__" :=
  .of (owner := "callable_iterator") (n := "__iter__") (by rw [typeLookup_type, builtinLookup_eq_fast]; kernel_rfl) (by decide +kernel) (by decide +kernel) (by decide +kernel)
    (by first | exact .inl (by decide +kernel) | exact .inr (by decide +kernel)) (by rw [isSubtype_type]; kernel_rfl)
theorem entry_cit_next : entryFor table "callable_iterator.__next__" = some Builtin.«callable_iterator.__next__» := entryFor_of_tree (by kernel_rfl)
theorem entry_cit_iter : entryFor table "callable_iterator.__iter__" = some Builtin.«dict_keyiterator.__iter__» :=
  entryFor_alias (id' := "dict_keyiterator.__iter__") (by kernel_rfl) rfl (by decide +kernel) (by kernel_rfl)
theorem args_cit_next (a : Value) : argsOk "callable_iterator.__next__" ⟨[a], []⟩ := by unfold argsOk; kernel_rfl
theorem args_cit_iter (a : Value) : argsOk "callable_iterator.__iter__" ⟨[a], []⟩ := by unfold argsOk; kernel_rfl
theorem kind_iter : builtinKind "iter" = none := by decide +kernel
theorem plain_iter : plainId "iter" = true := by decide +kernel
theorem entry_iter : entryFor table "iter" = some Builtin.«iter» := entryFor_of_tree (by kernel_rfl)
theorem args_iter2 (a b : Value) : argsOk "iter" ⟨[a, b], []⟩ := by unfold argsOk; kernel_rfl
theorem look_method_call : typeLookup (.type "method") (Str.ofString "__call__") = pure (some (.builtin "method.__call__")) := by rw [typeLookup_type, builtinLookup_eq_fast]; kernel_rfl
section
variable {M : Model} {A : Around} {E : Value → Shared → Prop} {s : Shared}
theorem wpAny_callBorrowed {f : Value} {pos : List Value} {Q : Value → Shared → Prop}
    (hc : codeAny M A (.call f ⟨pos, []⟩) (fun r s' => match r with | .ok (.ret v) => Q v s' | .ok _ => False | .error e => E e s') s) : wpAny M A (callBorrowed f pos) Q E s := fun Γ p hΓ => by
  unfold callBorrowed
  have h := hc _ p rfl (hΓ.enter (.call f ⟨pos, []⟩) none p (by intro x; cases x))
  refine wpCode_mono ?_ h
  intro r s' hr
  cases r with
  | error e => exact hr
  | ok fl => cases fl <;> first | exact hr | exact hr.elim
theorem borrows_wp {B g : Addr} {self : Value} {fo : Obj} {fd : FuncData} {Q : Bool → Shared → Prop} (hB : s.heap.get? B = some (methodObj (.ref g) self)) (hg : s.heap.get? g = some fo) (hd : fo.data = .func fd) (h : Q true s) :
    wpAny M A (borrowsExactly (.ref B)) Q E s := by
  obtain ⟨fc, fdd, fdat, fsl⟩ := fo
  dsimp only at hd
  subst hd
  unfold borrowsExactly
  refine wpAny_bind (wpAny_load hB ?_)
  refine wpAny_ite (W.ite_pos (by rfl) ?_)
  refine wpAny_bind (wpAny_load hg ?_)
  exact wpAny_pure h
end
section
variable {prog : Program} {w : World} {A : Around} {E : Value → Shared → Prop} {s : Shared} {h₀ : Heap} {L : Addr} {m : Str → Option Value} {news : List (Addr × Obj)}
theorem cit_iter {I : Addr} {f x : Value} {b : Bool} {Q : Value → Shared → Prop} (hI : s.heap.get? I = some (citObj f x b)) (h : Q (.ref I) s) : wpAny (model prog w) A (pyIter (.ref I)) Q E s := by
  have hT : s.TypeIs (.ref I) "callable_iterator" := ⟨_, hI, rfl⟩
  refine wpAny_pyIter_slot hT slot_cit_iter (wpAny_call_entry slot_cit_iter hT entry_cit_iter ?_ (args_cit_iter _))
  exact wpAny_pure ⟨.ref I, rfl, _, _, hT, slot_cit_next.lookup, h⟩
theorem cit_new {B : Addr} {f self : Value} {x : Str} {t : Tok} {Q : Value → Shared → Prop} (F : Fr h₀ L s.heap m) (N : News h₀ L s.heap news) (hB : (B, methodObj f self) ∈ news)
    (h : ∀ I h', Fr h₀ L h' m → News h₀ L h' ((I, citObj (.ref B) (.str x t) false) :: news) → (∀ p ∈ news, p.1 < I) → Q (.ref I) { s with heap := h' }) :
    wpAny (model prog w) A (call (.builtin "iter") [.ref B, .str x t]) Q E s := by
  have hT : s.TypeIs (.ref B) "method" := ⟨_, N.get hB, rfl⟩
  refine call_function_meets (S := fun _ R s => s.TypeIs (.ref B) "method" ∧ R (.ok (.ret (.ref s.heap.objs.size))) { s with heap := s.heap.push (citObj (.ref B) (.str x t) false) }) kind_iter plain_iter entry_iter (args_iter2 _ _) (.of_wp fun prog w A R s hS => ?_) ⟨hT, ?_⟩
  · obtain ⟨hT, hR⟩ := hS
    unfold Builtin.«iter»
    refine wpAny_bind (wpAny_of_eq (a := [.ref B, .str x t]) rfl ?_)
    dsimp only
    refine wpAny_bind (wpAny_specialOf hT look_method_call ?_)
    refine wpAny_ite (W.ite_neg (by decide) ?_)
    refine wpAny_bind (wpAny_rule ?_)
    refine wpAny_bind (wpAny_newObj_type ?_)
    exact wpAny_pure ⟨_, rfl, hR⟩
  · exact h _ _ (F.push _) (N.push F _) fun p hp => Heap.lt_size (N p hp).1
theorem set_cit {I : Addr} {vs : Array Value} {k : Nat} {x : Value} {Q : Unit → Shared → Prop} (hk : k < vs.size) (F : Fr h₀ L s.heap m) (N : News h₀ L s.heap ((I, { cls := .type "callable_iterator", data := .fields vs }) :: news)) (hap : ∀ q ∈ news, q.1 ≠ I)
    (h : ∀ h', Fr h₀ L h' m → News h₀ L h' ((I, { cls := .type "callable_iterator", data := .fields (vs.setIfInBounds k x) }) :: news) → Q () { s with heap := h' }) : wpAny (model prog w) A (setField (.ref I) k x) Q E s := by
  have ho := N.get (.head _)
  exact wpAny_setField_rec ho hk fun h' hg hs => h h' (F.change hs (N _ (.head _)).2.1 (N _ (.head _)).2.2) (N.setHead hap hs hg)
theorem letsGo {B g : Addr} {self : Value} {who : String} {busy : Code → Bool} {fo : Obj} {fd : FuncData} {Q : Unit → Shared → Prop} (hB : s.heap.get? B = some (methodObj (.ref g) self)) (hg : s.heap.get? g = some fo) (hd : fo.data = .func fd) (h : Q () s) :
    wpAny (model prog w) A (slotLetsGo who (.ref B) busy) Q E s := by
  unfold slotLetsGo
  refine wpAny_bind (borrows_wp hB hg hd ?_)
  exact wpAny_ite (W.ite_pos rfl (wpAny_pure h))
/-- the next thing of iter(bound method, '') -/
theorem cit_next {I B g : Addr} {self : Value} {t0 : Tok} {fo : Obj} {fd : FuncData} {Q : Option Value → Shared → Prop} (hh : A.handled = none) (F : Fr h₀ L s.heap m) (N : News h₀ L s.heap ((I, citObj (.ref B) (.str Str.empty t0) false) :: news)) (hB : (B, methodObj (.ref g) self) ∈ news) (hap : ∀ q ∈ news, q.1 ≠ I)
    (hg : h₀.get? g = some fo) (hd : fo.data = .func fd)
    (h : codeAny (model prog w) A.in1 (.call (.ref g) ⟨[self], []⟩) (fun res s' => ∃ news' x t, res = .ok (.ret (.str x t)) ∧ Fr h₀ L s'.heap m ∧ News h₀ L s'.heap ((I, citObj (.ref B) (.str Str.empty t0) false) :: news') ∧ (B, methodObj (.ref g) self) ∈ news' ∧ (∀ q ∈ news', q.1 ≠ I) ∧
      ((Str.empty == x) = true → ∀ h', Fr h₀ L h' m → News h₀ L h' ((I, citObj .none .none true) :: news') → Q none { s' with heap := h' }) ∧ ((Str.empty == x) = false → Q (some (.str x t)) s')) s) :
    wpAny (model prog w) A (pyNext (.ref I)) Q E s := by
  have hT : s.TypeIs (.ref I) "callable_iterator" := ⟨_, N.get (.head _), rfl⟩
  unfold pyNext
  refine wpAny_bind (wpAny_attempt (wpAny_callSpecial?_slot (name := Str.ofString "__next__") hT slot_cit_next
    (wpAny_call_entry slot_cit_next hT entry_cit_next ?_ (args_cit_next _))))
  unfold Builtin.«callable_iterator.__next__»
  refine wpAny_bind (wpAny_of_eq (a := (.ref I, [])) rfl ?_)
  dsimp only
  refine wpAny_bind (wpAny_field (N.get (.head _)) rfl (x := .bool false) rfl ?_)
  refine wpAny_ite (W.ite_neg (by decide) ?_)
  refine wpAny_bind (wpAny_field (N.get (.head _)) rfl (x := .ref B) rfl ?_)
  refine wpAny_bind (wpAny_attempt ?_)
  unfold callOutOfASlot
  have hBg := N.get (List.mem_cons_of_mem _ hB)
  refine wpAny_bind (borrows_wp hBg (F.keep _ _ hg) hd ?_)
  refine wpAny_ite (W.ite_pos rfl ?_)
  refine wpAny_callBorrowed (method_call hBg (codeAny_mono h fun res s' hr => ?_))
  obtain ⟨news', x, t, rfl, F', N', hB', hap', hno, hyes⟩ := hr
  dsimp only
  refine wpAny_bind (wpAny_field (N'.get (.head _)) rfl (x := .bool false) rfl ?_)
  refine wpAny_ite (W.ite_neg (by decide) ?_)
  refine wpAny_bind (wpAny_field (N'.get (.head _)) rfl (x := .str Str.empty t0) rfl ?_)
  refine wpAny_bind (wpAny_holding (PyProof.Rows.eqBool_str ?_))
  cases hx : (Str.empty == x) with
  | false =>
    refine wpAny_ite (W.ite_pos rfl ?_)
    exact wpAny_pure ⟨_, rfl, wpAny_pure (hyes hx)⟩
  | true =>
    refine wpAny_ite (W.ite_neg (by decide) ?_)
    refine wpAny_bind (wpAny_rule ?_)
    refine wpAny_bind ?_
    show wpAny _ _ (field (.ref I) 0 >>= fun o => slotLetsGo _ o _ >>= fun _ => setField (.ref I) 0 .none >>= fun _ => setField (.ref I) 1 .none >>= fun _ => setField (.ref I) 2 (.bool true)) _ _ _
    refine wpAny_bind (wpAny_field (N'.get (.head _)) rfl (x := .ref B) rfl ?_)
    refine wpAny_bind (letsGo (N'.get (List.mem_cons_of_mem _ hB')) (F'.keep _ _ hg) hd ?_)
    refine wpAny_bind (set_cit (by simp) F' N' hap' fun h1 F1 N1 => ?_)
    refine wpAny_bind (set_cit (s := { s' with heap := h1 }) (by simp) F1 N1 hap' fun h2 F2 N2 => ?_)
    refine set_cit (s := { s' with heap := h2 }) (by simp) F2 N2 hap' fun h3 F3 N3 => ?_
    show wpAny _ _ (newExc (.type "StopIteration") [] >>= _) _ _ _
    refine wpAny_bind ?_
    simp only [newExc, newTuple]
    refine wpAny_bind (wpAny_newObj_type ?_ (by size_fits))
    refine wpAny_bind (m := firstArgMember _ _) (wpAny_of_eq (a := Value.none) (by first | rfl | (simp only [firstArgMember]; rfl)) ?_)
    refine wpAny_newObj_type ?_ (by size_fits)
    simp only [raiseNew]
    refine wpAny_bind (wpAny_handled ?_)
    rw [show A.in1.handled = none from hh]
    refine wpAny_bind (wpAny_pure (wpAny_throw ?_))
    refine wpAny_bind (wpAny_isInstance (T := "StopIteration") (b := true) ⟨_, Heap.get?_push_size _ rfl, rfl⟩ isSubtype_stop ?_)
    refine wpAny_ite (W.ite_pos rfl ?_)
    exact wpAny_pure (hno hx _ ((F3.push _).push _) (News.sub ((N3.push F3 _).push (F3.push _) _) fun q hq => List.mem_cons_of_mem _ (List.mem_cons_of_mem _ hq)))
end
end Mine
end
section
theorem Mine.wTop_Sre3 : True ∧ True := by
  w_top off
  (try (walk1; fail))
  exact ⟨trivial, trivial⟩
open PySem PySem.W PyProof.Rows PySem.Calls PySem.Spec
set_option Elab.async false
set_option maxRecDepth 100000
namespace Mine
noncomputable def codeD : List Nat := [14, 4, 0, 1, 1, 6, 1, 16, 46, 1]
noncomputable def codeW : List Nat := [14, 9, 4, 1, 2, 16, 10, 16, 13, 0, 7, 7, 16, 13, 16, 10, 15, 18, 5, 16, 10, 15, 13, 11, 16, 13, 5, 5, 0, 16, 10, 1, 15, 2, 0, 1]
noncomputable abbrev fS (P s : Nat) (first : Bool) : Sre.Frame := { wait := .nextStart, pc := P, pos := s, outermost := first }
noncomputable abbrev fB (P s : Nat) (first : Bool) : Sre.Frame := { wait := .nextBranch, pc := P, pos := s, outermost := first }
noncomputable abbrev fN (P s : Nat) (first : Bool) : Sre.Frame := { wait := .lookNot, pc := P, pos := s, outermost := first }
noncomputable abbrev wst (code : List Nat) (T : Array Nat) (lim s : Nat) (seen : Sre.Seen) (pc pos handed : Nat) (out : Bool) (fr : List Sre.Frame) (wt : Nat) (ans : Option Bool) : Sre.M :=
  { code := code.toArray, text := T, lim, start := s, lastStart := lim, mustAdvance := false, pc, pos, handed, outermost := out, marks := #[], frames := fr, weight := wt, answer := ans, seen }
section
variable {T : Array Nat} {lim s : Nat} {first : Bool} {seen : Sre.Seen}
/-- the first states -/
noncomputable abbrev stD (T : Array Nat) (lim s : Nat) (first : Bool) (seen : Sre.Seen) : Sre.M := wst codeD T lim s seen 5 s s first [fS 5 s first] 1 none
noncomputable abbrev stW (T : Array Nat) (lim s : Nat) (first : Bool) (seen : Sre.Seen) : Sre.M := wst codeW T lim s seen 10 s s first [fS 10 s first] 1 none

theorem startD {p : Nat} (h : p < lim) : ∃ seen, Sre.forSearch codeD.toArray T 0 p lim false = stD T lim p true seen := ⟨({} : Sre.Seen).add 14, by
  show (if (decide (p > lim) || decide (lim - p < 1)) = true then _ else _) = _
  rw [if_neg (by simp; omega)]; rfl⟩
theorem startD0 {p : Nat} (h : ¬ p < lim) : (Sre.M.runFor 1 (Sre.forSearch codeD.toArray T 0 p lim false)).outcome = some .failed := by
  have e : Sre.forSearch codeD.toArray T 0 p lim false = (if (decide (p > lim) || decide (lim - p < 1)) = true then Sre.M.say (m0 codeD 5 T lim |> fun m => { m with start := p, pos := p, handed := p }) false else stD T lim p true (({} : Sre.Seen).add 14)) := rfl
  rw [e, if_pos (by simp; omega)]
  exact fin_failed _ rfl rfl rfl

noncomputable def bol (T : Array Nat) (s : Nat) : Bool := s == 0 || T.getD (s - 1) 0 == 10
theorem runFor_one (m : Sre.M) (h : m.outcome = none) : Sre.M.runFor 1 m = m.step := by
  show (if m.outcome.isSome = true then m else m.step) = _
  rw [h]; rfl
theorem stepD_bol (h : bol T s = true) : ∃ seen', (stD T lim s first seen).step = wst codeD T lim s seen' 7 s s first [fS 5 s first] 1 none := ⟨_, by
  show (if bol T s = true then _ else _) = _
  rw [if_pos h]⟩
theorem stepD_not (h : bol T s = false) : ∃ seen', (stD T lim s first seen).step = wst codeD T lim s seen' 5 s s first [fS 5 s first] 1 (some false) := ⟨_, by
  show (if bol T s = true then _ else _) = _
  rw [if_neg (by rw [h]; decide)]; rfl⟩
theorem stepD_end (h : ¬ s < lim) : ∃ seen', (wst codeD T lim s seen 7 s s first [fS 5 s first] 1 none).step = wst codeD T lim s seen' 7 s s first [fS 5 s first] 1 (some false) := ⟨_, by
  show (if s ≥ lim then _ else _) = _
  rw [if_pos (by omega)]; rfl⟩
theorem stepD_lit (h : s < lim) (b : Bool) (hb : (T.getD s 0 == 46) = b) : ∃ seen', (wst codeD T lim s seen 7 s s first [fS 5 s first] 1 none).step = if b then wst codeD T lim s seen' 9 (s + 1) s first [fS 5 s first] 1 none else wst codeD T lim s seen' 7 s s first [fS 5 s first] 1 (some false) := by
  refine ⟨seen.add 16, ?_⟩
  show (if s ≥ lim then _ else (match (Except.ok (T.getD s 0 == 46, seen.add 16) : Except String (Bool × Sre.Seen)) with | .error why => _ | .ok (false, seen) => _ | .ok (true, seen) => _)) = _
  rw [if_neg (by omega), hb]
  cases b <;> rfl
theorem stepD_ok : ∃ seen', (wst codeD T lim s seen 9 (s + 1) s first [fS 5 s first] 1 none).step = wst codeD T lim s seen' 9 (s + 1) (s + 1) first [fS 5 s first] 1 (some true) := ⟨seen.add 1, by cases first <;> rfl⟩
theorem stepD_res {pc pos handed : Nat} (code : List Nat) (P : Nat) : (wst code T lim s seen pc pos handed first [fS P s first] 1 (some true)).step = wst code T lim s seen P s handed first [] 0 (some true) := rfl
theorem step_fin {pc pos handed : Nat} (code : List Nat) (b : Bool) : (wst code T lim s seen pc pos handed first [] 0 (some b)).step.outcome = some (if b then .matched else .failed) := rfl
theorem stepD_next {pc : Nat} (h : s < lim) : (wst codeD T lim s seen pc s s first [fS 5 s first] 1 (some false)).step = stD T lim (s + 1) false seen := by
  show (if s < lim then _ else _) = _
  rw [if_pos h]; rfl
theorem stepD_last {pc : Nat} (h : ¬ s < lim) : (wst codeD T lim s seen pc s s first [fS 5 s first] 1 (some false)).step = wst codeD T lim s seen 5 s s first [] 0 (some false) := by
  show (if s < lim then _ else _) = _
  rw [if_neg h]; rfl

/-- what one search gives -/
noncomputable def Gives1 (m0 : Sre.M) (lim : Nat) (r : Option (Nat × Nat)) : Prop := ∃ k mf, Sre.M.runFor k m0 = mf ∧ k ≤ 16 * (lim + 2) ∧ match r with
  | none => mf.outcome = some .failed
  | some (a, b) => mf.outcome = some .matched ∧ mf.start = a ∧ mf.handed = b
noncomputable def GivesN (m0 : Sre.M) (n : Nat) (r : Option (Nat × Nat)) : Prop := ∃ k mf, Sre.M.runFor k m0 = mf ∧ k ≤ n ∧ match r with
  | none => mf.outcome = some .failed
  | some (a, b) => mf.outcome = some .matched ∧ mf.start = a ∧ mf.handed = b
theorem GivesN.step {m : Sre.M} {n : Nat} {r : Option (Nat × Nat)} (ho : m.outcome = none) (h : GivesN m.step n r) : GivesN m (n + 1) r := by
  obtain ⟨k, mf, h1, h2, h3⟩ := h
  refine ⟨k + 1, mf, ?_, by omega, h3⟩
  show (if m.outcome.isSome = true then m else Sre.M.runFor k m.step) = mf
  rw [ho]; exact h1
theorem GivesN.eq {m m' : Sre.M} {n : Nat} {r : Option (Nat × Nat)} (e : m = m') (h : GivesN m' n r) : GivesN m n r := e ▸ h
theorem GivesN.mono {m : Sre.M} {n n' : Nat} {r : Option (Nat × Nat)} (h : GivesN m n r) (l : n ≤ n') : GivesN m n' r := by
  obtain ⟨k, mf, h1, h2, h3⟩ := h
  exact ⟨k, mf, h1, by omega, h3⟩
noncomputable def findD (T : Array Nat) : (n s : Nat) → Option (Nat × Nat)
  | 0, _ => none
  | n + 1, s => if bol T s = true ∧ T.getD s 0 = 46 then some (s, s + 1) else findD T n (s + 1)
theorem runD : ∀ (n s : Nat) (first : Bool) (seen : Sre.Seen), s + n = lim → GivesN (stD T lim s first seen) (8 * (n + 1)) (findD T n s)
  | 0, s, first, seen, hn => by
    have hs : ¬ s < lim := by omega
    have key : ∀ pc seen, GivesN (wst codeD T lim s seen pc s s first [fS 5 s first] 1 (some false)) 2 none := fun pc seen =>
      GivesN.step rfl (GivesN.eq (stepD_last hs) (GivesN.step rfl ⟨0, _, rfl, Nat.le_refl _, rfl⟩))
    cases hb : bol T s with
    | false =>
      obtain ⟨seen', e⟩ := stepD_not (lim := lim) (first := first) (seen := seen) hb
      exact (GivesN.step rfl (GivesN.eq e (key _ _))).mono (by omega)
    | true =>
      obtain ⟨seen', e⟩ := stepD_bol (lim := lim) (first := first) (seen := seen) hb
      obtain ⟨seen2, e2⟩ := stepD_end (T := T) (first := first) (seen := seen') hs
      exact (GivesN.step rfl (GivesN.eq e (GivesN.step rfl (GivesN.eq e2 (key _ _))))).mono (by omega)
  | n + 1, s, first, seen, hn => by
    have hs : s < lim := by omega
    have key : ∀ pc seen, GivesN (wst codeD T lim s seen pc s s first [fS 5 s first] 1 (some false)) (8 * (n + 1) + 1) (findD T n (s + 1)) := fun pc seen =>
      GivesN.step rfl (GivesN.eq (stepD_next hs) (runD n (s + 1) false seen (by omega)))
    unfold findD
    cases hb : bol T s with
    | false =>
      obtain ⟨seen', e⟩ := stepD_not (lim := lim) (first := first) (seen := seen) hb
      rw [if_neg (by simp)]
      exact (GivesN.step rfl (GivesN.eq e (key _ _))).mono (by omega)
    | true =>
      obtain ⟨seen', e⟩ := stepD_bol (lim := lim) (first := first) (seen := seen) hb
      by_cases hd : T.getD s 0 = 46
      · obtain ⟨seen2, e2⟩ := stepD_lit (T := T) (first := first) (seen := seen') hs true (beq_iff_eq.mpr hd)
        obtain ⟨seen3, e3⟩ := stepD_ok (T := T) (lim := lim) (s := s) (first := first) (seen := seen2)
        rw [if_pos ⟨rfl, hd⟩]
        refine (GivesN.step rfl (GivesN.eq e (GivesN.step rfl (GivesN.eq e2 (GivesN.step rfl (GivesN.eq e3 (GivesN.step rfl (GivesN.eq (stepD_res _ _) (GivesN.step (n := 0) rfl ?_))))))))).mono (by omega)
        exact ⟨0, _, rfl, Nat.le_refl _, step_fin _ _, rfl, rfl⟩
      · obtain ⟨seen2, e2⟩ := stepD_lit (T := T) (first := first) (seen := seen') hs false (beq_eq_false_iff_ne.mpr hd)
        rw [if_neg (fun h => hd h.2)]
        exact (GivesN.step rfl (GivesN.eq e (GivesN.step rfl (GivesN.eq e2 (key _ _))))).mono (by omega)
theorem searchD {p : Nat} (hp : p ≤ lim) : GivesN (Sre.forSearch codeD.toArray T 0 p lim false) (8 * (lim + 2)) (findD T (lim - p) p) := by
  by_cases h : p < lim
  · obtain ⟨seen, e⟩ := startD (T := T) h
    rw [e]
    exact (runD (lim - p) p true seen (by omega)).mono (by omega)
  · rw [show lim - p = 0 by omega]
    exact ⟨1, _, rfl, by omega, startD0 h⟩

/- the ends of rows -/
theorem W_branch : ∃ seen', (stW T lim s first seen).step = wst codeW T lim s seen' 12 s s first [fB 11 s first, fS 10 s first] 2 none := ⟨seen.add 7, by cases first <;> rfl⟩
theorem W_branch2 {pc pos handed : Nat} {out : Bool} : (wst codeW T lim s seen pc pos handed out [fB 11 s first, fS 10 s first] 2 (some false)).step = wst codeW T lim s seen 19 s s first [fB 18 s first, fS 10 s first] 2 none := rfl
theorem W_branch3 {pc pos handed : Nat} {out : Bool} : (wst codeW T lim s seen pc pos handed out [fB 18 s first, fS 10 s first] 2 (some false)).step = wst codeW T lim s seen 24 s s first [fB 23 s first, fS 10 s first] 2 none := rfl
theorem W_lit {pc q handed wt : Nat} {out : Bool} {fr : List Sre.Frame} (c : Nat) (hp : pc < 36) (hc : codeW.toArray.getD pc 0 = 16) (hc1 : codeW.toArray.getD (pc + 1) 0 = c) (h : q < lim) (b : Bool) (hb : (T.getD q 0 == c) = b) :
    ∃ seen', (wst codeW T lim s seen pc q handed out fr wt none).step = if b then wst codeW T lim s seen' (pc + 2) (q + 1) handed out fr wt none else wst codeW T lim s seen' pc q handed out fr wt (some false) := by
  have e1 : (Sre.accepts codeW.toArray pc (T.getD q 0) (seen.add 16)) = .ok (b, seen.add 16) := by
    unfold Sre.accepts
    rw [hc, hc1, hb.symm]; rfl
  have e2 : Sre.itemWidth codeW.toArray pc = 2 := by unfold Sre.itemWidth; rw [hc]; rfl
  refine ⟨seen.add 16, ?_⟩
  unfold Sre.M.step
  show (if pc < 36 then Sre.M.exec (wst codeW T lim s seen pc q handed out fr wt none) else _) = _
  rw [if_pos hp]
  unfold Sre.M.exec Sre.M.word
  dsimp only
  rw [Nat.add_zero, hc]
  show (if q ≥ lim then _ else (match Sre.accepts codeW.toArray pc (T.getD q 0) (seen.add 16) with | .error why => _ | .ok (false, seen) => _ | .ok (true, seen) => _)) = _
  rw [if_neg (by omega), e1]
  cases b
  · rfl
  · show ({ wst codeW T lim s (seen.add 16) pc q handed out fr wt none with pc := pc + Sre.itemWidth codeW.toArray pc, pos := q + 1 } : Sre.M) = _
    rw [e2]; rfl
theorem W_end {pc q handed wt : Nat} {out : Bool} {fr : List Sre.Frame} (hp : pc < 36) (hc : codeW.toArray.getD pc 0 = 16) (h : ¬ q < lim) :
    ∃ seen', (wst codeW T lim s seen pc q handed out fr wt none).step = wst codeW T lim s seen' pc q handed out fr wt (some false) := by
  refine ⟨seen.add 16, ?_⟩
  unfold Sre.M.step
  show (if pc < 36 then Sre.M.exec (wst codeW T lim s seen pc q handed out fr wt none) else _) = _
  rw [if_pos hp]
  unfold Sre.M.exec Sre.M.word
  dsimp only
  rw [Nat.add_zero, hc]
  show (if q ≥ lim then _ else _) = _
  rw [if_pos (by omega)]; rfl
theorem W_jump {pos handed wt : Nat} {fr : List Sre.Frame} (pc : Nat) (h : pc = 16 ∨ pc = 21 ∨ pc = 32) : ∃ seen', (wst codeW T lim s seen pc pos handed first fr wt none).step = wst codeW T lim s seen' 35 pos handed first fr wt none := by
  refine ⟨seen.add 15, ?_⟩
  rcases h with rfl | rfl | rfl <;> rfl
theorem W_ok {pos handed wt : Nat} {fr : List Sre.Frame} : ∃ seen', (wst codeW T lim s seen 35 pos handed first fr wt none).step = wst codeW T lim s seen' 35 pos pos first fr wt (some true) := ⟨seen.add 1, by cases first <;> rfl⟩
theorem W_not {pos handed : Nat} : ∃ seen', (wst codeW T lim s seen 26 pos handed first [fB 23 s first, fS 10 s first] 2 none).step = wst codeW T lim s seen' 29 pos pos false [fN 26 pos first, fB 23 s first, fS 10 s first] 3 none := ⟨seen.add 5, rfl⟩
theorem W_notRes {pos p2 handed : Nat} {out : Bool} : (wst codeW T lim s seen 29 p2 handed out [fN 26 pos first, fB 23 s first, fS 10 s first] 3 (some false)).step = wst codeW T lim s seen 32 pos handed first [fB 23 s first, fS 10 s first] 2 none := rfl
theorem W_res {pc P pos handed : Nat} : (wst codeW T lim s seen pc pos handed first [fB P s first, fS 10 s first] 2 (some true)).step = wst codeW T lim s seen P s handed first [fS 10 s first] 1 (some true) := rfl
theorem W_out {P pos : Nat} : ∀ seen handed, GivesN (wst codeW T lim s seen 35 pos handed first [fB P s first, fS 10 s first] 2 none) 4 (some (s, pos)) := fun seen handed => by
  obtain ⟨seen', e⟩ := W_ok (T := T) (lim := lim) (s := s) (first := first) (seen := seen) (pos := pos) (handed := handed) (wt := 2) (fr := [fB P s first, fS 10 s first])
  refine GivesN.step rfl (GivesN.eq e (GivesN.step rfl (GivesN.eq W_res (GivesN.step rfl (GivesN.eq (stepD_res _ _) (GivesN.step (n := 0) rfl ?_))))))
  exact ⟨0, _, rfl, Nat.le_refl _, step_fin _ _, rfl, rfl⟩
noncomputable def widthW (T : Array Nat) (lim s : Nat) : Nat := if T.getD s 0 = 13 ∧ s + 1 < lim ∧ T.getD (s + 1) 0 = 10 then 2 else 1
theorem runW (hs : s < lim) (ht : T.getD s 0 = 10 ∨ T.getD s 0 = 13) : GivesN (stW T lim s first seen) 16 (some (s, s + widthW T lim s)) := by
  obtain ⟨seen1, e1⟩ := W_branch (T := T) (lim := lim) (s := s) (first := first) (seen := seen)
  refine (GivesN.step (n := 14) rfl (GivesN.eq e1 ?_)).mono (by omega)
  rcases ht with h | h
  · have hw : widthW T lim s = 1 := if_neg (by omega)
    obtain ⟨seen2, e2⟩ := W_lit (T := T) (lim := lim) (s := s) (seen := seen1) (pc := 12) (q := s) (handed := s) (wt := 2) (out := first) (fr := [fB 11 s first, fS 10 s first]) 13 (by decide) rfl rfl hs false (beq_eq_false_iff_ne.mpr (by omega))
    obtain ⟨seen3, e3⟩ := W_lit (T := T) (lim := lim) (s := s) (seen := seen2) (pc := 19) (q := s) (handed := s) (wt := 2) (out := first) (fr := [fB 18 s first, fS 10 s first]) 10 (by decide) rfl rfl hs true (beq_iff_eq.mpr h)
    obtain ⟨seen4, e4⟩ := W_jump (T := T) (lim := lim) (s := s) (first := first) (seen := seen3) (pos := s + 1) (handed := s) (wt := 2) (fr := [fB 18 s first, fS 10 s first]) 21 (by decide)
    rw [hw]
    exact (GivesN.step rfl (GivesN.eq e2 (GivesN.step rfl (GivesN.eq W_branch2 (GivesN.step rfl (GivesN.eq e3 (GivesN.step rfl (GivesN.eq e4 (W_out _ _))))))))).mono (by omega)
  · obtain ⟨seen2, e2⟩ := W_lit (T := T) (lim := lim) (s := s) (seen := seen1) (pc := 12) (q := s) (handed := s) (wt := 2) (out := first) (fr := [fB 11 s first, fS 10 s first]) 13 (by decide) rfl rfl hs true (beq_iff_eq.mpr h)
    refine (GivesN.step (n := 13) rfl (GivesN.eq e2 ?_)).mono (by omega)
    by_cases h2 : s + 1 < lim ∧ T.getD (s + 1) 0 = 10
    · have hw : widthW T lim s = 2 := if_pos ⟨h, h2⟩
      obtain ⟨seen3, e3⟩ := W_lit (T := T) (lim := lim) (s := s) (seen := seen2) (pc := 14) (q := s + 1) (handed := s) (wt := 2) (out := first) (fr := [fB 11 s first, fS 10 s first]) 10 (by decide) rfl rfl h2.1 true (beq_iff_eq.mpr h2.2)
      obtain ⟨seen4, e4⟩ := W_jump (T := T) (lim := lim) (s := s) (first := first) (seen := seen3) (pos := s + 1 + 1) (handed := s) (wt := 2) (fr := [fB 11 s first, fS 10 s first]) 16 (by decide)
      rw [hw]
      exact (GivesN.step rfl (GivesN.eq e3 (GivesN.step rfl (GivesN.eq e4 (W_out _ _))))).mono (by omega)
    · have hw : widthW T lim s = 1 := if_neg (fun x => h2 x.2)
      have look : ∀ (pc : Nat) seen handed out fr wt, pc < 36 → codeW.toArray.getD pc 0 = 16 → codeW.toArray.getD (pc + 1) 0 = 10 → ∃ seen', (wst codeW T lim s seen pc (s + 1) handed out fr wt none).step = wst codeW T lim s seen' pc (s + 1) handed out fr wt (some false) := by
        intro pc seen handed out fr wt hp hc hc1
        by_cases hl : s + 1 < lim
        · obtain ⟨seen3, e3⟩ := W_lit (T := T) (lim := lim) (s := s) (seen := seen) (pc := pc) (q := s + 1) (handed := handed) (wt := wt) (out := out) (fr := fr) 10 hp hc hc1 hl false (beq_eq_false_iff_ne.mpr fun e => h2 ⟨hl, e⟩)
          exact ⟨seen3, e3⟩
        · exact W_end hp hc hl
      obtain ⟨seen3, e3⟩ := look 14 seen2 s first [fB 11 s first, fS 10 s first] 2 (by decide) rfl rfl
      obtain ⟨seen4, e4⟩ := W_lit (T := T) (lim := lim) (s := s) (seen := seen3) (pc := 19) (q := s) (handed := s) (wt := 2) (out := first) (fr := [fB 18 s first, fS 10 s first]) 10 (by decide) rfl rfl hs false (beq_eq_false_iff_ne.mpr (by omega))
      obtain ⟨seen5, e5⟩ := W_lit (T := T) (lim := lim) (s := s) (seen := seen4) (pc := 24) (q := s) (handed := s) (wt := 2) (out := first) (fr := [fB 23 s first, fS 10 s first]) 13 (by decide) rfl rfl hs true (beq_iff_eq.mpr h)
      obtain ⟨seen6, e6⟩ := W_not (T := T) (lim := lim) (s := s) (first := first) (seen := seen5) (pos := s + 1) (handed := s)
      obtain ⟨seen7, e7⟩ := look 29 seen6 (s + 1) false [fN 26 (s + 1) first, fB 23 s first, fS 10 s first] 3 (by decide) rfl rfl
      obtain ⟨seen8, e8⟩ := W_jump (T := T) (lim := lim) (s := s) (first := first) (seen := seen7) (pos := s + 1) (handed := s + 1) (wt := 2) (fr := [fB 23 s first, fS 10 s first]) 32 (by decide)
      rw [hw]
      exact (GivesN.step rfl (GivesN.eq e3 (GivesN.step rfl (GivesN.eq W_branch2 (GivesN.step rfl (GivesN.eq e4 (GivesN.step rfl (GivesN.eq W_branch3 (GivesN.step rfl (GivesN.eq e5 (GivesN.step rfl (GivesN.eq e6 (GivesN.step rfl (GivesN.eq e7 (GivesN.step rfl (GivesN.eq W_notRes (GivesN.step rfl (GivesN.eq e8 (W_out _ _))))))))))))))))))).mono (by omega)
noncomputable def findW (T : Array Nat) (lim : Nat) : (n s : Nat) → Option (Nat × Nat)
  | 0, _ => none
  | n + 1, s => if T.getD s 0 = 10 ∨ T.getD s 0 = 13 then some (s, s + widthW T lim s) else findW T lim n (s + 1)
theorem inSetW (c : Nat) (seen : Sre.Seen) : ∃ seen', Sre.inSet codeW.toArray c 36 5 true seen = .ok (decide (c = 10 ∨ c = 13), seen') := by
  show ∃ seen', (if (c == 10) = true then _ else if (c == 13) = true then _ else _) = _
  by_cases h : c = 10
  · exact ⟨_, by rw [if_pos (by simp [h]), show decide (c = 10 ∨ c = 13) = true from by simp [h]]⟩
  · by_cases h2 : c = 13
    · exact ⟨_, by rw [if_neg (by simp [h]), if_pos (by simp [h2]), show decide (c = 10 ∨ c = 13) = true from by simp [h2]]⟩
    · exact ⟨_, by rw [if_neg (by simp [h]), if_neg (by simp [h2]), show decide (c = 10 ∨ c = 13) = false from by simp [h, h2]]; rfl⟩
theorem admittedW (m : Sre.M) (hc : m.code = codeW.toArray) (hl : m.lim = lim) (ht : m.text = T) : ∀ (n fuel s : Nat) (seen : Sre.Seen), s + n = lim → n ≤ fuel →
    ∃ seen', m.admitted fuel s seen = .ok ((findW T lim n s).map (·.1), seen') ∧ ∀ a b, findW T lim n s = some (a, b) → s ≤ a ∧ a < lim ∧ (T.getD a 0 = 10 ∨ T.getD a 0 = 13) ∧ b = a + widthW T lim a
  | 0, 0, s, seen, _, _ => ⟨seen, rfl, fun _ _ h => nomatch h⟩
  | 0, fuel + 1, s, seen, h, _ => ⟨seen, by unfold Sre.M.admitted; rw [if_pos (by omega)]; rfl, fun _ _ h => nomatch h⟩
  | n + 1, 0, s, seen, h, h2 => absurd h2 (by omega)
  | n + 1, fuel + 1, s, seen, h, h2 => by
    unfold Sre.M.admitted findW
    rw [if_neg (by omega), hc, ht]
    obtain ⟨seen', e⟩ := inSetW (T.getD s 0) seen
    rw [show codeW.toArray.size = 36 from rfl, e]
    by_cases hd : T.getD s 0 = 10 ∨ T.getD s 0 = 13
    · rw [if_pos hd, show decide (T.getD s 0 = 10 ∨ T.getD s 0 = 13) = true from decide_eq_true hd]
      exact ⟨_, rfl, fun a b e => by cases e; exact ⟨Nat.le_refl _, by omega, hd, rfl⟩⟩
    · rw [if_neg hd, show decide (T.getD s 0 = 10 ∨ T.getD s 0 = 13) = false from decide_eq_false hd]
      obtain ⟨seen2, e2, e3⟩ := admittedW m hc hl ht n fuel (s + 1) seen' (by omega) (by omega)
      exact ⟨seen2, e2, fun a b e => by have := e3 a b e; omega⟩
theorem searchW {p : Nat} (hp : p ≤ lim) : GivesN (Sre.forSearch codeW.toArray T 0 p lim false) 17 (findW T lim (lim - p) p) := by
  have e : Sre.forSearch codeW.toArray T 0 p lim false = (if (decide (p > lim) || decide (lim - p < 1)) = true then Sre.M.say (m0 codeW 10 T lim |> fun m => { m with start := p, pos := p, handed := p }) false else
    (match Sre.M.admitted (m0 codeW 10 T lim |> fun m => { m with start := p, pos := p, handed := p, lastStart := lim }) (lim + 1 - p) p (m0 codeW 10 T lim).seen with
      | .ok (some s, seen) => stW T lim s true seen
      | .ok (none, seen) => Sre.M.say (m0 codeW 10 T lim |> fun m => { m with start := p, pos := p, handed := p, lastStart := lim, seen }) false
      | .error why => Sre.M.stick (m0 codeW 10 T lim |> fun m => { m with start := p, pos := p, handed := p, lastStart := lim }) why)) := rfl
  by_cases h : p < lim
  · rw [e, if_neg (by simp; omega)]
    obtain ⟨seen', e2, e3⟩ := admittedW (lim := lim) (T := T) (m0 codeW 10 T lim |> fun m => { m with start := p, pos := p, handed := p, lastStart := lim }) rfl rfl rfl (lim - p) (lim + 1 - p) p (m0 codeW 10 T lim).seen (by omega) (by omega)
    rw [e2]
    cases hf : findW T lim (lim - p) p with
    | none => exact ⟨1, _, rfl, by omega, fin_failed _ rfl rfl rfl⟩
    | some ab =>
      obtain ⟨a, b⟩ := ab
      obtain ⟨h1, h2, h3, h4⟩ := e3 a b hf
      rw [h4]
      exact (runW h2 h3).mono (by omega)
  · rw [e, if_pos (by simp; omega), show lim - p = 0 by omega]
    exact ⟨1, _, rfl, by omega, fin_failed _ rfl rfl rfl⟩
end
end Mine
end
section
theorem Mine.wTop_Sub : True ∧ True := by
  w_top off
  (try (walk1; fail))
  exact ⟨trivial, trivial⟩
open PySem PySem.W PyProof.Rows PySem.Calls PySem.Spec
set_option Elab.async false
set_option maxRecDepth 100000
namespace Mine
open Builtin.Re
noncomputable def subL (find : Nat → Option (Nat × Nat)) (l rep : List Nat) : (fuel p : Nat) → List Nat
  | 0, p => l.drop p
  | f + 1, p => match find p with
    | none => l.drop p
    | some (a, b) => (l.take a).drop p ++ rep ++ subL find l rep f b
theorem joinL_nil : ∀ ps : List (List Nat), joinL [] ps = ps.flatten
  | [] => rfl
  | [a] => by simp [joinL]
  | a :: b :: r => by
    show a ++ [] ++ joinL [] (b :: r) = _
    rw [joinL_nil (b :: r)]; simp
theorem sum_S (ps : List (List Nat)) : ((ps.map S).map (·.length)).sum = ps.flatten.length := by
  induction ps with
  | nil => rfl
  | cons a r ih => simp only [List.map_cons, List.sum_cons, ih, S_length, List.flatten_cons, List.length_append]
theorem strs_snoc {vs : List Value} {ys : List Str} {x : Str} {t : Tok} (h : StrsAre vs ys) : StrsAre (vs ++ [.str x t]) (ys ++ [x]) := by
  induction h with
  | nil => exact .cons _ _ .nil
  | cons _ _ _ ih => exact .cons _ _ ih
section
variable {M : Model} {A : Around} {E : Value → Shared → Prop} {s : Shared} {h₀ : Heap} {L D : Addr} {m : Str → Option Value} {news : List (Addr × Obj)}
theorem push_head {items : List Value} {n : Nat} {x : Value} {Q : Unit → Shared → Prop} (F : Fr h₀ L s.heap m) (N : News h₀ L s.heap ((D, lst items n) :: news)) (hap : ∀ q ∈ news, q.1 ≠ D) (hsz : items.length ≤ 16777000)
    (h : ∀ h', Fr h₀ L h' m → News h₀ L h' ((D, lst (items ++ [x]) (n + 1)) :: news) → Q () { s with heap := h' }) : wpAny M A (updateSeq D (·.push x)) Q E s := by
  have ho := N.get (.head _)
  refine wpAny_updateSeq ho rfl ?_ (by rw [sizeLine_eq, List.size_toArray]; omega) (by rw [sizeLine_eq, Array.size_push, List.size_toArray]; omega)
  have hs := Heap.SameBut.update s.heap D (Obj.mapSeq (·.push x))
  refine h _ (F.change hs (N _ (.head _)).2.1 (N _ (.head _)).2.2) (N.setHead hap hs ?_)
  rw [Heap.get?_update_self _ ho (by rw [mapSeq_push]; rfl), mapSeq_push, List.push_toArray]
theorem whole_wp {a c : Addr} {code : List Nat} {x : Str} {t : Tok} {Q : ReTarget → Shared → Prop} (h : IsPat s.heap a c code) (hq : Q (tgt a c code x t) s) :
    wpAny M A (reWholeTarget (.ref a) (.str x t)) Q E s := by
  obtain ⟨y, u, fl, ft, hp⟩ := h.pat
  unfold reWholeTarget
  refine wpAny_bind (wpAny_fieldsOf hp rfl ?_)
  refine wpAny_bind (wpAny_pure ?_)
  show wpAny M A (reNoCollectionInside (.str x t) 0 >>= _) Q E s
  refine wpAny_bind (wpAny_pure ?_)
  refine wpAny_bind (rawItems_wp h ?_)
  rw [rawNats]
  exact wpAny_pure hq
theorem GivesN.run {m : Sre.M} {n : Nat} {r : Option (Nat × Nat)} (g : GivesN m n r) (hn : n ≤ 2 ^ 64) {Q : Option Sre.M → Shared → Prop}
    (h : match r with | none => Q none s | some (a, b) => ∀ mf : Sre.M, mf.start = a → mf.handed = b → Q (some mf) s) : wpAny M A (reRunToEnd m) Q E s := by
  obtain ⟨k, mf, h1, h2, h3⟩ := g
  refine reRunToEnd_wp h1 (Nat.le_trans h2 hn) ?_
  cases r with
  | none => rw [show mf.outcome = _ from h3]; exact h
  | some ab => 
    obtain ⟨a, b⟩ := ab
    rw [show mf.outcome = _ from h3.1]; exact h mf h3.2.1 h3.2.2
end
theorem S_extract (l : List Nat) (a b : Nat) : (⟨(S l).cps.extract a b⟩ : Str) = S ((l.take b).drop a) := by
  refine S_of ?_
  simp only [S, List.extract_toArray, List.extract_eq_take_drop]
  by_cases h : a ≤ b
  · rw [List.take_drop, show a + (b - a) = b by omega]
  · rw [show b - a = 0 by omega, List.take_zero, List.drop_eq_nil_of_le (Nat.le_trans (List.length_take_le _ _) (by omega))]

section
variable {prog : Program} {w : World} {A : Around} {R : Result → Shared → Prop} {s : Shared} {h₀ : Heap} {L D : Addr} {m : Str → Option Value} {news : List (Addr × Obj)}
theorem codeAny_builtinC {id : String} {args : Args} {b : Builtin} (hb : entryFor table id = some b)
    (h : wpAny (model prog w) (A.under (.builtin id args)) (b args) (fun fin s' => match fin with | .done f => R (.ok f) s' | .again c' => c'.quiet = true ∧ codeAny (model prog w) A c' R s') (fun e s' => R (.error e) s') s) :
    codeAny (model prog w) A (.builtin id args) R s := by
  refine codeAny_of_tree ?_
  show wpAny _ _ (match entryFor table id with | some b => b args | none => unsupported ((withoutEnding? id "#data").getD id)) _ _ s
  rw [hb]; exact h
noncomputable abbrev loopArgs (a : Addr) (l rep : List Nat) (t tr : Tok) (D : Addr) (nn : Int) (p : Nat) : Args :=
  ⟨[.ref a, .str (S l) t, .str (S rep) tr, rawInt 0, rawInt 0, rawInt nn, rawInt (p : Int), rawInt (p : Int), .bool false, .ref D, .bool false], []⟩
set_option maxHeartbeats 1000000 in
theorem sub_loop {a c : Addr} {code l rep : List Nat} {find : Nat → Option (Nat × Nat)} {B : Nat} {t tr : Tok} (hP : IsPat h₀ a c code) (hl : l.length ≤ 1000000) (hr : rep.length ≤ 2)
    (hsearch : ∀ p, p ≤ l.length → GivesN (Sre.forSearch code.toArray l.toArray 0 p l.length false) B (find p)) (hB : B ≤ 2 ^ 64) (hfind : ∀ p a b, p ≤ l.length → find p = some (a, b) → p ≤ a ∧ a < b ∧ b ≤ l.length) :
    ∀ (k p : Nat) (s : Shared) (nn : Int) (items : List Value) (ps : List (List Nat)) (cnt tk₀ : Nat), l.length - p < k → p ≤ l.length → Fr h₀ L s.heap m → News h₀ L s.heap ((D, lst items cnt) :: news) → (∀ q ∈ news, q.1 ≠ D) → StrsAre items (ps.map S) →
      items.length ≤ 2 * p → ps.flatten.length ≤ 3 * p → tk₀ ≤ s.toks → (∀ t h' tk', tk₀ ≤ tk' → Fr h₀ L h' m → News h₀ L h' news → R (.ok (.ret (.str (S (ps.flatten ++ subL find l rep k p)) t))) { s with heap := h', toks := tk' }) →
      codeAny (model prog w) A (.builtin "re.Pattern.sub.loop" (loopArgs a l rep t tr D nn p)) R s := by
  intro k
  induction k with
  | zero => intro p s nn items ps cnt tk₀ h; omega
  | succ k ih =>
    intro p s nn items ps cnt tk₀ hk hp F N hap hS hi hf htk bk
    refine codeAny_builtinC entry_subloop ?_
    unfold Builtin.«re.Pattern.sub.loop»
    refine wpAny_bind (whole_wp (hP.keeps F.keep) ?_)
    show wpAny _ _ (reLiteralCannotBeTurned (.str (S rep) tr) >>= _) _ _ _
    refine wpAny_bind (wpAny_pure ?_)
    show wpAny _ _ (reNextFound (tgt a c code (S l) t) p false >>= _) _ _ _
    unfold reNextFound
    refine wpAny_bind (GivesN.run (hsearch p hp) hB ?_)
    unfold subL at bk
    have hff := hfind p
    cases hfp : find p with
    | none =>
      rw [hfp] at bk
      dsimp only at bk ⊢
      have fin : ∀ (h1 : Heap) (tk1 : Nat) (items' : List Value) (ps' : List (List Nat)) (cnt' : Nat), Fr h₀ L h1 m → News h₀ L h1 ((D, lst items' cnt') :: news) → StrsAre items' (ps'.map S) → tk₀ ≤ tk1 → ps'.flatten = ps.flatten ++ l.drop p →
          wpAny (model prog w) (A.under (.builtin "re.Pattern.sub.loop" (loopArgs a l rep t tr D nn p)))
            (reSlice (S l).cps 0 0 0 >>= fun joiner => seqItems? (.ref D) >>= fun its => if (its.getD #[]).isEmpty = true then pure joiner >>= fun text => ret text else call (.builtin "str.join") [joiner, .ref D] >>= fun text => ret text)
            (fun fin s' => match fin with | .done f => R (.ok f) s' | .again c' => c'.quiet = true ∧ codeAny (model prog w) A c' R s') (fun e s' => R (.error e) s') { s with heap := h1, toks := tk1 } := by
        intro h1 tk1 items' ps' cnt' F1 N1 hS1 htk1 hps
        have e0 : (⟨(S l).cps.extract 0 0⟩ : Str) = S [] := by rw [S_extract]; simp
        show wpAny _ _ (mkStr ⟨(S l).cps.extract 0 0⟩ >>= _) _ _ _
        rw [e0]
        refine wpAny_bind (wpAny_mkStr ?_ (by rw [S_length]; decide))
        refine wpAny_bind (wpAny_seqItems (N1.get (.head _)) rfl ?_)
        refine wpAny_ite ?_
        cases items' with
        | nil =>
          cases ps' with
          | cons _ _ => cases hS1
          | nil =>
            refine W.ite_pos (by rfl) ?_
            refine wpAny_bind (wpAny_pure (wpAny_pure ?_))
            have := bk tk1 h1 (tk1 + 1) (by omega) F1 (News.sub N1 fun q hq => List.mem_cons_of_mem _ hq)
            rw [← hps] at this
            exact this
        | cons v items' =>
          rw [if_neg (by simp)]
          refine wpAny_bind (joinM ⟨_, N1.get (.head _), rfl, _, rfl⟩ hS1 ?_ ?_)
          · rw [sum_S, hps, List.length_append, List.length_drop, S_length]; simp only [List.length_nil]; omega
          · intro t' k' hk'
            refine wpAny_pure ?_
            have := bk t' h1 k' (by have : tk1 + 1 ≤ k' := hk'; omega) F1 (News.sub N1 fun q hq => List.mem_cons_of_mem _ hq)
            rw [txt_joinS, joinL_nil, hps]
            exact this
      by_cases hx : p < l.length
      · refine wpAny_ite ?_
        rw [if_pos (by show ((p : Int)).toNat < (S l).cps.size; simp [S]; omega)]
        refine wpAny_bind ?_
        show wpAny _ _ (mkStr ⟨(S l).cps.extract p (S l).cps.size⟩) _ _ _
        rw [S_extract, show (S l).cps.size = l.length by simp [S], List.take_length]
        refine wpAny_mkStr ?_ (by rw [S_length, List.length_drop, sizeLine_eq]; omega)
        refine wpAny_bind (push_head (s := { s with heap := s.heap, toks := s.toks + 1 }) F N hap (by omega) fun h1 F1 N1 => ?_)
        exact fin h1 _ _ (ps ++ [l.drop p]) _ F1 N1 (by rw [List.map_append]; exact strs_snoc hS) (by show tk₀ ≤ s.toks + 1; omega) (by simp)
      · refine wpAny_ite ?_
        rw [if_neg (by show ¬ ((p : Int)).toNat < (S l).cps.size; simp [S]; omega)]
        exact fin s.heap s.toks items ps cnt F N hS htk (by rw [List.drop_eq_nil_of_le (by omega)]; simp)
    | some ab =>
      obtain ⟨x, y⟩ := ab
      obtain ⟨h1, h2, h3⟩ := hff x y hp hfp
      rw [hfp] at bk
      dsimp only at bk ⊢
      intro mf e1 e2
      rw [e1, e2]
      have tail : ∀ (h1 : Heap) (tk1 : Nat) (items' : List Value) (ps' : List (List Nat)) (cnt' : Nat), Fr h₀ L h1 m → News h₀ L h1 ((D, lst items' cnt') :: news) → StrsAre items' (ps'.map S) → tk₀ ≤ tk1 → items'.length ≤ 2 * p + 1 → ps'.flatten = ps.flatten ++ (l.take x).drop p →
          wpAny (model prog w) (A.under (.builtin "re.Pattern.sub.loop" (loopArgs a l rep t tr D nn p)))
            (updateSeq D (fun x => x.push (.str (S rep) tr)) >>= fun _ => again (Code.builtin "re.Pattern.sub.loop" ⟨[Value.ref a, Value.str (S l) t, Value.str (S rep) tr, rawInt 0, rawInt 0, rawInt (nn + 1), rawInt (y : Int), rawInt (y : Int), Value.bool (y == x), Value.ref D, Value.bool false], []⟩))
            (fun fin s' => match fin with | .done f => R (.ok f) s' | .again c' => c'.quiet = true ∧ codeAny (model prog w) A c' R s') (fun e s' => R (.error e) s') { s with heap := h1, toks := tk1 } := by
        intro h1 tk1 items' ps' cnt' F1 N1 hS1 htk1 hi1 hps
        refine wpAny_bind (push_head (s := { s with heap := h1, toks := tk1 }) F1 N1 hap (by omega) fun h2 F2 N2 => wpAny_pure ⟨Code.quiet_builtin _ (by decide +kernel), ?_⟩)
        rw [show (y == x) = false from beq_eq_false_iff_ne.mpr (by omega)]
        refine ih y { s with heap := h2, toks := tk1 } (nn + 1) _ (ps' ++ [rep]) _ tk₀ (by omega) h3 F2 N2 hap (by rw [List.map_append]; exact strs_snoc hS1) (by simp; omega) ?_ htk1 ?_
        · rw [List.flatten_append, hps]; simp only [List.length_append, List.flatten_cons, List.flatten_nil, List.append_nil, List.length_drop, List.length_take]; omega
        · intro t' h' tk' l1 l2 l3
          have := bk t' h' tk' l1 l2 l3
          rw [List.flatten_append, hps]
          simpa only [List.append_assoc, List.flatten_cons, List.flatten_nil, List.append_nil] using this
      by_cases hx : p < x
      · refine wpAny_ite ?_
        rw [if_pos (by simpa using hx)]
        refine wpAny_bind ?_
        show wpAny _ _ (mkStr ⟨(S l).cps.extract p x⟩) _ _ _
        rw [S_extract]
        refine wpAny_mkStr ?_ (by rw [S_length, List.length_drop, List.length_take, sizeLine_eq]; omega)
        refine wpAny_bind (push_head (s := { s with heap := s.heap, toks := s.toks + 1 }) F N hap (by omega) fun h1 F1 N1 => ?_)
        exact tail h1 _ _ (ps ++ [(l.take x).drop p]) _ F1 N1 (by rw [List.map_append]; exact strs_snoc hS) (by show tk₀ ≤ s.toks + 1; omega) (by simp; omega) (by simp)
      · refine wpAny_ite ?_
        rw [if_neg (by simpa using hx)]
        exact tail s.heap s.toks items ps cnt F N hS htk (by omega) (by rw [List.drop_eq_nil_of_le (by rw [List.length_take]; omega)]; simp)

theorem sub_entry {a c : Addr} {code l rep : List Nat} {find : Nat → Option (Nat × Nat)} {B : Nat} {t tr : Tok} {E : Value → Shared → Prop} {Q : Value → Shared → Prop} (hP : IsPat h₀ a c code) (hl : l.length ≤ 1000000) (hr : rep.length ≤ 2) (hrep : rep.contains 92 = false)
    (hsearch : ∀ p, p ≤ l.length → GivesN (Sre.forSearch code.toArray l.toArray 0 p l.length false) B (find p)) (hB : B ≤ 2 ^ 64) (hfind : ∀ p a b, p ≤ l.length → find p = some (a, b) → p ≤ a ∧ a < b ∧ b ≤ l.length)
    (F : Fr h₀ L s.heap m) (N : News h₀ L s.heap news)
    (hq : ∀ t h' tk', s.toks ≤ tk' → Fr h₀ L h' m → News h₀ L h' news → Q (.str (S (subL find l rep (l.length + 1) 0)) t) { s with heap := h', toks := tk' }) :
    wpAny (model prog w) A (call (.builtin "re.Pattern.sub") [.ref a, .str (S rep) tr, .str (S l) t]) Q E s := by
  have hP' := hP.keeps F.keep
  refine wpAny_call (codeAny_call_builtin slot_sub.plain entry_sub (slot_sub.check _ _ _ _ _ _ _ _ hP'.typeIs (args_sub_3 _ _ _) ?_))
  unfold Builtin.«re.Pattern.sub» reSubstitute
  show wpAny _ _ (reNamed _ _ _ _ [.str (S rep) tr, .str (S l) t] [] >>= _) _ _ _
  refine wpAny_bind (wpAny_of_eq (a := [some (.str (S rep) tr), some (.str (S l) t), none]) rfl ?_)
  dsimp only
  refine wpAny_bind (wpAny_pure ?_)
  refine wpAny_bind (wpAny_specialOf_val (r := none) (T := "str") rfl (by rw [typeLookup_type, builtinLookup_eq_fast]; kernel_rfl) ?_)
  refine wpAny_ite (W.ite_neg (by decide) ?_)
  refine wpAny_bind (wpAny_pure ?_)
  dsimp only
  refine wpAny_bind (wpAny_pure ?_)
  refine wpAny_ite (W.ite_neg (by decide) ?_)
  refine wpAny_ite (W.ite_pos (by show (!(rep.toArray.contains 92)) = true; simpa using hrep) ?_)
  refine wpAny_bind (wpAny_pure ?_)
  refine wpAny_bind (wpAny_holding (whole_wp hP' ?_))
  refine wpAny_ite (W.ite_neg (by show ¬ ((0 : Nat) == 1) = true; decide) ?_)
  refine wpAny_bind (newList_K F N (fun D h' F' N' lt => ?_) (by decide))
  refine wpAny_pure ⟨Code.quiet_builtin _ (by decide +kernel), ?_⟩
  refine sub_loop hP hl hr hsearch hB hfind (l.length + 1) 0 _ 0 [] [] 0 s.toks (by omega) (by omega) F' N' (fun q hq => Nat.ne_of_lt (lt q hq)) .nil (by simp) (by simp) (Nat.le_refl _) ?_
  intro t' h'' tk' l1 l2 l3
  exact hq t' h'' tk' l1 l2 l3
end

/- quotedata in plain lists -/
noncomputable def nrm : List Nat → List Nat
  | [] => []
  | [c] => if c = 10 ∨ c = 13 then [13, 10] else [c]
  | c :: d :: r => if c = 13 ∧ d = 10 then 13 :: 10 :: nrm r else if c = 10 ∨ c = 13 then 13 :: 10 :: nrm (d :: r) else c :: nrm (d :: r)
noncomputable def dts : Bool → List Nat → List Nat
  | _, [] => []
  | b, c :: r => if b = true ∧ c = 46 then 46 :: 46 :: dts false r else c :: dts (c == 10) r
noncomputable def qd (l : List Nat) : List Nat := dts true (nrm l)
theorem drop_succ {l : List Nat} {p : Nat} (h : p < l.length) : l.drop p = l.getD p 0 :: l.drop (p + 1) := by
  rw [List.drop_eq_getElem_cons h]; simp [h]
theorem slice_succ {l : List Nat} {p a : Nat} (h : p < l.length) (ha : p < a) : (l.take a).drop p = l.getD p 0 :: (l.take a).drop (p + 1) := by
  rw [drop_succ (by rw [List.length_take]; omega)]
  congr 1
  simp [List.getElem?_take, ha]
theorem getD_arr (l : List Nat) (p : Nat) : l.toArray.getD p 0 = l.getD p 0 := by simp [Array.getD_eq_getD_getElem?]
/-- any way to find is fine that agrees with a function of the rest -/
theorem subL_eq {find : Nat → Option (Nat × Nat)} {l rep : List Nat} {G : Nat → List Nat} (hfind : ∀ p a b, p ≤ l.length → find p = some (a, b) → p ≤ a ∧ a < b ∧ b ≤ l.length)
    (h1 : ∀ p, p ≤ l.length → find p = none → G p = l.drop p) (h2 : ∀ p a b, p ≤ l.length → find p = some (a, b) → G p = (l.take a).drop p ++ rep ++ G b) :
    ∀ k p, l.length - p < k → p ≤ l.length → subL find l rep k p = G p
  | 0, p, h, _ => absurd h (by omega)
  | k + 1, p, h, hp => by
    unfold subL
    have hf := hfind p
    have g1 := h1 p hp
    have g2 := h2 p
    cases e : find p with
    | none => exact (g1 e).symm
    | some ab =>
      obtain ⟨a, b⟩ := ab
      have hh := hf a b hp e
      dsimp only
      rw [subL_eq hfind h1 h2 k b (by omega) hh.2.2, g2 a b hp e]
theorem findD_le (T : Array Nat) : ∀ (n s a b : Nat), findD T n s = some (a, b) → s ≤ a ∧ a < s + n ∧ b = a + 1
  | 0, s, a, b, h => nomatch h
  | n + 1, s, a, b, h => by
    unfold findD at h
    split at h
    · cases h; omega
    · have := findD_le T n (s + 1) a b h; omega
theorem dts_false {c : Nat} {r : List Nat} : dts false (c :: r) = c :: dts (c == 10) r := by simp [dts]
theorem dts_ne {b : Bool} {c : Nat} {r : List Nat} (h : ¬ (b = true ∧ c = 46)) : dts b (c :: r) = c :: dts (c == 10) r := by simp only [dts, if_neg h]
theorem dts_dot {r : List Nat} : dts true (46 :: r) = 46 :: 46 :: dts false r := by simp [dts]
theorem bol_succ (l : List Nat) (p : Nat) : bol l.toArray (p + 1) = (l.getD p 0 == 10) := by
  unfold bol
  rw [getD_arr, Nat.add_sub_cancel]
  simp
theorem findD_dts (l : List Nat) : ∀ (n p : Nat), p + n = l.length → match findD l.toArray n p with
    | none => dts (bol l.toArray p) (l.drop p) = l.drop p
    | some (a, b) => dts (bol l.toArray p) (l.drop p) = (l.take a).drop p ++ [46, 46] ++ dts (bol l.toArray b) (l.drop b)
  | 0, p, h => by
    show dts _ _ = _
    rw [List.drop_eq_nil_of_le (by omega)]; rfl
  | n + 1, p, h => by
    have hp : p < l.length := by omega
    unfold findD
    rw [getD_arr]
    by_cases hc : bol l.toArray p = true ∧ l.getD p 0 = 46
    · rw [if_pos hc]
      dsimp only
      rw [drop_succ hp, hc.1, hc.2, dts_dot, bol_succ, hc.2, List.drop_eq_nil_of_le (as := l.take p) (by rw [List.length_take]; omega)]
      rfl
    · rw [if_neg hc]
      have ih := findD_dts l n (p + 1) (by omega)
      have hle := findD_le l.toArray n (p + 1)
      rw [drop_succ hp, dts_ne hc, ← bol_succ]
      cases e : findD l.toArray n (p + 1) with
      | none => rw [e] at ih; dsimp only at ih ⊢; rw [ih]
      | some ab =>
        obtain ⟨a, b⟩ := ab
        rw [e] at ih
        dsimp only at ih ⊢
        rw [ih, slice_succ hp (by have := hle a b e; omega)]
        rfl
theorem findW_le (T : Array Nat) (lim : Nat) : ∀ (n s a b : Nat), findW T lim n s = some (a, b) → s ≤ a ∧ a < s + n ∧ b = a + widthW T lim a ∧ (T.getD a 0 = 10 ∨ T.getD a 0 = 13)
  | 0, s, a, b, h => nomatch h
  | n + 1, s, a, b, h => by
    unfold findW at h
    split at h
    · cases h; exact ⟨Nat.le_refl _, by omega, rfl, by assumption⟩
    · have := findW_le T lim n (s + 1) a b h; omega
theorem nrm_end {c : Nat} {r : List Nat} (h : c = 10 ∨ c = 13) (h2 : ¬ (c = 13 ∧ ∃ q, r = 10 :: q)) : nrm (c :: r) = 13 :: 10 :: nrm r := by
  cases r with
  | nil => simp [nrm, h]
  | cons d r => 
    have h3 : ¬ (c = 13 ∧ d = 10) := fun x => h2 ⟨x.1, r, by rw [x.2]⟩
    simp only [nrm, if_neg h3, if_pos h]
theorem nrm_two {r : List Nat} : nrm (13 :: 10 :: r) = 13 :: 10 :: nrm r := by simp [nrm]
theorem nrm_other {c : Nat} {r : List Nat} (h : ¬ (c = 10 ∨ c = 13)) : nrm (c :: r) = c :: nrm r := by
  cases r with
  | nil => simp [nrm, h]
  | cons d r => 
    have h3 : ¬ (c = 13 ∧ d = 10) := fun x => h (.inr x.1)
    simp only [nrm, if_neg h3, if_neg h]
theorem findW_nrm (l : List Nat) : ∀ (n p : Nat), p + n = l.length → match findW l.toArray l.length n p with
    | none => nrm (l.drop p) = l.drop p
    | some (a, b) => nrm (l.drop p) = (l.take a).drop p ++ [13, 10] ++ nrm (l.drop b)
  | 0, p, h => by
    show nrm _ = _
    rw [List.drop_eq_nil_of_le (by omega)]; rfl
  | n + 1, p, h => by
    have hp : p < l.length := by omega
    unfold findW
    rw [getD_arr]
    by_cases hc : l.getD p 0 = 10 ∨ l.getD p 0 = 13
    · rw [if_pos hc]
      dsimp only
      unfold widthW
      rw [getD_arr, getD_arr, List.drop_eq_nil_of_le (as := l.take p) (by rw [List.length_take]; omega)]
      by_cases hw : l.getD p 0 = 13 ∧ p + 1 < l.length ∧ l.getD (p + 1) 0 = 10
      · rw [if_pos hw, drop_succ hp, drop_succ hw.2.1, hw.1, hw.2.2, nrm_two]
        rfl
      · rw [if_neg hw, drop_succ hp, nrm_end hc]
        · rfl
        · rintro ⟨x, q, e⟩
          have hl1 : p + 1 < l.length := by
            have := congrArg List.length e
            rw [List.length_drop, List.length_cons] at this; omega
          rw [drop_succ hl1] at e
          exact hw ⟨x, hl1, (List.cons.inj e).1⟩
    · rw [if_neg hc]
      have ih := findW_nrm l n (p + 1) (by omega)
      have hle := findW_le l.toArray l.length n (p + 1)
      rw [drop_succ hp, nrm_other hc]
      cases e : findW l.toArray l.length n (p + 1) with
      | none => rw [e] at ih; dsimp only at ih ⊢; rw [ih]
      | some ab =>
        obtain ⟨a, b⟩ := ab
        rw [e] at ih
        dsimp only at ih ⊢
        rw [ih, slice_succ hp (by have := hle a b e; omega)]
        rfl
section
variable {prog : Program} {w : World} {A : Around} {s : Shared} {h₀ : Heap} {L : Addr} {m : Str → Option Value} {news : List (Addr × Obj)} {E Q : Value → Shared → Prop}
theorem patD {h : Heap} (X : (KF w.params).In h) : IsPat h 92 91 codeD := ⟨⟨_, _, _, _, X 92 _ rfl⟩, ⟨_, X 91 _ rfl⟩⟩
theorem patW {h : Heap} (X : (KF w.params).In h) : IsPat h 97 96 codeW := ⟨⟨_, _, _, _, X 97 _ rfl⟩, ⟨_, X 96 _ rfl⟩⟩
theorem subD {l : List Nat} {t tr : Tok} (F : Fr h₀ L s.heap m) (N : News h₀ L s.heap news) (X : (KF w.params).In h₀) (hl : l.length ≤ 1000000)
    (hq : ∀ t h' tk', s.toks ≤ tk' → Fr h₀ L h' m → News h₀ L h' news → Q (.str (S (dts true l)) t) { s with heap := h', toks := tk' }) :
    wpAny (model prog w) A (call (.builtin "re.Pattern.sub") [.ref 92, .str (S [46, 46]) tr, .str (S l) t]) Q E s := by
  refine sub_entry (patD X) (B := 8 * (l.length + 2)) (find := fun p => findD l.toArray (l.length - p) p) hl (by decide) (by decide) (fun p hp => searchD hp) (by omega)
    (fun p a b hp e => by have := findD_le _ _ _ _ _ e; omega) F N ?_
  intro t' h' tk' l1 l2 l3
  rw [subL_eq (G := fun p => dts (bol l.toArray p) (l.drop p)) (fun p a b hp e => by have := findD_le _ _ _ _ _ e; omega)
    (fun p hp e => by have := findD_dts l (l.length - p) p (by omega); rw [e] at this; exact this)
    (fun p a b hp e => by have := findD_dts l (l.length - p) p (by omega); rw [e] at this; exact this) _ 0 (by omega) (by omega)]
  exact hq t' h' tk' l1 l2 l3
theorem subW {l : List Nat} {t tr : Tok} (F : Fr h₀ L s.heap m) (N : News h₀ L s.heap news) (X : (KF w.params).In h₀) (hl : l.length ≤ 1000000)
    (hq : ∀ t h' tk', s.toks ≤ tk' → Fr h₀ L h' m → News h₀ L h' news → Q (.str (S (nrm l)) t) { s with heap := h', toks := tk' }) :
    wpAny (model prog w) A (call (.builtin "re.Pattern.sub") [.ref 97, .str (S [13, 10]) tr, .str (S l) t]) Q E s := by
  have hle : ∀ p a b, p ≤ l.length → findW l.toArray l.length (l.length - p) p = some (a, b) → p ≤ a ∧ a < b ∧ b ≤ l.length := fun p a b hp e => by
    obtain ⟨h1, h2, h3, h4⟩ := findW_le _ _ _ _ _ _ e
    unfold widthW at h3
    split at h3 <;> omega
  refine sub_entry (patW X) (B := 17) (find := fun p => findW l.toArray l.length (l.length - p) p) hl (by decide) (by decide) (fun p hp => searchW hp) (by omega)
    hle F N ?_
  intro t' h' tk' l1 l2 l3
  rw [subL_eq (G := fun p => nrm (l.drop p)) hle
    (fun p hp e => by have := findW_nrm l (l.length - p) p (by omega); rw [e] at this; exact this)
    (fun p a b hp e => by have := findW_nrm l (l.length - p) p (by omega); rw [e] at this; exact this) _ 0 (by omega) (by omega)]
  exact hq t' h' tk' l1 l2 l3
end
end Mine
end
section
theorem Mine.wTop_Pct : True ∧ True := by
  w_top off
  (try (walk1; fail))
  exact ⟨trivial, trivial⟩
open PySem PySem.W PyProof.Rows PySem.Calls PySem.Spec
set_option Elab.async false
set_option maxRecDepth 100000
namespace Mine
theorem fillKPct : (KF, PySem.Challenge.rw_jc0034_01) = (KF, PySem.Challenge.rw_jc0034_01) := by k_fill; rfl
set_option maxHeartbeats 2000000 in
theorem mod_meets (x y : Str) (t t1 t2 : Tok) (b : Addr) (hx : x.length ≤ 1000000) (hy : y.length ≤ 1000000) :
    Meets (Builtin.«str.__mod__» ⟨[.str (Str.mk #[37, 115, 58, 32, 37, 115]) t, .ref b], []⟩) (fun _ R s => IsTup s.heap b #[.str x t1, .str y t2] ∧ ∀ t' k, R (.ok (.ret (.str (x ++ Str.mk #[58, 32] ++ y) t'))) { s with toks := k }) := by
  kpt_run
theorem mod_pair {prog : Program} {w : World} {A : Around} {E : Value → Shared → Prop} {s : Shared} {t t1 t2 : Tok} {Q : Value → Shared → Prop} {b L : Addr} {h₀ : Heap} {news : List (Addr × Obj)} {x y : List Nat}
    (N : News h₀ L s.heap news) (hb : (b, tup [.str (S x) t1, .str (S y) t2]) ∈ news) (hx : x.length ≤ 1000000) (hy : y.length ≤ 1000000)
    (h : ∀ t' k, s.toks ≤ k → Q (.str (S (x ++ [58, 32] ++ y)) t') { s with toks := k }) : wpAny (model prog w) A (binaryOp .Mod (.str (Str.ofString "%s: %s") t) (.ref b)) Q E s :=
  wpAny_with_toks (Nat.le_refl _) (KPt.mod_tuple N hb (by decide +kernel) (mod_meets (S x) (S y) t t1 t2 b (by rw [S_length]; exact hx) (by rw [S_length]; exact hy)) fun t' k ht => by
    have e : S x ++ Str.mk #[58, 32] ++ S y = S (x ++ [58, 32] ++ y) := by rw [← S_append, ← S_append]; rfl
    rw [e]; exact h t' k ht)
end Mine
end
section
theorem Mine.wTop_Bk : True ∧ True := by
  w_top off
  (try (walk1; fail))
  exact ⟨trivial, trivial⟩
open PySem PySem.W PyProof.Rows PySem.Calls PySem.Spec
set_option maxRecDepth 100000
namespace Mine
theorem none_bk {w : World} {h : Heap} (X : (KF w.params).In h) : NoneBooked h := by
  have e := X 2 _ rfl
  refine ⟨_, ⟨_, _, _, e, rfl, ?_, fun _ => rfl⟩, rfl⟩
  intro e he
  simp only [List.mem_toArray, List.mem_cons, List.not_mem_nil, or_false] at he
  rcases he with rfl | rfl | rfl | rfl | rfl | rfl | rfl | rfl | rfl <;> exact ⟨_, _, rfl⟩
end Mine
end
section
theorem Mine.wTop_Lch : True ∧ True := by
  w_top off
  (try (walk1; fail))
  exact ⟨trivial, trivial⟩
open PySem PySem.W PyProof.Rows PySem.Calls PySem.Spec
set_option maxRecDepth 100000
namespace Mine
theorem strs_of_carried : ∀ {vs : List Value} {ys : List Str}, CarriedAll vs (ys.map PyData.str) → StrsAre vs ys
  | _, [], h => by cases h; exact .nil
  | _, y :: r, h => by
    cases h with
    | cons h1 h2 => cases h1; exact .cons _ _ (strs_of_carried h2)
section
variable {prog : Program} {w : World} {A : Around} {E Q : Value → Shared → Prop} {s : Shared} {h₀ : Heap} {L : Addr} {m : Str → Option Value} {news : List (Addr × Obj)}
theorem list_chars {l : List Nat} {t : Tok} (hh : A.handled = none) (F : Fr h₀ L s.heap m) (N : News h₀ L s.heap news) (hz : l.length ≤ 100000)
    (h : ∀ sg vs vn h' tk', s.toks ≤ tk' → Fr h₀ L h' m → News h₀ L h' ((sg, lst vs vn) :: news) → StrsAre vs (chars l) → (∀ p ∈ news, @LT.lt Nat _ p.1 sg) → Q (.ref sg) { s with heap := h', toks := tk' }) :
    wpAny (model prog w) A (call (.type "list") [.str (S l) t]) Q E s := by
  refine withT ?_
  refine list_strD hh F N (fun h' tk ys F' N' hk hn hL hP hc => Wt.intro fun htk => ?_) (by rw [S_length, sizeLine_eq]; omega)
  obtain ⟨⟨vn, hget⟩, _⟩ := hP
  refine h _ ys vn h' tk htk F' (fun p hp => ?_) (strs_of_carried (by
    have e : signs (S l) = chars l := by simp [signs, S, chars]
    rw [← e]; exact hc)) (fun p hp => Heap.lt_size (N p hp).1)
  rcases List.mem_cons.mp hp with rfl | hp
  · exact ⟨hget, Nat.ne_of_gt F.ns.lt, hn⟩
  · exact N' p hp
end
end Mine
end
section
theorem Mine.wTop_Idx : True ∧ True := by
  w_top off
  (try (walk1; fail))
  exact ⟨trivial, trivial⟩
open PySem PySem.W PyProof.Rows PySem.Calls PySem.Spec
set_option maxRecDepth 100000
namespace Mine
/-- is this value the text l -/
noncomputable def isTxt (l : List Nat) : Value → Bool
  | .str x _ => x.cps.toList == (S l).cps.toList
  | _ => false
theorem strs_at {vs : List Value} {ys : List Str} (h : StrsAre vs ys) : ∀ (i : Nat) (v : Value), vs[i]? = some v → ∃ (y : Str) (t : Tok), ys[i]? = some y ∧ v = Value.str y t := by
  induction h with
  | nil => intro i v hv; simp at hv
  | cons y t _ ih =>
    intro i v hv
    cases i with
    | zero => cases hv; exact ⟨y, t, rfl, rfl⟩
    | succ i => exact ih i v (by simpa using hv)
theorem strs_length {vs : List Value} {ys : List Str} (h : StrsAre vs ys) : vs.length = ys.length := by
  induction h with
  | nil => rfl
  | cons y t _ ih => simp [ih]
theorem strs_txt {vs : List Value} {ls : List (List Nat)} (h : StrsAre vs (ls.map S)) {i : Nat} (hi : i < ls.length) : ∃ hv : i < vs.length, ∃ t, vs[i] = .str (S ls[i]) t := by
  have hv : i < vs.length := by have := strs_length h; simp at this; omega
  obtain ⟨y, t, h1, h2⟩ := strs_at h i vs[i] (List.getElem?_eq_getElem hv)
  rw [List.getElem?_map, List.getElem?_eq_getElem hi] at h1
  exact ⟨hv, t, by rw [h2]; cases h1; rfl⟩
theorem index_strs {prog : Program} {w : World} {A : Around} {E : Value → Shared → Prop} {s : Shared} {D : Addr} {vs : List Value} {ls : List (List Nat)} {n : Nat} {l : List Nat} {t : Tok} {Q : Value → Shared → Prop} (hl : s.heap.get? D = some (lst vs n)) (hv : StrsAre vs (ls.map S)) (hm : l ∈ ls) (hz : ls.length ≤ 100000)
    (h : Q (.int (ls.idxOf l : Nat) s.toks) { s with toks := s.toks + 1 }) : wpAny (model prog w) A (call (.builtin "list.index") [.ref D, .str (S l) t]) Q E s := by
  have hlen : vs.length = ls.length := by have := strs_length hv; simpa using this
  have hj : ls.idxOf l < ls.length := List.idxOf_lt_length_of_mem hm
  refine call_meets PySem.F.slot_list_index ⟨_, hl, rfl⟩ PySem.F.entry_list_index (PySem.F.args_list_index_2 _ _)
    (MeetsSeq.list_index D vs.toArray n (.str (S l) t) (isTxt l) ?he (ls.idxOf l) ?hj ?hsm ?hit ?hno) ⟨hl, h⟩
  case hj => simpa [hlen] using hj
  case hsm => omega
  case he =>
    intro y hy
    have hy' : y ∈ vs := by simpa using hy
    obtain ⟨i, hi, rfl⟩ := List.mem_iff_getElem.mp hy'
    obtain ⟨_, u, e⟩ := strs_txt hv (i := i) (by omega)
    rw [e]
    exact SeqRoads2.EqGives.str _ _ _ _
  case hit =>
    obtain ⟨_, u, e⟩ := strs_txt hv hj
    simp only [List.getElem_toArray, e, isTxt, S_toList]
    simp
  case hno =>
    intro i hi hlt
    obtain ⟨_, u, e⟩ := strs_txt hv (i := i) (by omega)
    simp only [List.getElem_toArray, e, isTxt, S_toList]
    have := List.not_of_lt_findIdx (xs := ls) (p := (· == l)) hlt
    simpa using this
end Mine
end
section
theorem Mine.wTop_Rgl : True ∧ True := by
  w_top off
  (try (walk1; fail))
  exact ⟨trivial, trivial⟩
open PySem PySem.W PyProof.Rows PySem.Calls PySem.Spec
set_option maxRecDepth 100000
namespace Mine
/-- an iterator over a range of step one, i turns on, n in all -/
noncomputable def RgObj (o : Obj) (n i : Nat) : Prop := o = { cls := .type "range_iterator", data := .fields #[rawInt (i : Int), rawInt ((n : Int) - (i : Int)), rawInt 1] }
section
variable {prog : Program} {w : World} {A : Around} {E : Value → Shared → Prop} {s : Shared} {h₀ : Heap} {L : Addr} {m : Str → Option Value} {news : List (Addr × Obj)}
theorem rgl_iter {r : Addr} {t u v : Tok} {n : Nat} {Q : Value → Shared → Prop} (F : Fr h₀ L s.heap m) (N : News h₀ L s.heap news) (hr : IsRange s.heap r 0 (n : Int) 1 t u v) (hn : n < 20)
    (h : ∀ I o h', RgObj o n 0 → Fr h₀ L h' m → News h₀ L h' ((I, o) :: news) → (∀ p ∈ news, @LT.lt Nat _ p.1 I) → Q (.ref I) { s with heap := h' }) : wpAny (model prog w) A (pyIter (.ref r)) Q E s := by
  refine wpAny_pyIter_range hr ?_ (h _ _ _ ?_ (F.push _) (N.push F _) fun p hp => Heap.lt_size (N p hp).1)
  · exact (by decide +kernel : ∀ k : Nat, k < 20 → Builtin.Range.small 0 (k : Int) 1 = true) n hn
  · have e := (by decide +kernel : ∀ k : Nat, k < 20 → Builtin.Range.rangeSize 0 (k : Int) 1 = (k : Int)) n hn
    rw [RgObj, e]; simp
theorem rgl_next {I : Addr} {o : Obj} {n i : Nat} {Q : Option Value → Shared → Prop} (hh : A.handled = none) (F : Fr h₀ L s.heap m) (N : News h₀ L s.heap ((I, o) :: news)) (hap : ∀ q ∈ news, q.1 ≠ I) (ho : RgObj o n i)
    (ret0 : n ≤ i → ∀ h', Fr h₀ L h' m → News h₀ L h' news → Q none { s with heap := h' })
    (ret1 : i < n → ∀ o' h', RgObj o' n (i + 1) → Fr h₀ L h' m → News h₀ L h' ((I, o') :: news) → Q (some (.int (i : Int) s.toks)) { s with heap := h', toks := s.toks + 1 }) (hi : i ≤ n) :
    wpAny (model prog w) A (pyNext (.ref I)) Q E s := by
  have hit : IsRangeIter s.heap I (i : Int) ((n : Int) - (i : Int)) 1 := by
    subst ho; exact N.get (.head _)
  by_cases hlt : i < n
  · refine wpAny_pyNext_range_item hit (by omega) fun h' hit' hs => ?_
    refine ret1 hlt _ h' rfl (F.change hs (N _ (.head _)).2.1 (N _ (.head _)).2.2) (N.setHead hap hs ?_)
    have e1 : ((i + 1 : Nat) : Int) = (i : Int) + 1 := by omega
    have e2 : (n : Int) - ((i : Int) + 1) = (n : Int) - (i : Int) - 1 := by omega
    rw [e1, e2]; exact hit'
  · refine wpAny_pyNext_range_end hh hit (by omega) fun h' hx => ?_
    refine ret0 (by omega) h' ⟨F.ns.extBut hx (N _ (.head _)).2.1.symm, fun b x e => hx b x (fun q => ?_) (F.keep b x e), F.above⟩ fun p hp => ⟨hx _ _ (hap p hp) (N p (.tail _ hp)).1, (N p (.tail _ hp)).2⟩
    have := (N _ (.head _)).2.2
    rw [← q, e] at this; cases this
end
end Mine
end
section
theorem Mine.wTop_Lcd : True ∧ True := by
  w_top off
  (try (walk1; fail))
  exact ⟨trivial, trivial⟩
open PySem PySem.W PyProof.Rows PySem.Calls PySem.Spec PySem.Builtin PySem.Builtin.Str
set_option Elab.async false
set_option maxRecDepth 100000
namespace Mine
open LCg
section
variable {prog : Program} {w : World} {A : Around} {E : Value → Shared → Prop} {s : Shared} {h₀ : Heap} {L : Addr} {m : Str → Option Value} {env : Env}
/-- a comprehension's source: a range by any step, its numbers written out -/
inductive SrcD (prog : Program) (w : World) (A : Around) (h₀ : Heap) (L : Addr) (m : Str → Option Value) (env : Env) (elt : Expr) (x : Str) (scope : Scope) (cl : List (Str × Addr)) (ks : List Int) (Fin : Shared → List Value → List (Addr × Obj) → Prop) (xv : Value) (s₁ : Shared) : Prop
  | mk (r : Addr) (a b d : Int) (t u v : Tok) (news : List (Addr × Obj)) (exv : xv = .ref r) (hh : A.handled = none) (F : Fr h₀ L s₁.heap m) (N : News h₀ L s₁.heap news) (hr : IsRange s₁.heap r a b d t u v) (hsm : Builtin.Range.small a b d = true) (hn : Builtin.Range.rangeSize a b d = ((ks.length : Nat) : Int)) (hsz : ks.length ≤ sizeLine)
    (hi : ∀ i, i < ks.length → ks[i]? = some (a + (i : Int) * d))
    (h : ∀ g, CompRest prog w A h₀ L m env elt x scope cl { s₁ with heap := g } (fun _ => True) (fun i v => ∃ k t, ks[i]? = some k ∧ v = .int k t) (Fin { s₁ with heap := g }) ks.length 0 [] news) : SrcD prog w A h₀ L m env elt x scope cl ks Fin xv s₁
theorem SrcD.of {elt : Expr} {x : Str} {scope : Scope} {cl : List (Str × Addr)} {ks : List Int} {Fin : Shared → List Value → List (Addr × Obj) → Prop} {r : Addr} {a b d : Int} {t u v : Tok} {news : List (Addr × Obj)} {s₁ : Shared}
    (hh : A.handled = none) (F : Fr h₀ L s₁.heap m) (N : News h₀ L s₁.heap news) (hr : IsRange s₁.heap r a b d t u v) (hsm : Builtin.Range.small a b d = true) (hn : Builtin.Range.rangeSize a b d = ((ks.length : Nat) : Int)) (hsz : ks.length ≤ sizeLine)
    (hi : ∀ i, i < ks.length → ks[i]? = some (a + (i : Int) * d))
    (h : ∀ g, CompRest prog w A h₀ L m env elt x scope cl { s₁ with heap := g } (fun _ => True) (fun i v => ∃ k t, ks[i]? = some k ∧ v = .int k t) (Fin { s₁ with heap := g }) ks.length 0 [] news) :
    SrcD prog w A h₀ L m env elt x scope cl ks Fin (.ref r) s₁ := ⟨r, a, b, d, t, u, v, news, rfl, hh, F, N, hr, hsm, hn, hsz, hi, h⟩
theorem walksD {I : Addr} (hh : A.handled = none) (a d : Int) (ks : List Int) (hi : ∀ i, i < ks.length → ks[i]? = some (a + (i : Int) * d)) :
    Walks prog w A I [I] [I] ks.length (fun i v => ∃ k t, ks[i]? = some k ∧ v = .int k t) (fun i h => IsRangeIter h I (a + (i : Nat) * d) ((ks.length : Int) - (i : Nat)) d) :=
  let W := (Walks.range (prog := prog) (w := w) hh I a d ks.length).bound
  { sub := W.sub, frame := W.frame, done := W.done, self := W.self,
    item := fun i s Q E hl st hQ => W.item i s Q E hl st fun v h' tk hP => hQ v h' tk (by obtain ⟨hb, t, rfl⟩ := hP; exact ⟨_, t, hi i hb, rfl⟩) }
theorem stDown {I : Addr} {a d : Int} {n : Nat} : ∀ i (h h' : Heap) (o : Obj) (nw : List (Addr × Obj)), IsRangeIter h I (a + (i : Nat) * d) ((n : Int) - (i : Nat)) d → h.get? I = some o → h'.get? I = some o → (∀ b o, h₀.get? b = some o → h'.get? b = some o) → News h₀ L h' nw → True → IsRangeIter h' I (a + (i : Nat) * d) ((n : Int) - (i : Nat)) d :=
  fun i h h' o nw st e e' _ _ _ => by
    have st' : h.get? I = some _ := st
    show h'.get? I = some _
    rw [e', ← e]; exact st'
theorem ListComp_D (ks : List Int) {elt iter : Expr} {x : Str} {px : Pos} {scope : Scope} {cl : List (Str × Addr)} {pos : Pos} {Q : Value → Shared → Prop} (_F : Fr h₀ L s.heap m)
    (hclos : closureFor scope env = pure cl) (hcell : ∀ y ∈ scope.names, y.2 ≠ .cell) (hkind : scope.kind = .function)
    (hnames : ∀ y ∈ scope.names, y.2 = .local → scope.names.lookup y.1 = some .local) (hx : scope.names.lookup x = some .local)
    (h : wpAny (model prog w) A (eval iter env) (SrcD prog w A h₀ L m env elt x scope cl ks (fun s₂ => FinE h₀ L m s₂ Q)) E s)
    (hs : ∀ x, foldedSetIterable iter env x = pure x := by intro _; rfl) :
    wpAny (model prog w) A (eval (.ListComp elt [⟨.Name x px, iter, [], 0⟩] scope pos) env) Q E s := by
  rw [eval_ListComp]
  refine wpAny_comprehension_free (use := none) rfl hs hclos hkind hnames (wpAny_mono h (fun xv s₁ h₁ => ?_) fun _ _ e => e)
  obtain ⟨r, a, b, d, t, u, v, news, rfl, hh, F, N, hr, hsm, hn, hsz, hi, R⟩ := h₁
  refine wpAny_pyIter_range hr hsm ?_
  refine block_U (walksD hh a d ks hi) hsz (fun i h st => ⟨_, st⟩) stDown hcell hkind hx (by show IsRangeIter _ _ _ _ _; rw [hn]; simpa using Heap.get?_push_size _ rfl) (fun b hb => ?_)
    (F.keeps fun _ _ e => Heap.get?_push_of_some _ e) (N.grown fun _ _ e => Heap.get?_push_of_some _ e) (Nat.ne_of_lt F.ns.lt) (next_is_new F) (fun p hp => Nat.ne_of_lt (Heap.lt_size (N p hp).1)) trivial (R _) ?_
  · rw [List.mem_singleton.mp hb]
    show s₁.heap.objs.size < (s₁.heap.push _).objs.size
    rw [Heap.size_push]; exact Nat.lt_succ_self _
  · intro D C h tk m' ys news' F' N' o1 hn hC₀ hD₀ hCL hDL hCD offC fin
    refine ⟨m', hn, fun h'' hs'' => fin D h'' tk (F'.change hs'' hCL hC₀) (fun p hp => ?_) o1⟩
    refine ⟨hs''.extBut _ _ ?_ (N' p hp).1, (N' p hp).2⟩
    rcases List.mem_cons.mp hp with rfl | hp
    · exact Ne.symm hCD
    · exact offC p hp
end
/-- a sign of the sixteen letters -/
theorem ap_item : ∀ k : Nat, k < 16 → Txt.item (Str.ofString "ABCDEFGHIJKLMNOP") (k : Int) = S [65 + k] := by decide +kernel
theorem item_ap {prog : Program} {w : World} {A : Around} {E Q : Value → Shared → Prop} {s : Shared} {value slice : Expr} {t u : Tok} {i : Int} {n : Nat} (hn : i = (n : Int)) (hi : n < 16)
    (h : Q (.str (S [65 + n]) s.toks) { s with toks := s.toks + 1 })
    (hs : subscripted slice false (.str (Str.ofString "ABCDEFGHIJKLMNOP") t) (.int i u) = operate [.str (Str.ofString "ABCDEFGHIJKLMNOP") t, .int i u] (getItem (.str (Str.ofString "ABCDEFGHIJKLMNOP") t) (.int i u)) := by with_unfolding_all rfl)
    (ht : ∀ r, letTemporaryGo value (.str (Str.ofString "ABCDEFGHIJKLMNOP") t) r = pure () := by intro _; with_unfolding_all rfl) :
    wpAny (model prog w) A (subscriptTail value slice (.str (Str.ofString "ABCDEFGHIJKLMNOP") t) (.int i u)) Q E s := by
  subst hn
  have hl : (Str.ofString "ABCDEFGHIJKLMNOP").length = 16 := by decide +kernel
  refine item_str (fitsSsize_of (N := 9223372036854775808) (by omega) (by omega) (Int.le_refl _)) (by omega) (by omega) (fun _ => ?_) hs ht
  rw [ap_item n hi]
  exact h
theorem lstrip_S (l : List Nat) (c : Nat) : Txt.lstripChars (S l) (S [c]) = S (l.dropWhile (· == c)) := by
  unfold Txt.lstripChars
  rw [PyProof.Rows.stripBy_eq]
  refine S_of ?_
  have e1 : ∀ n, stripHi ((S [c]).cps.contains) false (S l) n = l.length := fun n => by simp [stripHi]
  rw [e1]
  have e2 : stripLo ((S [c]).cps.contains) true (S l) = (l.takeWhile (· == c)).length := by
    simp only [stripLo, if_true, S_toList]
    congr 2
    funext a
    by_cases h : a = c <;> simp [S, h]
  rw [e2]
  simp only [strSub, S, List.extract_toArray]
  have : ∀ l : List Nat, List.extract l (l.takeWhile (· == c)).length l.length = l.dropWhile (· == c) := by
    intro l
    simp only [List.extract_eq_take_drop]
    rw [List.take_of_length_le (by simp)]
    induction l with
    | nil => rfl
    | cons a r ih =>
      rw [List.takeWhile_cons, List.dropWhile_cons]
      by_cases ha : (a == c) = true
      · rw [if_pos ha, if_pos ha, List.length_cons, List.drop_succ_cons]; exact ih
      · rw [if_neg ha, if_neg ha]; rfl
  exact this l
/-- the letters of a number, k of them -/
noncomputable def dg : Nat → Nat → List Nat
  | 0, _ => []
  | k + 1, n => dg k (n / 16) ++ [65 + n % 16]
theorem dg_zero : ∀ k, (dg k 0).dropWhile (· == 65) = []
  | 0 => rfl
  | k + 1 => by
    show (dg k 0 ++ [65]).dropWhile _ = _
    rw [List.dropWhile_append, dg_zero k]; rfl
theorem dg_ap : ∀ (k n : Nat), n < 16 ^ k → (dg k n).dropWhile (· == 65) = apL n
  | 0, n, h => by
    have : n = 0 := by simpa using h
    subst this; rw [apL_zero]; rfl
  | k + 1, n, h => by
    have h1 : n / 16 < 16 ^ k := by rw [Nat.pow_succ] at h; omega
    have ih := dg_ap k (n / 16) h1
    by_cases h0 : n = 0
    · subst h0; rw [apL_zero]; exact dg_zero (k + 1)
    · rw [apL_step h0]
      show (dg k (n / 16) ++ [65 + n % 16]).dropWhile _ = _
      rw [List.dropWhile_append, ih]
      by_cases h2 : n / 16 = 0
      · rw [h2, apL_zero]
        have : ¬ (65 + n % 16 == 65) = true := by simp; omega
        rw [if_pos (show ([] : List Nat).isEmpty = true from rfl), List.dropWhile_cons, if_neg this]; rfl
      · have : (apL (n / 16)).isEmpty = false := by rw [apL_step h2]; simp
        rw [this]; rfl
theorem dg5 (n : Nat) : dg 5 n = [65 + n / 65536 % 16, 65 + n / 4096 % 16, 65 + n / 256 % 16, 65 + n / 16 % 16, 65 + n % 16] := by
  simp only [dg, List.nil_append, List.cons_append, Nat.div_div_eq_div_mul]
theorem dgI (z : Int) (k : Nat) : (((if z < 0 then -z else z).fdiv (16 ^ k)).fmod 16) = ((z.natAbs / 16 ^ k % 16 : Nat) : Int) := by
  have e : (if z < 0 then -z else z) = (z.natAbs : Int) := by split <;> omega
  rw [e, Int.fmod_eq_emod_of_nonneg _ (by decide), Int.fdiv_eq_ediv_of_nonneg _ (Int.pow_nonneg (by decide))]
  simp
theorem item_apI {prog : Program} {w : World} {A : Around} {E Q : Value → Shared → Prop} {s : Shared} {value slice : Expr} {t u : Tok} {z : Int} {k : Nat}
    (h : Q (.str (S [65 + z.natAbs / 16 ^ k % 16]) s.toks) { s with toks := s.toks + 1 })
    (hs : ∀ i, subscripted slice false (.str (Str.ofString "ABCDEFGHIJKLMNOP") t) (.int i u) = operate [.str (Str.ofString "ABCDEFGHIJKLMNOP") t, .int i u] (getItem (.str (Str.ofString "ABCDEFGHIJKLMNOP") t) (.int i u)) := by intro _; with_unfolding_all rfl)
    (ht : ∀ r, letTemporaryGo value (.str (Str.ofString "ABCDEFGHIJKLMNOP") t) r = pure () := by intro _; with_unfolding_all rfl) :
    wpAny (model prog w) A (subscriptTail value slice (.str (Str.ofString "ABCDEFGHIJKLMNOP") t) (.int (((if z < 0 then -z else z).fdiv (16 ^ k)).fmod 16) u)) Q E s :=
  item_ap (dgI z k) (Nat.mod_lt _ (by decide)) h (hs _) ht
theorem join5 (a b c d e : Nat) : Txt.join (S []) [S [a], S [b], S [c], S [d], S [e]] = S [a, b, c, d, e] := txt_joinS [] [[a], [b], [c], [d], [e]]
theorem lstrip5 {prog : Program} {w : World} {A : Around} {E Q : Value → Shared → Prop} {s : Shared} {n : Nat} {t u : Tok} (hn : n < 16 ^ 5) (h : ∀ t' k, s.toks ≤ k → Q (.str (S (apL n)) t') { s with toks := k }) :
    wpAny (model prog w) A (call (.builtin "str.lstrip") [.str (S [65 + n / 16 ^ Int.toNat 4 % 16, 65 + n / 16 ^ Int.toNat 3 % 16, 65 + n / 16 ^ Int.toNat 2 % 16, 65 + n / 16 ^ Int.toNat 1 % 16, 65 + n / 16 ^ Int.toNat 0 % 16]) t, .str (Str.ofString "A") u]) Q E s := by
  have e : [65 + n / 16 ^ Int.toNat 4 % 16, 65 + n / 16 ^ Int.toNat 3 % 16, 65 + n / 16 ^ Int.toNat 2 % 16, 65 + n / 16 ^ Int.toNat 1 % 16, 65 + n / 16 ^ Int.toNat 0 % 16] = dg 5 n := by
    rw [dg5]
    simp
  rw [e, show Str.ofString "A" = S [65] from by decide +kernel]
  refine wpAny_with_toks (Nat.le_refl _) (PySem.SC.lstripChars (fun t' k ht => ?_) (by rw [S_length, sizeLine_eq, dg5]; simp))
  rw [lstrip_S, dg_ap 5 n hn]
  exact h t' k ht
/-- the mark behind a backslash, where it wants one -/
noncomputable def escM (c : Nat) : List Nat := if c = 34 ∨ c = 92 then [92, c] else [c]
theorem mark_all : ∀ c : Nat, c < 128 → (!(PySem.Builtin.Str.occurrences (Str.ofString "\"\\") (S [c]) 0 (Str.ofString "\"\\").length 1).isEmpty) = decide (c = 34 ∨ c = 92) := by decide +kernel
theorem in_mark {prog : Program} {w : World} {A : Around} {E Q : Value → Shared → Prop} {s : Shared} {c : Nat} {t u : Tok} (hc : c < 128) (h : Q (.bool (decide (c = 34 ∨ c = 92))) s) :
    wpAny (model prog w) A (compareOp .In (.str (S [c]) u) (.str (Str.ofString "\"\\") t)) Q E s :=
  in_str (by rw [mark_all c hc]; exact h)
end Mine
end
section
open PySem PySem.W PyProof.Rows PySem.Calls PySem.Spec
set_option Elab.async false
set_option maxRecDepth 100000
namespace Mine
theorem fillKAll : (KF, PySem.Challenge.rw_jc0034_01) = (KF, PySem.Challenge.rw_jc0034_01) := by k_fill; rfl

local macro_rules | `(tactic| walk_at "enter") => `(tactic| (
  (case k6 => k_is)
  (case k7 => k_is)
  (case k9 => first | exact BindsTo.of_eq rfl | exact binds_K (by k_in) rfl (by k_is) rfl rfl rfl)
  (case kB => exact locs rfl)
  (case c5 => decide)
  (case c2 => rfl)
  (case c3 => rfl)
  (case c4 => rfl)))
local macro_rules | `(tactic| walk_at "sub") => `(tactic| repeat' (first | exact sub_nil | exact sub_rest | (refine sub_cons (by first | k_mem | exact List.mem_append_left _ (by k_mem)) ?_) | (intro q9 hq9; repeat (first | exact hq9 | apply List.mem_cons_of_mem))))
local macro_rules | `(tactic| walk_at "subs") => `(tactic| repeat' (first
  | exact sub_nil
  | with_reducible refine sub_cons (by k_dflt k_mem) ?_
  | with_reducible refine sub_app ?_ ?_
  | with_reducible exact sub_self
  | with_reducible exact sub_al
  | with_reducible refine sub_ar ?_
  | with_reducible refine sub_ac ?_))
local macro_rules | `(tactic| walk_at "room") => `(tactic| exact Room.less ‹_› (by omega) (by omega))
local macro_rules | `(tactic| walk_at "tk") => `(tactic| ((try dsimp only); omega))
local macro_rules | `(tactic| walk_at "lt") => `(tactic| (show @LT.lt Nat _ _ _; omega))
local macro_rules | `(tactic| walk_at "ne") => `(tactic| (show @Ne Nat _ _; omega))
local macro_rules | `(tactic| walk_at "texts") => `(tactic| (simp only [lits, replace1S, txt_join2, S_toList, S_append, S_lit1, S_lit2, List.nil_append, List.append_assoc, List.cons_append]))
local macro_rules | `(tactic| walk_at "size") => `(tactic| (first
  | ((with_reducible show _ ≤ sizeLine); (simp only [Str.length_append, S_length, lits, sizeLine_eq, Array.size_push, List.size_toArray, List.length_append, List.length_cons, List.length_nil]); omega)
  | ((simp only [S_length, S_lit1, S_lit2, lits, List.length_append, List.length_cons, List.length_nil]); omega)))
local macro_rules | `(tactic| size_fits) => `(tactic| ((with_reducible show _ ≤ sizeLine); walk_at "size"))
local macro_rules | `(tactic| walk_at "eval Name") => `(tactic| (k_dflt (refine ldLoc (by k_asm) ‹_› ?_)))
local macro_rules | `(tactic| walk_at "sz") => `(tactic| first | omega | walk_at "size" | (simp; omega))
local macro_rules | `(tactic| walk_at "binaryOp Add str str") => `(tactic| ((with_reducible show wpAny _ _ (binaryOp Operator.Add (Value.str _ _) (Value.str _ _)) _ _ _); refine add_S (by walk_at "lits") (by walk_at "lits") (by walk_at "sz") ?_; intro t9 k9 ht9; try dsimp only))
local macro_rules | `(tactic| walk_at "call builtin:str.replace") => `(tactic| (refine replaceM (by walk_at "ne") (by walk_at "ne") (by walk_at "ne") (by decide +kernel) ?ksz ?_; (case ksz => walk_at "size"); intro t9 k9 ht9; (try walk_at "texts")))
local macro_rules | `(tactic| walk_at "call builtin:str.join") => `(tactic| ((with_reducible show wpAny _ _ (call (Value.builtin _) [Value.str _ _, Value.ref _]) _ _ _); refine joinM (by is_list) (by kct_strs) ?ksz ?_; (case ksz => ((simp only [List.map_cons, List.map_nil, List.sum_cons, List.sum_nil, List.length_cons, List.length_nil]); walk_at "size")); intro t9 k9 ht9; (try walk_at "texts")))
local macro_rules | `(tactic| walk_at "joinParts") => `(tactic| ((first | (with_reducible show wpAny _ _ (joinParts _ []) _ _ _) | (with_reducible show wpAny _ _ (joinParts _ (evalEach [] _)) _ _ _)); (refine joinParts_nil ?_ ?ksz); (case ksz => walk_at "size"); (try walk_at "texts")))
local macro_rules | `(tactic| walk_at "execs cons") => `(tactic| ((with_reducible refine wpAny_execs_cons ?_); try dsimp only))
local macro_rules | `(tactic| walk_at "execs nil") => `(tactic| ((with_reducible refine wpAny_execs_nil ?_); try dsimp only))
local macro_rules | `(tactic| walk_at "exec If") => `(tactic| (refine wpAny_If ?_))
local macro_rules | `(tactic| walk_at "le") => `(tactic| ((with_reducible show _ ≤ sizeLine); walk_at "size"))
local macro_rules | `(tactic| walk_at "CompRest") => `(tactic| (with_unfolding_all
  (refine LCg.CompRest.succ ?_; intro v' I' oI' C' oC' D' m' h' tk' E' hv' hC' hx' F' N' off' ne'; (first | lcg_open hv' | (obtain ⟨t9', hv9'⟩ := hv'; subst hv9')); (have off2' := off'); (try simp only [LCg.Off3, and_true] at off'))))
local macro_rules | `(tactic| walk_at "CompEnd") => `(tactic| (k_dflt (refine' LCg.CompEnd.intro ?F ?N _ ?sub ?off ?src ?_; (case F => assumption); (case N => assumption); (case off => with_reducible assumption); (case sub => walk_at "sub"); (case src => lcg_src)); try dsimp only))
local macro_rules | `(tactic| walk_at "one") => `(tactic| (first
  | ((first | (with_reducible show wpAny _ _ (call _ _ _) _ _ _) | (with_reducible show wpAny _ _ (compareOp _ _ _) _ _ _) | (with_reducible show wpAny _ _ (binaryOp _ _ _) _ _ _) | (with_reducible show wpAny _ _ (inplaceOp _ _ _) _ _ _) | (with_reducible show wpAny _ _ (subscriptTail _ _ _ _) _ _ _)); goal_lacks Mine.Wt; refine withT ?_)
  | ((with_reducible show Mine.Wt _ _ _ _); intro htw; try dsimp only at htw ⊢)
  | ((with_reducible show @ite Prop _ _ _ _); first
      | (refine W.ite_pos (by decide) ?_; try dsimp only)
      | (refine W.ite_neg (by decide) ?_; try dsimp only)
      | (refine iteM (fun hc9 => ?_) (fun hc9 => ?_); all_goals (try dsimp only); all_goals (try simp only [decide_eq_true_eq] at hc9); all_goals (try (exfalso; omega))))
  | walk1 | (dsimp only; walk1)))
local macro_rules | `(tactic| walk_at "steps") => `(tactic| repeat' walk_at "one")
local macro_rules | `(tactic| walk_at "stepsW") => `(tactic| repeat' ((fail_if_success (with_reducible show wpAny _ _ (exec (Stmt.While _ _ _ _) _) _ _ _)); (fail_if_success (with_reducible show wpAny _ _ (exec (Stmt.For _ _ _ _ _) _) _ _ _)); walk_at "one"))
local macro_rules | `(tactic| walk_at "stepsI") => `(tactic| repeat' ((fail_if_success (with_reducible show wpAny _ _ (eval (Expr.IfExp _ _ _ _) _) _ _ _)); walk_at "one"))
section
variable {w : World} {A : Around} {s : Shared} {h₀ : Heap} {L : Addr} {m : Str → Option Value} {news : List (Addr × Obj)}
  {Q E : Value → Shared → Prop} {p : Program} {loose : List Str} {mean : ExcName → Option Value} {mg mb : Str → Option Value}
section
theorem wTop_LA : True ∧ True := by
  w_top off
  (try (walk1; fail))
  exact ⟨trivial, trivial⟩
local macro_rules | `(tactic| walk_at "call type:enumerate") => `(tactic| fail "stop")
theorem list_one {α : Type} {n : Nat} {ys : List α} (h : ys.length = n + 1) : ∃ y l, ys = y :: l ∧ l.length = n := by
  cases ys with
  | nil => cases h
  | cons y l => exact ⟨y, l, rfl, Nat.succ.inj h⟩
theorem list_four {α : Type} {ys : List α} (h : ys.length = 4) : ∃ y0 y1 y2 y3, ys = [y0, y1, y2, y3] := by
  obtain ⟨y0, l0, e0, h0⟩ := list_one h
  obtain ⟨y1, l1, e1, h1⟩ := list_one h0
  obtain ⟨y2, l2, e2, h2⟩ := list_one h1
  obtain ⟨y3, l3, e3, h3⟩ := list_one h2
  obtain rfl := List.length_eq_zero_iff.mp h3
  subst e3; subst e2; subst e1; subst e0
  exact ⟨y0, y1, y2, y3, rfl⟩
noncomputable def IsIntV (y : Value) : Prop := ∃ c t, y = .int c t
set_option maxHeartbeats 4000000 in
theorem law_cells {f cS : Addr} {cd : Value} {rest : List Stmt} {led : List (Addr × Obj)} {oS : Obj} {a : Addr} {vs : List Value} {ns : List Int} {Qb : Flow → Shared → Prop} {Eb : Value → Shared → Prop} (F : Fr h₀ L s.heap m) (N : News h₀ L s.heap ((L + 1, oS) :: led)) (hS : oS.data = .cell (some (.ref a)))
  (X : (KF w.params).In h₀) (T : Top p loose mean mg mb h₀) (r : Room A 5 100) (hl : h₀.IsList a vs.toArray) (hi : IntsAre vs ns) (hn : ns.length ≤ 63)
  (ret : ∀ c0 c1 c2 c3 t0 t1 t2 t3 D h' tk', s.toks ≤ tk' → Fr h₀ L h' (fun z => if z = "cells" then some (.ref D) else m z) → News h₀ L h' ((D, lst [.int c0 t0, .int c1 t1, .int c2 t2, .int c3 t3] 4) :: (L + 1, oS) :: led) →
    wpAny (model prg w) A (execs rest (lawEnv L f cd)) Qb Eb { s with heap := h', toks := tk' }) :
  wpAny (model prg w) A (execs (lawS 0 :: rest) (lawEnv L f cd)) Qb Eb s := by
  rw [show lawS 0 = Stmt.Assign _ _ _ from rfl]
  unfold lawEnv at ret ⊢
  conv in lawScope => (whnf; dsimp only)
  refine wpAny_execs_cons (withT ?_)
  refine enum_Assign (h₀ := h₀) (L := L) (m := m) (cl := [(Str.ofString "script", L + 1)]) (by rfl) (by rfl) (by rfl) (by decide) (by rfl) (by decide) (by rfl) (by rfl) (by decide) (by rfl) (by rfl) ?_
  walk_at "steps"
  refine call_en (by assumption) (by assumption) (by k_mem) ?_
  intro e it h' q1 q2 q3 q4 q5 F1 N1 q6 q7 q8 q9 q10 q11
  refine ⟨e, it, _, _, _, _, fun _ y => IsIntV y, rfl, r.hh, q1, q2, q3, by simp, q4, q5, .head _, F1, N1, q6, q7, q8, q9, q10, q11, ?_, ?_⟩
  · intro i v t oe oi C oC D oD m₂ h tk E' hv hC h1 h2 F2 N2
    have hi4 : i < 4 := by
      by_cases h : i < 4
      · exact h
      · rw [List.getElem?_eq_none (by simpa using h)] at hv; cases hv
    obtain ⟨c, tc, rfl⟩ : ∃ c tc, v = .int c tc := by
      rcases i with _ | _ | _ | _ | i
      · cases hv; exact ⟨_, _, rfl⟩
      · cases hv; exact ⟨_, _, rfl⟩
      · cases hv; exact ⟨_, _, rfl⟩
      · cases hv; exact ⟨_, _, rfl⟩
      · omega
    show wpAny (model prg w) A (eval _ _) (EltEnd h₀ L m _ _ { s with heap := h, toks := tk }) E' { s with heap := h, toks := tk }
    clear hv
    walk_at "steps"
    refine sum_made r.hh (by assumption) (by assumption) (pick_int hi _ _ _) (fun c9 t9 h9 tk9 F9 N9 => ?_)
    walk_at "steps"
    exact EltEnd.of (by assumption) (by assumption) (fun p hp => List.mem_cons_of_mem _ hp) ⟨_, _, rfl⟩
  · intro D h tk ys hyl hR F2 N2
    intro h3 tk3 F5 N5
    refine Wt.intro fun htw => ?_
    obtain ⟨y0, y1, y2, y3, rfl⟩ := list_four hyl
    obtain ⟨c0, t0, rfl⟩ := hR 0 y0 rfl
    obtain ⟨c1, t1, rfl⟩ := hR 1 y1 rfl
    obtain ⟨c2, t2, rfl⟩ := hR 2 y2 rfl
    obtain ⟨c3, t3, rfl⟩ := hR 3 y3 rfl
    exact ret c0 c1 c2 c3 t0 t1 t2 t3 D h3 tk3 htw F5 (News.sub N5 (by walk_at "sub"))
end
section
theorem wTop_LB : True ∧ True := by
  w_top off
  (try (walk1; fail))
  exact ⟨trivial, trivial⟩
local macro_rules | `(tactic| walk_at "exec Assign cons ListComp") => `(tactic| (k_dflt (refine LCg.Assign_ListComp_U (cl := []) (F₀ := by k_asm) (by rfl) (by rfl) (by rfl) (by decide) (by rfl) (by decide) (by rfl) (by rfl) (by rfl) ?_)))
set_option maxHeartbeats 2000000 in
theorem law_nums {f : Addr} {cd : Value} {led : List (Addr × Obj)} {a : Addr} {c0 c1 c2 c3 : Int} {t0 t1 t2 t3 : Tok} {n : Nat} {Qb : Flow → Shared → Prop} {Eb : Value → Shared → Prop} (F : Fr h₀ L s.heap m) (N : News h₀ L s.heap ((a, lst [.int c0 t0, .int c1 t1, .int c2 t2, .int c3 t3] n) :: led))
  (X : (KF w.params).In h₀) (T : Top p loose mean mg mb h₀) (r : Room A 5 100) (h1 : m "cells" = some (.ref a))
  (ret : ∀ (z0 z1 : Int) tz0 tz1 D n' h' tk', z0.natAbs ≤ 1000000 → z1.natAbs ≤ 1000000 →
    Fr h₀ L h' (fun z => if z = "numbers" then some (.ref D) else m z) → News h₀ L h' ((D, lst [.int z0 tz0, .int z1 tz1] n') :: (a, lst [.int c0 t0, .int c1 t1, .int c2 t2, .int c3 t3] n) :: led) → Qb .next { s with heap := h', toks := tk' }) :
  wpAny (model prg w) A (exec (lawS 1) (lawEnv L f cd)) Qb Eb s := by
  rw [show lawS 1 = Stmt.Assign _ _ _ from rfl]
  unfold lawEnv
  conv in lawScope => (whnf; dsimp only)
  obtain ⟨hA, dp, fr, gd, un⟩ := A
  obtain rfl : hA = none := r.hh
  walk_at "steps"
  exact ret _ _ _ _ _ _ _ _ (num_small c0) (num_small c1) (by assumption) (News.sub (by assumption) (by walk_at "sub"))
end
section
theorem wTop_LC : True ∧ True := by
  w_top off
  (try (walk1; fail))
  exact ⟨trivial, trivial⟩
set_option maxHeartbeats 2000000 in
theorem law_kind {f : Addr} {cd : Value} {led : List (Addr × Obj)} {a : Addr} {c0 c1 c2 c3 : Int} {t0 t1 t2 t3 : Tok} {n : Nat} {rest : List Stmt} {Qb : Flow → Shared → Prop} {Eb : Value → Shared → Prop} (F : Fr h₀ L s.heap m) (N : News h₀ L s.heap ((a, lst [.int c0 t0, .int c1 t1, .int c2 t2, .int c3 t3] n) :: led))
  (X : (KF w.params).In h₀) (T : Top p loose mean mg mb h₀) (r : Room A 5 100) (h1 : m "cells" = some (.ref a))
  (ret : ∀ (kn mk : Nat) tk tm tt h' tk' m', kn < 6 → isMark mk → @LT.lt Nat _ 0 tm → @LT.lt Nat _ tm tk' → s.toks ≤ tk' → Agree ["kind", "mark", "turns"] m m' →
    m' "kind" = some (.int (kn : Int) tk) → m' "mark" = some (.str (S [mk]) tm) → m' "turns" = some (.int (turnsN kn : Int) tt) →
    Fr h₀ L h' m' → News h₀ L h' ((a, lst [.int c0 t0, .int c1 t1, .int c2 t2, .int c3 t3] n) :: led) → wpAny (model prg w) A (execs rest (lawEnv L f cd)) Qb Eb { s with heap := h', toks := tk' }) :
  wpAny (model prg w) A (execs (lawS 2 :: lawS 3 :: lawS 4 :: rest) (lawEnv L f cd)) Qb Eb s := by
  rw [show lawS 2 = Stmt.Assign _ _ _ from rfl, show lawS 3 = Stmt.Assign _ _ _ from rfl, show lawS 4 = Stmt.Assign _ _ _ from rfl]
  unfold lawEnv at ret ⊢
  conv in lawScope => (whnf; dsimp only)
  obtain ⟨hA, dp, fr, gd, un⟩ := A
  obtain rfl : hA = none := r.hh
  walk_at "steps"
  obtain ⟨kn, hkn, ek⟩ := kind_nat c2
  obtain ⟨mk, hmk, em⟩ := mark_item (c2.fdiv 6)
  refine' ret kn mk _ _ _ _ _ _ hkn hmk ?t1 ?t2 ?t3 ?ag ?m2 ?m3 ?m4 (by assumption) (News.sub (by assumption) (by walk_at "sub"))
  case ag =>
    intro x hx
    simp only [List.mem_cons, List.not_mem_nil, or_false, not_or] at hx
    simp only [hx, if_false]
  case m2 =>
    show some (Value.int (c2.fmod 6) _) = _
    rw [ek]
  case m3 =>
    show some (Value.str (Txt.item _ ((c2.fdiv 6).fmod 4)) _) = _
    rw [em]
  case m4 =>
    show some (Value.int ([5, 6, 6, 8, 8, 9].getD (c2.fmod 6).toNat 0) _) = _
    rw [ek]
    have : kn = 0 ∨ kn = 1 ∨ kn = 2 ∨ kn = 3 ∨ kn = 4 ∨ kn = 5 := lt6 kn (by assumption)
    rcases this with rfl | rfl | rfl | rfl | rfl | rfl <;> rfl
  case t1 => (try dsimp only); omega
  case t2 => (try dsimp only); omega
  case t3 => (try dsimp only); omega
end
section
theorem wTop_LD : True ∧ True := by
  w_top off
  (try (walk1; fail))
  exact ⟨trivial, trivial⟩
set_option maxHeartbeats 2000000 in
theorem law_wts {f : Addr} {cd : Value} {led : List (Addr × Obj)} {kn : Nat} {tk : Tok} {rest : List Stmt} {Qb : Flow → Shared → Prop} {Eb : Value → Shared → Prop} (F : Fr h₀ L s.heap m) (N : News h₀ L s.heap led)
  (X : (KF w.params).In h₀) (T : Top p loose mean mg mb h₀) (r : Room A 5 100) (ht : 0 < s.toks) (h1 : m "kind" = some (.int (kn : Int) tk)) (hkn : kn < 6)
  (ret : ∀ wr ta tb h' tk' m', s.toks ≤ tk' → Agree ["weights"] m m' → m' "weights" = some (.ref wr) →
    Fr h₀ L h' m' → News h₀ L h' ((wr, tup [.int ((wtN kn).1 : Int) ta, .int ((wtN kn).2 : Int) tb]) :: led) → wpAny (model prg w) A (execs rest (lawEnv L f cd)) Qb Eb { s with heap := h', toks := tk' }) :
  wpAny (model prg w) A (execs (lawS 5 :: rest) (lawEnv L f cd)) Qb Eb s := by
  rw [show lawS 5 = Stmt.Assign _ _ _ from rfl]
  unfold lawEnv at ret ⊢
  conv in lawScope => (whnf; dsimp only)
  obtain ⟨hA, dp, fr, gd, un⟩ := A
  obtain rfl : hA = none := r.hh
  walk_at "steps"
  have : kn = 0 ∨ kn = 1 ∨ kn = 2 ∨ kn = 3 ∨ kn = 4 ∨ kn = 5 := lt6 kn (by assumption)
  rcases this with rfl | rfl | rfl | rfl | rfl | rfl <;> refine item_listL (News.list (by assumption) (by k_mem)) (by decide) (by decide) rfl ?_ <;> refine Wt.intro fun htw => ?_
  all_goals (try dsimp only at htw ⊢)
  all_goals
    walk_at "steps"
    refine' ret _ _ _ _ _ _ ?t1 ?ag ?m1 ?F ?N
    case F => assumption
    case m1 => rfl
    case N => exact News.sub (by assumption) (by walk_at "sub")
    case ag =>
      intro x hx
      simp only [List.mem_cons, List.not_mem_nil, or_false] at hx
      simp only [hx, if_false]
    case t1 => (try dsimp only); omega
end
section
theorem wTop_LE : True ∧ True := by
  w_top off
  (try (walk1; fail))
  exact ⟨trivial, trivial⟩
theorem lst2 {h₀ h : Heap} {L D : Addr} {a b a' b' : Int} {t u : Tok} {n : Nat} {l : List (Addr × Obj)} (N : News h₀ L h ((D, lst [.int a t, .int b u] n) :: l)) (ea : a = a') (eb : b = b') : News h₀ L h ((D, lst [.int a' t, .int b' u] n) :: l) := by rw [← ea, ← eb]; exact N
set_option maxHeartbeats 2000000 in
theorem law_dots {f : Addr} {cd : Value} {led : List (Addr × Obj)} {a : Addr} {c0 c1 c2 c3 : Int} {t0 t1 t2 t3 : Tok} {n : Nat} {rest : List Stmt} {Qb : Flow → Shared → Prop} {Eb : Value → Shared → Prop} (F : Fr h₀ L s.heap m) (N : News h₀ L s.heap ((a, lst [.int c0 t0, .int c1 t1, .int c2 t2, .int c3 t3] n) :: led))
  (X : (KF w.params).In h₀) (T : Top p loose mean mg mb h₀) (r : Room A 5 100) (ht : 0 < s.toks) (h1 : m "cells" = some (.ref a))
  (ret : ∀ (d0 d1 : Nat) dd ta tb n' h' tk' m', d0 < 3 → d1 < 3 → s.toks ≤ tk' → Agree ["dots"] m m' → m' "dots" = some (.ref dd) →
    Fr h₀ L h' m' → News h₀ L h' ((dd, lst [.int (d0 : Int) ta, .int (d1 : Int) tb] n') :: (a, lst [.int c0 t0, .int c1 t1, .int c2 t2, .int c3 t3] n) :: led) → wpAny (model prg w) A (execs rest (lawEnv L f cd)) Qb Eb { s with heap := h', toks := tk' }) :
  wpAny (model prg w) A (execs (lawS 6 :: rest) (lawEnv L f cd)) Qb Eb s := by
  rw [show lawS 6 = Stmt.Assign _ _ _ from rfl]
  unfold lawEnv at ret ⊢
  conv in lawScope => (whnf; dsimp only)
  obtain ⟨hA, dp, fr, gd, un⟩ := A
  obtain rfl : hA = none := r.hh
  walk_at "steps"
  obtain ⟨d0, hd0, e0⟩ := dot_nat c3
  obtain ⟨d1, hd1, e1⟩ := dot_nat (c3.fdiv 3)
  refine' ret d0 d1 _ _ _ _ _ _ _ hd0 hd1 ?t1 ?ag ?m1 ?F ?N
  case F => assumption
  case m1 => rfl
  case N => exact lst2 (News.sub (by assumption) (by walk_at "sub")) e0 e1
  case ag =>
    intro x hx
    simp only [List.mem_cons, List.not_mem_nil, or_false] at hx
    simp only [hx, if_false]
  case t1 => (try dsimp only); omega
end
section
theorem wTop_Fmt : True ∧ True := by
  w_top off
  (try (walk1; fail))
  exact ⟨trivial, trivial⟩
noncomputable def esc (l : List Nat) : List Nat := rep1 34 [92, 34] (rep1 92 [92, 92] l)
noncomputable def fmt (k l : List Nat) : List Nat := if l = [] then k else k ++ [61, 34] ++ esc l ++ [34]

theorem fmt_len (k l : List Nat) : (fmt k l).length ≤ k.length + 4 * l.length + 3 := by
  have h1 := rep1_len2 92 [92, 92] rfl l
  have h2 := rep1_len2 34 [92, 34] rfl (rep1 92 [92, 92] l)
  unfold fmt
  split
  · omega
  · simp only [List.length_append, List.length_cons, List.length_nil, esc]; omega

set_option maxHeartbeats 4000000 in
theorem formatparam_spec (F : Fr h₀ L s.heap m) (N : News h₀ L s.heap news) (X : (KF w.params).In h₀) (T : Top p loose mean mg mb h₀) (r : Room A 1 10) (ht : 0 < s.toks)
  (k l : List Nat) (t1 t2 : Tok) (hk : k.length ≤ 1000) (hl : l.length ≤ 1000)
  (ret : ∀ t h' tk', s.toks ≤ tk' → Fr h₀ L h' m → News h₀ L h' news → Q (.str (S (fmt k l)) t) { s with heap := h', toks := tk' }) :
  wpAny (model prg w) A (call (.ref 127) [.str (S k) t1, .str (S l) t2]) Q E s := by
  have hk' := S_length k
  have hl' := S_length l
  have h1 := rep1_len2 92 [92, 92] rfl l
  have h2 := rep1_len2 34 [92, 34] rfl (rep1 92 [92, 92] l)
  refine' enterM (binds := [("param", .str (S k) t1), ("value", .str (S l) t2), ("quote", .int 1 526)]) (led := []) F N Apart.nil X T r ht ?k6 ?k7 ?k9 ?kB ?_ ?c5 ?c2 ?c3 ?c4
  walk_at "enter"
  intro g' L' h' tk' dp fr gd un Qb F' N' X' T' r' l1 ht' htt' back backN
  clear F N X T
  walk_at "steps"
  all_goals (try dsimp only)
  · refine back _ _ _ _ _ (by assumption) (by assumption) (fun F N ap9 ht => ?_)
    have hn : l ≠ [] := by rintro rfl; simp at *
    refine retS (y := S (fmt k l)) ?_ (ret _ _ _ ht F (News.sub N fun p hp => List.mem_append_right _ hp))
    rw [fmt, if_neg hn]
    walk_at "texts"
    rfl
  · refine back _ _ _ _ _ (by assumption) (by assumption) (fun F N ap9 ht => ?_)
    have hn : l = [] := by cases l with | nil => rfl | cons a r => (simp at *)
    refine retS (y := S (fmt k l)) ?_ (ret _ _ _ ht F (News.sub N fun p hp => List.mem_append_right _ hp))
    rw [fmt, if_pos hn]
end
section
theorem wTop_Conv : True ∧ True := by
  w_top off
  (try (walk1; fail))
  exact ⟨trivial, trivial⟩
local macro_rules | `(tactic| walk_at "getMethod ref") => `(tactic| (first
  | (refine getMethod_pat (patN (by k_in)) slot_search type_search ?_)
  | (refine getMethod_pat (patV (by k_in)) slot_search type_search ?_)))
local macro_rules | `(tactic| walk_at "call builtin:re.Pattern.search") => `(tactic| (first
  | (refine searchN (by k_in) ‹_› (by omega) ?_)
  | (refine searchV (by k_in) ‹_› (by omega) ?_)))

set_option maxHeartbeats 4000000 in
theorem convert_spec (F : Fr h₀ L s.heap m) (N : News h₀ L s.heap news) (X : (KF w.params).In h₀) (T : Top p loose mean mg mb h₀) (r : Room A 1 10) (ht : 0 < s.toks)
  (v : Value) (l : List Nat) (t : Tok) (b : Bool) (hl : ∀ c ∈ l, ok c) (hn : l.length ≤ 1000000)
  (ret : ∀ h' tk', s.toks ≤ tk' → Fr h₀ L h' m → News h₀ L h' news → Q (.str (S l) t) { s with heap := h', toks := tk' }) :
  wpAny (model prg w) A (call (.ref 149) [v, .str (S l) t] [("name", .bool b)]) Q E s := by
  refine' enterM (binds := [("self", v), ("value", .str (S l) t), ("name", .bool b)]) (led := []) F N Apart.nil X T r ht ?k6 ?k7 ?k9 ?kB ?_ ?c5 ?c2 ?c3 ?c4
  walk_at "enter"
  intro g' L' h' tk' dp fr gd un Qb F' N' X' T' r' l1 ht' htt' back backN
  clear F N X T
  walk_at "steps"
  all_goals (try dsimp only)
  all_goals exact back _ _ _ _ _ (by assumption) (by assumption) (fun F N ap9 ht => ret _ _ ht F (News.sub N fun p hp => List.mem_append_right _ hp))

theorem convert_lit (F : Fr h₀ L s.heap m) (N : News h₀ L s.heap news) (X : (KF w.params).In h₀) (T : Top p loose mean mg mb h₀) (r : Room A 1 10) (ht : 0 < s.toks)
  (v : Value) (y : Str) (l : List Nat) (hy : y = S l) (t : Tok) (b : Bool) (hl : ∀ c ∈ l, ok c) (hn : l.length ≤ 1000000)
  (ret : ∀ h' tk', s.toks ≤ tk' → Fr h₀ L h' m → News h₀ L h' news → Q (.str y t) { s with heap := h', toks := tk' }) :
  wpAny (model prg w) A (call (.ref 149) [v, .str y t] [("name", .bool b)]) Q E s := by
  subst hy
  exact convert_spec F N X T r ht v l t b hl hn ret
end
section
theorem wTop_Add : True ∧ True := by
  w_top off
  (try (walk1; fail))
  exact ⟨trivial, trivial⟩
theorem ok_now : ∀ c ∈ [110, 95, 111, 95, 119], ok c := by
  intro c hc
  simp only [List.mem_cons, List.not_mem_nil, or_false] at hc
  unfold ok
  omega
local macro_rules | `(tactic| walk_at "call ref") => `(tactic| (first
  | ((with_reducible show wpAny _ _ (call (Value.ref 149) _ _) _ _ _); (refine convert_spec ‹_› ‹_› ‹_› ‹_› (by walk_at "room") (by walk_at "tk") _ _ _ _ ‹_› (by omega) ?_); intro h9 tk9 ht9 F9 N9; try dsimp only)
  | ((with_reducible show wpAny _ _ (call (Value.ref 149) _ _) _ _ _); (refine convert_lit ‹_› ‹_› ‹_› ‹_› (by walk_at "room") (by walk_at "tk") _ _ _ lit_now _ _ ok_now (by decide) ?_); intro h9 tk9 ht9 F9 N9; try dsimp only)
  | ((with_reducible show wpAny _ _ (call (Value.ref 127) _ _) _ _ _); (refine formatparam_spec ‹_› ‹_› ‹_› ‹_› (by walk_at "room") (by walk_at "tk") _ _ _ _ (by first | decide | omega) (by omega) ?_); intro t9 h9 tk9 ht9 F9 N9; try dsimp only)))

set_option maxHeartbeats 4000000 in
theorem addHeader_spec {rest : List (Addr × Obj)} {x dx hl : Addr} {t0 : Tok} {vs : List Value} {n : Nat} (F : Fr h₀ L s.heap m) (N : News h₀ L s.heap (hdLed w x dx hl t0 vs n ++ rest)) (hap : Apart (hdLed w x dx hl t0 vs n) rest)
  (X : (KF w.params).In h₀) (T : Top p loose mean mg mb h₀) (r : Room A 5 40) (ht : 0 < s.toks)
  (e1 : @Ne Nat x dx) (e2 : @Ne Nat x hl) (e3 : @Ne Nat dx hl) (la lb lc : List Nat) (tn tv tp : Tok) (ok1 : ∀ c ∈ la, ok c) (ok2 : ∀ c ∈ lb, ok c) (ok3 : ∀ c ∈ lc, ok c) (b1 : la.length ≤ 100) (b2 : lb.length ≤ 100) (b3 : lc.length ≤ 100) (hvs : vs.length ≤ 100)
  (ret : ∀ a t1 t2 n' h' tk', s.toks ≤ tk' → Fr h₀ L h' m → News h₀ L h' ((a, tup [.str (S la) t1, .str (S (lb ++ [59, 32] ++ fmt [110, 45, 111, 45, 119] lc)) t2]) :: (hdLed w x dx hl t0 (vs ++ [.ref a]) n' ++ rest)) →
    (@LT.lt Nat _ x a ∧ @LT.lt Nat _ dx a ∧ @LT.lt Nat _ hl a) → (∀ p ∈ rest, p.1 ≠ a) → Q .none { s with heap := h', toks := tk' }) :
  wpAny (model prg w) A (call (.ref 247) [.ref x, .str (S la) tn, .str (S lb) tv] [("n_o_w", .str (S lc) tp)]) Q E s := by
  have hf := fmt_len (rep1 95 [45] [110, 95, 111, 95, 119]) lc
  have hf1 : (rep1 95 [45] [110, 95, 111, 95, 119]).length = 5 := by decide
  refine' enterKw (DD := [(.str "n_o_w", .str (S lc))]) (ex := [("n_o_w", .str (S lc) tp)]) (nm := "_params") (front := [("self", .ref x), ("_name", .str (S la) tn), ("_value", .str (S lb) tv)]) F N hap X T r ht ?k6 ?k7 ?kn ?kd ?kp ?kk ?kB ?_ ?c5 ?c2 ?c3 ?c4
  case k6 => k_is
  case k7 => k_is
  case kn => rfl
  case kd => exact .cons (.str _ _) .nil
  case kp => rfl
  case kk => intro D; rfl
  case kB => intro D; exact locs rfl
  case c5 => decide
  case c2 => rfl
  case c3 => rfl
  case c4 => rfl
  intro D o g' L' h' tk' dp fr gd un Qb l0 hmod hIs hFl F' N' X' T' r' l1 ht' htt' back backN
  clear F N X T
  k_lt l0
  k_lt l1
  walk_at "steps"
  refine backN _ _ _ _ (by assumption) (by assumption) (fun F N ap9 ht => ?_)
  rw [show rep1 95 [45] [110, 95, 111, 95, 119] = [110, 45, 111, 45, 119] from by decide] at N
  simp only [List.push_toArray, List.append_assoc] at N ret
  refine' ret ?aq ?t1q ?t2q ?nq ?hq ?tkq ht F (News.sub N ?sub) ?lt ?ap
  case sub =>
    intro p hp
    rcases List.mem_cons.mp hp with hp | hp
    · rw [hp]; exact List.mem_append_left _ (by k_mem)
    rcases List.mem_append.mp hp with hp | hp
    · rcases List.mem_cons.mp hp with hp | hp
      · rw [hp]; exact List.mem_append_left _ (by k_mem)
      rcases List.mem_cons.mp hp with hp | hp
      · rw [hp]; exact List.mem_append_left _ (by k_mem)
      rcases List.mem_cons.mp hp with hp | hp
      · rw [hp]; exact List.mem_append_left _ (by k_mem)
      · nomatch hp
    · exact List.mem_append_right _ hp
  case lt => exact ⟨by omega, by omega, by omega⟩
  case ap => exact fun p hp => ap9 p hp (_, _) (by k_mem)
end
section
theorem wTop_Mk : True ∧ True := by
  w_top off
  (try (walk1; fail))
  exact ⟨trivial, trivial⟩
set_option maxHeartbeats 4000000 in
theorem initHeaders_code {R : Result → Shared → Prop} {x dx : Addr} (F : Fr h₀ L s.heap m) (N : News h₀ L s.heap ([(x, instObj 250 dx), (dx, dictOf [] 0)] ++ news)) (hap : Apart [(x, instObj 250 dx), (dx, dictOf [] 0)] news)
  (X : (KF w.params).In h₀) (T : Top p loose mean mg mb h₀) (r : Room A 5 40) (ht : 0 < s.toks) (e1 : @LT.lt Nat _ dx x)
  (ret : ∀ hl t0 h' tk', s.toks ≤ tk' → Fr h₀ L h' m → News h₀ L h' (hdLed w x dx hl t0 [] 0 ++ news) → (@LT.lt Nat _ x hl) → R (.ok (.ret .none)) { s with heap := h', toks := tk' }) :
  codeAny (model prg w) A (.call (.ref 142) ⟨[.ref x], []⟩) R s := by
  refine' enterMc (binds := [("self", .ref x), ("headers", .none)]) F N hap X T r ht ?k6 ?k7 ?k9 ?kB ?_ ?c5 ?c2 ?c3 ?c4
  walk_at "enter"
  intro g' L' h' tk' dp fr gd un Qb F' N' X' T' r' l1 ht' htt' back backN
  clear F N X T
  k_lt l1
  walk_at "steps"
  refine backN _ _ _ _ (by assumption) (by assumption) (fun F N ap9 ht => ?_)
  refine' ret ?a ?t ?h ?tk ht F (News.sub N ?sub) ?lt
  case sub => walk_at "sub"
  case lt => walk_at "lt"

theorem newHeaders_spec (F : Fr h₀ L s.heap m) (N : News h₀ L s.heap news) (X : (KF w.params).In h₀) (T : Top p loose mean mg mb h₀) (r : Room A 6 43) (ht : 0 < s.toks)
  (ret : ∀ x dx hl t0 h' tk', s.toks ≤ tk' → Fr h₀ L h' m → News h₀ L h' (hdLed w x dx hl t0 [] 0 ++ news) → (∀ p ∈ news, @LT.lt Nat _ p.1 dx) → (@LT.lt Nat _ dx x) → (@LT.lt Nat _ x hl) → Q (.ref x) { s with heap := h', toks := tk' }) :
  wpAny (model prg w) A (call (.ref 250) [] []) Q E s := by
  refine call_cls (fI := 142) F X N (by k_is) (by k_is) (by k_is) (fun x dx h' F1 N1 l1 l2 => ?_)
  refine initHeaders_code (s := { s with heap := h' }) F1 N1 (fun p hp q hq => ?_) X T (Room.made r) ht l2 (fun hl t0 h'' tk' ht' F2 N2 l3 => ?_)
  · rcases List.mem_cons.mp hq with rfl | hq
    · exact Nat.ne_of_lt (Nat.lt_trans (l1 p hp) l2)
    · obtain rfl := List.mem_singleton.mp hq
      exact Nat.ne_of_lt (l1 p hp)
  · exact ⟨rfl, ret x dx hl t0 h'' tk' ht' F2 N2 l1 l2 l3⟩
end
section
theorem wTop_I2A : True ∧ True := by
  w_top off
  (try (walk1; fail))
  exact ⟨trivial, trivial⟩
noncomputable def apBytes : Array UInt8 := #[65, 66, 67, 68, 69, 70, 71, 72, 73, 74, 75, 76, 77, 78, 79, 80]
local macro_rules | `(tactic| walk_at "eval Name") => `(tactic| (k_dflt (refine ld (by k_asm) ‹_› ?_)))

local macro_rules | `(tactic| walk_at "binaryOp Add bytes bytes") => `(tactic| (k_dflt (refine KBy.add_bytes (by rw [toB_size, toB_size]; simp only [List.length_cons, List.length_nil]; omega) ?_); intro t9 k9; rw [toB_append]))

theorem picked_ap : ∀ k, k < 16 → KBy.picked apBytes (some ((k : Nat) : Int)) (some ((k : Nat) + 1 : Int)) = toB [65 + k] := by decide +kernel

noncomputable def apJ (n0 : Nat) : Nat → (Str → Option Value) → List (Addr × Obj) → Prop := fun k m news => news = [] ∧ ∃ v tx tv tA, m "num" = some (.int (k : Int) tx) ∧ m "val" = some (.bytes (toB v) tv) ∧ m "AP" = some (.bytes apBytes tA) ∧ apL k ++ v = apL n0

set_option maxHeartbeats 4000000 in
theorem int2ap_spec (F : Fr h₀ L s.heap m) (N : News h₀ L s.heap news) (X : (KF w.params).In h₀) (T : Top p loose mean mg mb h₀) (r : Room A 5 40) (ht : 0 < s.toks)
  (z : Int) (tz : Tok) (hz : z.natAbs < 16 ^ 7)
  (ret : ∀ t h' tk', s.toks ≤ tk' → Fr h₀ L h' m → News h₀ L h' news → Q (.bytes (toB (apL z.natAbs)) t) { s with heap := h', toks := tk' }) :
  wpAny (model prg w) A (call (.ref 45) [.int z tz] []) Q E s := by
  refine' enterM (led := []) (binds := [("num", .int z tz)]) F N Apart.nil X T r ht ?k6 ?k7 ?k9 ?kB ?_ ?c5 ?c2 ?c3 ?c4
  walk_at "enter"
  intro g' L' h' tk' dp fr gd un Qb F' N' X' T' r' l1 ht' htt' back backN
  clear F N X T
  walk_at "stepsW"
  refine While_inv2 (apJ z.natAbs) (n₀ := z.natAbs) (by assumption) (by assumption) ?_ (fun n m₁ news₁ h₁ tk₁ F₁ N₁ hJ => ?_)
  · refine ⟨rfl, [], ?_, ?_, ?_, ?_, ?_, ?_, by simp⟩
    rotate_left
    rotate_left
    rotate_left
    · show some (Value.int (if z < 0 then -z else z) _) = _
      rw [show (if z < 0 then -z else z) = (z.natAbs : Int) from by split <;> omega]
    · rfl
    · rfl
  · obtain ⟨rfl, v, tx, tv, tA, m1, m2, m3, hv⟩ := hJ
    have hlen : v.length ≤ 7 := by
      have h1 := apL_len 7 z.natAbs hz
      rw [← hv, List.length_append] at h1
      omega
    walk_at "stepsW"
    · refine withT ?_
      refine KBc.slice_K (s := ⟨_, _, _, _, _⟩) (by assumption) (by assumption) rfl (by constructor) (by constructor) (by decide) ?_
      intro h9 t9 k9 F9 N9 _
      refine Wt.intro fun htw => ?_
      dsimp only at htw ⊢
      have hm : ((n : Int).fmod 16) = ((n % 16 : Nat) : Int) := by rw [Int.fmod_eq_emod_of_nonneg _ (by decide)]; omega
      rw [hm, picked_ap (n % 16) (Nat.mod_lt _ (by decide))]
      walk_at "stepsW"
      have h0 : n ≠ 0 := by intro h; subst h; simp at *
      refine' ⟨_, _, ?m2, [], n / 16, rfl, ?F, News.nil, ?lt, rfl, [65 + n % 16] ++ v, ?t1, ?t2, tA, ?p1, ?p2, ?p3, ?p4⟩
      case F => assumption
      case lt => omega
      case p3 => exact m3
      case p2 => rfl
      case p4 => rw [← List.append_assoc, ← apL_step h0]; exact hv
      case p1 =>
        show some (Value.int ((n : Int).fdiv 16) _) = _
        rw [show ((n : Int).fdiv 16) = ((n / 16 : Nat) : Int) from by rw [Int.fdiv_eq_ediv_of_nonneg _ (by decide)]; omega]
    · dsimp only
      have h0 : n = 0 := by
        rename_i hc
        by_cases h : n = 0
        · exact h
        · exact absurd (by simp; omega) hc
      subst h0
      rw [apL_zero, List.nil_append] at hv
      subst hv
      exact back _ _ _ _ _ F₁ N₁ (fun F N ap9 ht => ret _ _ _ ht F (News.sub N fun p hp => List.mem_append_right _ hp))
end
section
theorem wTop_Word : True ∧ True := by
  w_top off
  (try (walk1; fail))
  exact ⟨trivial, trivial⟩
noncomputable def wordL (z : Int) (mk : Nat) : List Nat := if z < 0 then mk :: apL z.natAbs else apL z.natAbs
theorem wordL_pos {z : Int} {mk : Nat} (h : z < 0) : wordL z mk = mk :: apL z.natAbs := by simp [wordL, h]
theorem wordL_neg {z : Int} {mk : Nat} (h : ¬ z < 0) : wordL z mk = apL z.natAbs := by simp [wordL, h]
theorem lit_ascii : (S [97, 115, 99, 105, 105]) = Str.ofString "ascii" := by decide +kernel
local macro_rules | `(tactic| walk_at "call ref") => `(tactic| (first
  | ((with_reducible show wpAny _ _ (call (Value.ref 45) _ _) _ _ _); (refine int2ap_spec ‹_› ‹_› ‹_› ‹_› (by walk_at "room") (by walk_at "tk") _ _ ‹_› ?_); intro t9 h9 tk9 ht9 F9 N9; try dsimp only)))
local macro_rules | `(tactic| walk_at "call builtin:bytes.decode") => `(tactic| ((refine decodeA (fun c hc => Nat.lt_of_le_of_lt (apL_mem _ _ hc).2 (by decide)) (Nat.le_trans (apL_len 7 _ ‹_›) (by decide)) ?_); intro t9 k9 ht9; try dsimp only))

set_option maxHeartbeats 4000000 in
theorem word_spec (F : Fr h₀ L s.heap m) (N : News h₀ L s.heap news) (X : (KF w.params).In h₀) (T : Top p loose mean mg mb h₀) (r : Room A 7 50) (ht : 0 < s.toks)
  (z : Int) (tz : Tok) (mk : Nat) (tm : Tok) (hz : z.natAbs < 16 ^ 7)
  (ret : ∀ t h' tk', s.toks ≤ tk' → Fr h₀ L h' m → News h₀ L h' news → Q (.str (S (wordL z mk)) t) { s with heap := h', toks := tk' }) :
  wpAny (model prg w) A (call (.ref 268) [.int z tz, .str (S [mk]) tm] []) Q E s := by
  refine' enterM (led := []) (binds := [("number", .int z tz), ("mark", .str (S [mk]) tm)]) F N Apart.nil X T r ht ?k6 ?k7 ?k9 ?kB ?_ ?c5 ?c2 ?c3 ?c4
  walk_at "enter"
  intro g' L' h' tk' dp fr gd un Qb F' N' X' T' r' l1 ht' htt' back backN
  clear F N X T
  have hlen := apL_len 7 z.natAbs hz
  walk_at "steps"
  · refine back _ _ _ _ _ (by assumption) (by assumption) (fun F N ap9 ht => ?_)
    refine retS ?_ (ret _ _ _ ht F (News.sub N (by walk_at "sub")))
    rw [wordL_pos (by assumption), S_append]; rfl
  · refine back _ _ _ _ _ (by assumption) (by assumption) (fun F N ap9 ht => ?_)
    refine retS ?_ (ret _ _ _ ht F (News.sub N (by walk_at "sub")))
    rw [wordL_neg (by assumption)]
end
section
theorem wTop_Items : True ∧ True := by
  w_top off
  (try (walk1; fail))
  exact ⟨trivial, trivial⟩
set_option maxHeartbeats 4000000 in
theorem items_spec {rest : List (Addr × Obj)} {x dx hl : Addr} {t0 : Tok} {vs : List Value} {n : Nat} (F : Fr h₀ L s.heap m) (N : News h₀ L s.heap (hdLed w x dx hl t0 vs n ++ rest)) (hap : Apart (hdLed w x dx hl t0 vs n) rest)
  (X : (KF w.params).In h₀) (T : Top p loose mean mg mb h₀) (r : Room A 5 40) (ht : 0 < s.toks) (hvs : vs.length ≤ 100)
  (ret : ∀ a h' tk', s.toks ≤ tk' → Fr h₀ L h' m → News h₀ L h' ((a, lst vs 0) :: (hdLed w x dx hl t0 vs n ++ rest)) → (@LT.lt Nat _ x a ∧ @LT.lt Nat _ dx a ∧ @LT.lt Nat _ hl a) → (∀ p ∈ rest, p.1 ≠ a) → Q (.ref a) { s with heap := h', toks := tk' }) :
  wpAny (model prg w) A (call (.ref 214) [.ref x] []) Q E s := by
  refine' enterM (binds := [("self", .ref x)]) F N hap X T r ht ?k6 ?k7 ?k9 ?kB ?_ ?c5 ?c2 ?c3 ?c4
  walk_at "enter"
  intro g' L' h' tk' dp fr gd un Qb F' N' X' T' r' l1 ht' htt' back backN
  clear F N X T
  k_lt l1
  have hL9 : @LT.lt Nat _ L' h'.objs.size := F'.ns.lt
  walk_at "steps"
  all_goals (try dsimp only)
  refine back _ _ _ _ _ (by assumption) (by assumption) (fun F N ap9 ht => ?_)
  rw [PySem.slicePick_all] at N
  refine' ret ?a ?h ?tk ht F (News.sub N ?sub) ?lt ?ap
  case sub => walk_at "sub"
  case lt => exact ⟨by walk_at "lt", by walk_at "lt", by walk_at "lt"⟩
  case ap => exact fun p hp => ap9 p hp (_, _) (by k_mem)
end
section
theorem wTop_LF : True ∧ True := by
  w_top off
  (try (walk1; fail))
  exact ⟨trivial, trivial⟩
theorem small7 {z : Int} (h : z.natAbs ≤ 1000000) : z.natAbs < 16 ^ 7 := by omega
theorem item_a : Txt.item (Str.ofString "ab") (0 + ((0 : Nat) : Int)) = S [97] := by decide +kernel
theorem item_b : Txt.item (Str.ofString "ab") (0 + ((1 : Nat) : Int)) = S [98] := by decide +kernel
theorem apart_hd {w : World} {x dx hl : Addr} {t0 : Tok} {vs : List Value} {n : Nat} {rest : List (Addr × Obj)} (h : ∀ p ∈ rest, @LT.lt Nat _ p.1 dx) (h1 : @LT.lt Nat _ dx x) (h2 : @LT.lt Nat _ x hl) : Apart (hdLed w x dx hl t0 vs n) rest := by
  intro p hp q hq
  have h3 := h p hp
  simp only [List.mem_cons, List.not_mem_nil, or_false] at hq
  rcases hq with rfl | rfl | rfl <;> (show @Ne Nat _ _; dsimp only; omega)
theorem apart_hd2 {w : World} {x dx hl a : Addr} {o : Obj} {t0 : Tok} {vs : List Value} {n : Nat} {rest : List (Addr × Obj)} (h : ∀ p ∈ rest, @LT.lt Nat _ p.1 dx) (h1 : @LT.lt Nat _ dx x) (h2 : @LT.lt Nat _ x hl) (h4 : @LT.lt Nat _ x a ∧ @LT.lt Nat _ dx a ∧ @LT.lt Nat _ hl a) : Apart (hdLed w x dx hl t0 vs n) ((a, o) :: rest) := by
  intro p hp q hq
  rcases List.mem_cons.mp hp with rfl | hp
  · simp only [List.mem_cons, List.not_mem_nil, or_false] at hq
    rcases hq with rfl | rfl | rfl <;> (show @Ne Nat _ _; dsimp only; omega)
  · exact apart_hd h h1 h2 p hp q hq
theorem apart_head2 {w : World} {x dx hl ta tb : Addr} {oa ob : Obj} {t0 : Tok} {vs : List Value} {n : Nat} {i i' j' : Addr × Obj} {rest : List (Addr × Obj)} (h : ∀ p ∈ rest, @LT.lt Nat _ p.1 dx) (h1 : @LT.lt Nat _ dx x) (h2 : @LT.lt Nat _ x hl) (ha : ∀ p ∈ i :: rest, p.1 ≠ ta) (hb : ∀ p ∈ i' :: j' :: rest, p.1 ≠ tb) : Apart (hdLed w x dx hl t0 vs n ++ [(ta, oa), (tb, ob)]) rest := by
  intro p hp q hq
  rcases List.mem_append.mp hq with hq | hq
  · exact apart_hd h h1 h2 p hp q hq
  · simp only [List.mem_cons, List.not_mem_nil, or_false] at hq
    rcases hq with rfl | rfl
    · exact ha p (List.mem_cons_of_mem _ hp)
    · exact hb p (List.mem_cons_of_mem _ (List.mem_cons_of_mem _ hp))
theorem hd_swap {h₀ h : Heap} {L : Addr} {p a b c : Addr × Obj} {rest : List (Addr × Obj)} (N : News h₀ L h (p :: a :: b :: c :: rest)) : News h₀ L h ([a, b, c] ++ (p :: rest)) := News.sub N (by (try simp only [List.cons_append, List.nil_append]); walk_at "subs")
theorem hd_swap2 {h₀ h : Heap} {L : Addr} {p r a b c : Addr × Obj} {rest : List (Addr × Obj)} (N : News h₀ L h (p :: r :: a :: b :: c :: rest)) : News h₀ L h ([a, b, c] ++ (p :: r :: rest)) := News.sub N (by (try simp only [List.cons_append, List.nil_append]); walk_at "subs")
theorem apart_cons {w : World} {x dx hl a : Addr} {o : Obj} {t0 : Tok} {vs : List Value} {n : Nat} {rest : List (Addr × Obj)} (h4 : @Ne Nat x a ∧ @Ne Nat dx a ∧ @Ne Nat hl a) (h : Apart (hdLed w x dx hl t0 vs n) rest) : Apart (hdLed w x dx hl t0 vs n) ((a, o) :: rest) := by
  intro p hp q hq
  rcases List.mem_cons.mp hp with rfl | hp
  · simp only [List.mem_cons, List.not_mem_nil, or_false] at hq
    rcases hq with rfl | rfl | rfl <;> (show @Ne Nat _ _; dsimp only; omega)
  · exact h p hp q hq
theorem unr_end4 {L I : Addr} {it : Obj} {rst : (Str → Option Value) → List (Addr × Obj) → Prop} {s₁ : Shared} {h₀ h' : Heap} {tk : Nat} {m' : Str → Option Value} {p0 p1 p2 p3 : Addr × Obj} {rest : List (Addr × Obj)} {dx : Addr} (F : Fr h₀ L h' m') (N : News h₀ L h' (p0 :: p1 :: p2 :: p3 :: (I, it) :: rest))
    (h : ∀ p ∈ rest, @LT.lt Nat _ p.1 dx) (hi : @LT.lt Nat _ dx I) (e0 : p0.2 ≠ it) (e : @Ne Nat p1.1 I ∧ @Ne Nat p2.1 I ∧ @Ne Nat p3.1 I) (r : rst m' (p0 :: p1 :: p2 :: p3 :: rest)) : UnrEnd h₀ L s₁ I it rst { s₁ with heap := h', toks := tk } :=
  UnrEnd.intro F N _ (by walk_at "subs") (fun q hq => by
    rcases List.mem_cons.mp hq with rfl | hq
    · exact news_ne N (List.Mem.head _) (List.mem_cons_of_mem _ (List.mem_cons_of_mem _ (List.mem_cons_of_mem _ (List.mem_cons_of_mem _ (List.Mem.head _))))) e0
    rcases List.mem_cons.mp hq with rfl | hq
    · exact e.1
    rcases List.mem_cons.mp hq with rfl | hq
    · exact e.2.1
    rcases List.mem_cons.mp hq with rfl | hq
    · exact e.2.2
    · exact Nat.ne_of_lt (Nat.lt_trans (h q hq) hi)) r
theorem unr_end5 {L I : Addr} {it : Obj} {rst : (Str → Option Value) → List (Addr × Obj) → Prop} {s₁ : Shared} {h₀ h' : Heap} {tk : Nat} {m' : Str → Option Value} {p0 p1 p2 p3 p4 : Addr × Obj} {rest : List (Addr × Obj)} {dx : Addr} (F : Fr h₀ L h' m') (N : News h₀ L h' (p0 :: p1 :: p2 :: p3 :: (I, it) :: p4 :: rest))
    (h : ∀ p ∈ rest, @LT.lt Nat _ p.1 dx) (hi : @LT.lt Nat _ dx I) (e0 : p0.2 ≠ it) (e4 : p4.2 ≠ it) (e : @Ne Nat p1.1 I ∧ @Ne Nat p2.1 I ∧ @Ne Nat p3.1 I) (r : rst m' (p0 :: p1 :: p2 :: p3 :: p4 :: rest)) : UnrEnd h₀ L s₁ I it rst { s₁ with heap := h', toks := tk } :=
  UnrEnd.intro F N _ (by walk_at "subs") (fun q hq => by
    rcases List.mem_cons.mp hq with rfl | hq
    · exact news_ne N (.head _) (.tail _ (.tail _ (.tail _ (.tail _ (.head _))))) e0
    rcases List.mem_cons.mp hq with rfl | hq
    · exact e.1
    rcases List.mem_cons.mp hq with rfl | hq
    · exact e.2.1
    rcases List.mem_cons.mp hq with rfl | hq
    · exact e.2.2
    rcases List.mem_cons.mp hq with rfl | hq
    · exact news_ne N (.tail _ (.tail _ (.tail _ (.tail _ (.tail _ (.head _)))))) (.tail _ (.tail _ (.tail _ (.tail _ (.head _))))) e4
    · exact Nat.ne_of_lt (Nat.lt_trans (h q hq) hi)) r
theorem hd2_of {h₀ h : Heap} {L : Addr} {a b c p q : Addr × Obj} {rest : List (Addr × Obj)} (N : News h₀ L h (q :: a :: b :: c :: p :: rest)) : News h₀ L h (([a, b, c] ++ [p, q]) ++ rest) := News.sub N (by (try simp only [List.cons_append, List.nil_append]); walk_at "subs")
theorem nm_ok (d : Nat) (c : Nat) (hc : ok c) : ∀ x ∈ List.replicate d 46 ++ [c], ok x := by
  intro x hx
  rcases List.mem_append.mp hx with h | h
  · rw [List.eq_of_mem_replicate h]; unfold ok; omega
  · rw [List.mem_singleton.mp h]; exact hc
theorem nm_len (d c : Nat) (h : d ≤ 50) : (List.replicate d 46 ++ [c]).length ≤ 100 := by simp; omega
theorem word_ok {z : Int} {mk : Nat} (h : isMark mk) : ∀ c ∈ wordL z mk, ok c := by
  intro c hc
  unfold ok
  unfold wordL at hc
  unfold isMark at h
  split at hc
  · rcases List.mem_cons.mp hc with rfl | hc
    · omega
    · have := apL_mem _ _ hc; omega
  · have := apL_mem _ _ hc; omega
theorem word_len {z : Int} {mk : Nat} (h : z.natAbs < 16 ^ 7) : (wordL z mk).length ≤ 8 := by
  have := apL_len 7 _ h
  unfold wordL
  split
  · simp only [List.length_cons]; omega
  · omega
theorem addHeader_x {rest : List (Addr × Obj)} {x dx hl : Addr} {t0 : Tok} {vs : List Value} {n : Nat} (F : Fr h₀ L s.heap m) (N : News h₀ L s.heap (hdLed w x dx hl t0 vs n ++ rest)) (hap : Apart (hdLed w x dx hl t0 vs n) rest)
  (X : (KF w.params).In h₀) (T : Top p loose mean mg mb h₀) (r : Room A 5 40) (ht : 0 < s.toks)
  (e1 : @Ne Nat x dx) (e2 : @Ne Nat x hl) (e3 : @Ne Nat dx hl) (la lb lc : List Nat) (y : Str) (hy : y = S lb) (tn tv tp : Tok) (ok1 : ∀ c ∈ la, ok c) (ok2 : ∀ c ∈ lb, ok c) (ok3 : ∀ c ∈ lc, ok c) (b1 : la.length ≤ 100) (b2 : lb.length ≤ 100) (b3 : lc.length ≤ 100) (hvs : vs.length ≤ 100)
  (ret : ∀ a t1 t2 n' h' tk', s.toks ≤ tk' → Fr h₀ L h' m → News h₀ L h' ((a, tup [.str (S la) t1, .str (S (lb ++ [59, 32] ++ fmt [110, 45, 111, 45, 119] lc)) t2]) :: (hdLed w x dx hl t0 (vs ++ [.ref a]) n' ++ rest)) →
    (@LT.lt Nat _ x a ∧ @LT.lt Nat _ dx a ∧ @LT.lt Nat _ hl a) → (∀ p ∈ rest, p.1 ≠ a) → Q .none { s with heap := h', toks := tk' }) :
  wpAny (model prg w) A (call (.ref 247) [.ref x, .str (S la) tn, .str y tv] [("n_o_w", .str (S lc) tp)]) Q E s := by
  subst hy
  exact addHeader_spec F N hap X T r ht e1 e2 e3 la lb lc tn tv tp ok1 ok2 ok3 b1 b2 b3 hvs ret
theorem x_ok : ∀ c ∈ [120], ok c := by intro c hc; rw [List.mem_singleton.mp hc]; unfold ok; omega
local macro_rules | `(tactic| walk_at "lits") => `(tactic| with_reducible first | exact rfl | exact item_a | exact item_b)

local macro_rules | `(tactic| walk_at "binaryOp Mult str int") => `(tactic| (refine dotsM (by exact rfl) (by omega) ?_; intro t9 k9 ht9; try dsimp only))
local macro_rules | `(tactic| walk_at "call ref") => `(tactic| (first
  | ((with_reducible show wpAny _ _ (call (Value.ref 250) _ _) _ _ _); (refine newHeaders_spec ‹_› ‹_› ‹_› ‹_› (by walk_at "room") (by walk_at "tk") ?_); intro x9 dx9 hl9 t09 h9 tk9 ht9 F9 N9 la9 lb9 lc9; simp only [List.cons_append, List.nil_append] at N9; try dsimp only)
  | ((with_reducible show wpAny _ _ (call (Value.ref 268) _ _) _ _ _); (refine word_spec ‹_› ‹_› ‹_› ‹_› (by walk_at "room") (by walk_at "tk") _ _ _ _ (small7 ‹_›) ?_); intro t9 h9 tk9 ht9 F9 N9; try dsimp only)
  | ((with_reducible show wpAny _ _ (call (Value.ref 247) _ _) _ _ _); (refine addHeader_x ‹_› (by first | exact hd_swap ‹_› | exact hd_swap2 ‹_›) (by first | walk_at "apart" | (refine apart_cons ⟨by omega, by omega, by omega⟩ ?_; walk_at "apart")) ‹_› ‹_› (by walk_at "room") (by walk_at "tk") (by walk_at "ne") (by walk_at "ne") (by walk_at "ne") _ _ _ _ lit_x _ _ _ (nm_ok _ _ (by unfold ok; omega)) x_ok (word_ok ‹_›) (nm_len _ _ (by omega)) (by decide) (Nat.le_trans (word_len (small7 ‹_›)) (by decide)) (by simp) ?_); intro a9 t19 t29 n9 h9 tk9 ht9 F9 N9 lt9 ap9; simp only [List.cons_append, List.nil_append] at N9; try dsimp only)))
local macro_rules | `(tactic| walk_at "apart") => `(tactic| exact apart_cons ⟨by omega, by omega, by omega⟩ (apart_hd ‹_› ‹_› ‹_›))
set_option maxHeartbeats 2000000 in
theorem law_hd {f : Addr} {cd : Value} {led : List (Addr × Obj)} {i : Nat} (hi : i = 7 ∨ i = 9) {Qb : Flow → Shared → Prop} (F : Fr h₀ L s.heap m) (N : News h₀ L s.heap led)
  (X : (KF w.params).In h₀) (T : Top p loose mean mg mb h₀) (r : Room A 15 150) (ht : 0 < s.toks)
  (ret : ∀ x dx hl t0 h' tk' m', Agree [if i = 7 then "head" else "book"] m m' → m' (if i = 7 then "head" else "book") = some (.ref x) → Fr h₀ L h' m' → News h₀ L h' (hdLed w x dx hl t0 [] 0 ++ led) →
    ((@LT.lt Nat _ dx x) ∧ (@LT.lt Nat _ x hl) ∧ ∀ p ∈ led, @LT.lt Nat _ p.1 dx) → Qb .next { s with heap := h', toks := tk' }) :
  wpAny (model prg w) A (exec (lawS i) (lawEnv L f cd)) Qb (fun _ _ => False) s := by
  obtain ⟨hA, dp, fr, gd, un⟩ := A
  obtain rfl : hA = none := r.hh
  rcases hi with rfl | rfl
  · rw [show lawS 7 = Stmt.Assign _ _ _ from rfl]
    unfold lawEnv
    conv in lawScope => (whnf; dsimp only)
    walk_at "steps"
    refine' ret _ _ _ _ _ _ _ ?ag ?m1 ?F ?N ?lt
    case F => assumption
    case m1 => rfl
    case N => assumption
    case ag =>
      intro x hx
      simp only [if_true, List.mem_cons, List.not_mem_nil, or_false] at hx
      simp only [hx, if_false]
    case lt => exact ⟨by assumption, by assumption, by assumption⟩
  · rw [show lawS 9 = Stmt.Assign _ _ _ from rfl]
    unfold lawEnv
    conv in lawScope => (whnf; dsimp only)
    walk_at "steps"
    refine' ret _ _ _ _ _ _ _ ?ag ?m1 ?F ?N ?lt
    case F => assumption
    case m1 => rfl
    case N => assumption
    case ag =>
      intro x hx
      simp only [show ¬ (9 = 7) by decide, if_false, List.mem_cons, List.not_mem_nil, or_false] at hx
      simp only [hx, if_false]
    case lt => exact ⟨by assumption, by assumption, by assumption⟩
set_option maxHeartbeats 2000000 in
theorem law_heads {f : Addr} {cd : Value} {led : List (Addr × Obj)} {z0 z1 : Int} {d0 d1 : Nat} {dd D x dx hl : Addr} {mk : Nat} {ta' tb' tc td tm t0 : Tok} {n n' : Nat} {Qb : Flow → Shared → Prop} (F : Fr h₀ L s.heap m) (N : News h₀ L s.heap ((x, instObj 250 dx) :: (dx, hdDict w t0 hl) :: (hl, lst [] 0) :: (dd, lst [.int (d0 : Int) ta', .int (d1 : Int) tb'] n) :: (D, lst [.int z0 tc, .int z1 td] n') :: led))
  (X : (KF w.params).In h₀) (T : Top p loose mean mg mb h₀) (r : Room A 15 150) (ht : 0 < s.toks) (h0 : m "head" = some (.ref x)) (h1 : m "dots" = some (.ref dd)) (h2 : m "numbers" = some (.ref D)) (h3 : m "mark" = some (.str (S [mk]) tm)) (hmk : isMark mk) (hd0 : d0 < 3) (hd1 : d1 < 3) (hz0 : z0.natAbs ≤ 1000000) (hz1 : z1.natAbs ≤ 1000000)
  (q1 : @LT.lt Nat _ dx x) (q2 : @LT.lt Nat _ x hl) (q3 : ∀ p ∈ (dd, lst [.int (d0 : Int) ta', .int (d1 : Int) tb'] n) :: (D, lst [.int z0 tc, .int z1 td] n') :: led, @LT.lt Nat _ p.1 dx)
  (ret : ∀ ta tb t1 t2 t3 t4 n2 h' tk' m', Agree ["k"] m m' → Fr h₀ L h' m' →
    News h₀ L h' ((hdLed w x dx hl t0 [.ref ta, .ref tb] n2 ++ [(ta, tup [.str (S (List.replicate d0 46 ++ [97])) t1, .str (S ([120] ++ [59, 32] ++ fmt [110, 45, 111, 45, 119] (wordL z0 mk))) t2]), (tb, tup [.str (S (List.replicate d1 46 ++ [98])) t3, .str (S ([120] ++ [59, 32] ++ fmt [110, 45, 111, 45, 119] (wordL z1 mk))) t4])]) ++
      ((dd, lst [.int (d0 : Int) ta', .int (d1 : Int) tb'] n) :: (D, lst [.int z0 tc, .int z1 td] n') :: led)) →
    Apart (hdLed w x dx hl t0 [.ref ta, .ref tb] n2 ++ [(ta, tup [.str (S (List.replicate d0 46 ++ [97])) t1, .str (S ([120] ++ [59, 32] ++ fmt [110, 45, 111, 45, 119] (wordL z0 mk))) t2]), (tb, tup [.str (S (List.replicate d1 46 ++ [98])) t3, .str (S ([120] ++ [59, 32] ++ fmt [110, 45, 111, 45, 119] (wordL z1 mk))) t4])]) ((dd, lst [.int (d0 : Int) ta', .int (d1 : Int) tb'] n) :: (D, lst [.int z0 tc, .int z1 td] n') :: led) → Qb .next { s with heap := h', toks := tk' }) :
  wpAny (model prg w) A (exec (lawS 8) (lawEnv L f cd)) Qb (fun _ _ => False) s := by
  rw [show lawS 8 = Stmt.For _ _ _ _ _ from rfl]
  unfold lawEnv
  conv in lawScope => (whnf; dsimp only)
  obtain ⟨hA, dp, fr, gd, un⟩ := A
  obtain rfl : hA = none := r.hh
  have q4 := q3
  k_lt q4
  walk_at "steps"
  refine unr_end4 (by assumption) (by assumption) q3 (by omega) (fun e => absurd (show Value.type "tuple" = Value.type "range_iterator" from congrArg Obj.cls e) (by simp)) ⟨by walk_at "ne", by walk_at "ne", by walk_at "ne"⟩ ?_
  walk_at "steps"
  refine unr_end5 (by assumption) (by assumption) q3 (by omega) (fun e => absurd (show Value.type "tuple" = Value.type "range_iterator" from congrArg Obj.cls e) (by simp)) (fun e => absurd (show Value.type "tuple" = Value.type "range_iterator" from congrArg Obj.cls e) (by simp)) ⟨by walk_at "ne", by walk_at "ne", by walk_at "ne"⟩ ?_
  walk_at "steps"
  refine' ret _ _ _ _ _ _ _ _ _ _ ?ag ?F ?N ?ap
  case F => assumption
  case N => exact hd2_of (by assumption)
  case ap => exact apart_head2 q3 q1 q2 (by assumption) (by assumption)
  case ag =>
    intro x hx
    simp only [List.mem_cons, List.not_mem_nil, or_false, not_or] at hx
    simp only [hx, if_false]
end
section
theorem wTop_Num : True ∧ True := by
  w_top off
  (try (walk1; fail))
  exact ⟨trivial, trivial⟩
local macro_rules | `(tactic| walk_at "eval Name") => `(tactic| (k_dflt (refine ld (by k_asm) ‹_› ?_)))
/-- the parameter as get_token tells it -/
noncomputable def nowT (wd : List Nat) : List Nat := if wd = [] then [110, 45, 111, 45, 119] else [110, 45, 111, 45, 119, 61, 34] ++ wd ++ [34]
theorem slice_now (wd : List Nat) : Txt.slice (S (nowT wd)) (some 7) (some (-1)) = S wd := by
  unfold nowT
  split
  · rename_i h; subst h; decide +kernel
  · exact slice_word rfl
theorem nowT_len (wd : List Nat) : (nowT wd).length ≤ wd.length + 8 := by
  unfold nowT
  split
  · simp
  · simp only [List.length_append, List.length_cons, List.length_nil]; omega
theorem slice_sgn (wd : List Nat) : Txt.slice (S (nowT wd)) (some 7) (some 8) = S (wd.take 1) := by
  unfold nowT
  split
  · rename_i h; subst h; decide +kernel
  · rename_i h
    rw [slice_S (by simp only [List.length_append, List.length_cons, List.length_nil]; omega)]
    cases wd with
    | nil => exact absurd rfl h
    | cons a r => simp
theorem find_ap : ∀ k, k < 16 → Txt.find (Str.ofString "ABCDEFGHIJKLMNOP") (S [65 + k]) = (k : Int) := by decide +kernel
theorem index_ap {prog : Program} {w : World} {A : Around} {E Q : Value → Shared → Prop} {s : Shared} {c : Nat} {t u : Tok} (hA : A.handled = none) (hc : 65 ≤ c ∧ c ≤ 80) (h : Q (.int ((c : Int) - 65) s.toks) { s with toks := s.toks + 1 }) :
    wpAny (model prog w) A (call (.builtin "str.index") [.str (Str.ofString "ABCDEFGHIJKLMNOP") t, .str (S [c]) u]) Q E s := by
  have e := find_ap (c - 65) (by omega)
  rw [show 65 + (c - 65) = c by omega] at e
  refine index_or hA (fun e2 _ => ?_) (fun _ _ => ?_)
  · rw [e] at e2; omega
  · rw [e, show ((c - 65 : Nat) : Int) = (c : Int) - 65 by omega]; exact h
theorem sgn_word {z : Int} {mk : Nat} (hk : isMark mk) : (S ((wordL z mk).take 1) == S [mk]) = decide (z < 0) := by
  rw [S_beq]
  unfold wordL
  by_cases h : z < 0
  · simp [h]
  · rw [if_neg h]
    have : ¬ (apL z.natAbs).take 1 = [mk] := by
      intro e
      have : mk ∈ apL z.natAbs := List.mem_of_mem_take (e ▸ List.mem_singleton.mpr rfl)
      have := apL_mem _ _ this
      have := hk.off
      omega
    simp [h, this]
noncomputable def apV (l : List Nat) : Int := l.foldl (fun (v : Int) (c : Nat) => 16 * v + ((c : Int) - 65)) 0
theorem apV_append (l : List Nat) (c : Nat) : apV (l ++ [c]) = 16 * apV l + ((c : Int) - 65) := by simp [apV, List.foldl_append]
theorem apV_apL : ∀ n : Nat, apV (apL n) = n := by
  intro n
  induction n using Nat.strongRecOn with
  | _ n ih =>
    by_cases h : n = 0
    · subst h; rw [apL_zero]; rfl
    · rw [apL_step h, apV_append, ih (n / 16) (by omega)]; omega
inductive NInv (s : Shared) (g : Heap) (L' : Addr) (tk : Nat) (told mk : Value) (ls : List Nat) (I : Addr) (k : Nat) (s' : Shared) : Prop
  | mk (i : _) (o : _) (m : _) (h' : _) (tk' : _) (ts : _) (t9 : _)
    (c0 : s' = { s with heap := h', toks := tk' }) (c1 : tk ≤ tk') (c2 : Fr g L' h' m) (c3 : News g L' h' [(I, o)]) (c4 : SitObj o ls t9 i) (c5 : m "told" = some told) (c6 : m "mark" = some mk) (c7 : m "size" = some (.int (apV (ls.take i)) ts)) (c8 : i ≤ ls.length) (c9 : ls.length - i < k) : NInv s g L' tk told mk ls I k s'
local macro_rules | `(tactic| walk_at "call builtin:str.replace") => `(tactic| ((rw [slice_now]); (refine replaceM (by walk_at "ne") (by walk_at "ne") (by walk_at "ne") (by rw [lit_nil, S_beq]; rfl) ?ksz ?_; (case ksz => walk_at "size"); intro t9 k9 ht9; (try walk_at "texts"))))
local macro_rules | `(tactic| walk_at "call builtin:str.index") => `(tactic| (refine index_ap (by first | rfl | assumption) ‹_› ?_))
local macro_rules | `(tactic| walk_at "compareOp Eq str str") => `(tactic| (refine eq_str ?_; rw [slice_sgn, sgn_word ‹_›]))
set_option maxHeartbeats 4000000 in
theorem number_spec (F : Fr h₀ L s.heap m) (N : News h₀ L s.heap news) (X : (KF w.params).In h₀) (T : Top p loose mean mg mb h₀) (r : Room A 5 80) (ht : 0 < s.toks)
  {z : Int} {mk : Nat} {t tm : Tok} (hz : z.natAbs < 16 ^ 7) (hk : isMark mk) (hm0 : @LT.lt Nat _ 0 tm) (hm1 : @LT.lt Nat _ tm s.toks)
  (ret : ∀ t h' tk', s.toks ≤ tk' → Fr h₀ L h' m → News h₀ L h' news → Q (.int z t) { s with heap := h', toks := tk' }) :
  wpAny (model prg w) A (call (.ref 275) [.str (S (nowT (wordL z mk))) t, .str (S [mk]) tm] []) Q E s := by
  have hlen := apL_len 7 z.natAbs hz
  have hwd : rep1 mk [] (wordL z mk) = apL z.natAbs := by
    have h1 : mk ∉ apL z.natAbs := fun h => by have := apL_mem _ _ h; have := hk.off; omega
    unfold wordL
    split
    · show (if mk = mk then [] else [mk]) ++ rep1 mk [] (apL z.natAbs) = _
      rw [if_pos rfl, rep1_free' h1]; rfl
    · exact rep1_free' h1
  have hwl : (wordL z mk).length ≤ 8 := by
    unfold wordL
    split
    · simp only [List.length_cons]; omega
    · omega
  have hnl := nowT_len (wordL z mk)
  have hls : ∀ c ∈ apL z.natAbs, c < 128 := fun c hc => Nat.lt_of_le_of_lt (apL_mem _ _ hc).2 (by decide)
  refine' enterM (led := []) (binds := [("told", .str (S (nowT (wordL z mk))) t), ("mark", .str (S [mk]) tm)]) F N Apart.nil X T r ht ?k6 ?k7 ?k9 ?kB ?_ ?c5 ?c2 ?c3 ?c4
  walk_at "enter"
  intro g' L' h' tk' dp fr gd un Qb F' N' X' T' r' l1 ht' htt' back backN
  clear F N X T
  walk_at "stepsW"
  refine For_own2 (NInv s g' L' tk' (.str (S (nowT (wordL z mk))) t) (.str (S [mk]) tm) (apL z.natAbs)) ((apL z.natAbs).length + 1) ?_ ?_
  · walk_at "steps"
    rw [hwd]
    refine sit_iter (by assumption) (by assumption) hls (fun I o h3 ho F3 N3 _ => ⟨I, rfl, ?_⟩)
    refine' ⟨0, o, _, _, _, _, _, rfl, ?tk, F3, N3, ho, ?m2, ?m3, ?m4, Nat.zero_le _, by omega⟩
    case tk => dsimp only at *; omega
    case m2 => rfl
    case m3 => rfl
    case m4 => rfl
  · intro I k s' hk
    obtain ⟨i, o, m1, h1, tk1, ts, t9, rfl, htk1, F1, N1, ho, m2, m3, m4, hi, hk⟩ := hk
    refine sit_next rfl F1 N1 (fun q hq => nomatch hq) ho (fun hle h2 F2 N2 => ?_) (fun c o2 h2 hc ho2 F2 N2 => ?_)
    · have hii : i = (apL z.natAbs).length := by omega
      subst hii
      rw [List.take_length, apV_apL] at m4
      show wpAny _ _ (execs _ _) _ _ _
      walk_at "stepsW"
      · refine back _ _ _ _ _ (by assumption) (by assumption) (fun F N ap9 ht => ?_)
        rw [show -((z.natAbs : Nat) : Int) = z by omega]
        exact ret _ _ _ ht F (News.sub N (by walk_at "sub"))
      · refine back _ _ _ _ _ (by assumption) (by assumption) (fun F N ap9 ht => ?_)
        rw [show ((z.natAbs : Nat) : Int) = z by omega]
        exact ret _ _ _ ht F (News.sub N (by walk_at "sub"))
    · have hcm := apL_mem _ _ (List.mem_of_getElem? hc)
      have hib : i < (apL z.natAbs).length := by
        by_cases h : i < (apL z.natAbs).length
        · exact h
        · rw [List.getElem?_eq_none (by omega)] at hc; cases hc
      show wpAny _ _ (storeName _ _ _) _ _ _
      walk_at "stepsW"
      refine' ⟨i + 1, o2, _, _, _, _, t9, rfl, ?tk, ?F, ?N, ho2, ?m2, ?m3, ?m4, hib, by omega⟩
      case tk => omega
      case F => assumption
      case N => assumption
      case m2 => exact m2
      case m3 => exact m3
      case m4 =>
        rw [← List.take_append_getElem hib, apV_append]
        rw [List.getElem?_eq_getElem hib] at hc
        cases hc
        rfl
end
section
theorem wTop_Rd : True ∧ True := by
  w_top off
  (try (walk1; fail))
  exact ⟨trivial, trivial⟩
local macro_rules | `(tactic| walk_at "eval Name") => `(tactic| ((with_reducible show wpAny _ _ (eval (Expr.Name (PySem.Str.ofString "signs") _) _) _ _ _); k_dflt (refine nameX_F ‹_› rfl (by k_mem) ‹_› ?_ rfl rfl (by decide) (by decide))))
local macro_rules | `(tactic| walk_at "compareOp Eq ref ref") => `(tactic| k_dflt (refine eq_nilS ⟨_, News.get ‹_› (by k_mem), rfl, _, rfl⟩ ⟨_, News.get ‹_› (by k_mem), rfl, _, rfl⟩ ‹_› ‹_› (by have hu9 := Room.hu ‹_›; (try dsimp only at hu9 ⊢); omega) ?_; try simp only [List.isEmpty_cons, List.isEmpty_nil]))
local macro_rules | `(tactic| walk_at "call builtin:list.pop") => `(tactic| (k_dflt (refine' pop0 ?F ?N ?U ?z ?_; (case F => assumption); (case N => assumption); (case U => k_upd); (case z => (have hz9 := strs_len ‹_›; simp only [List.length_map, List.length_cons] at *; omega))); intro h9 F9 N9; (try dsimp only [List.nil_append, List.cons_append] at N9)))
set_option maxHeartbeats 4000000 in
theorem read_spec {cA sg c' f : Addr} {oC oc : Obj} {vs : List Value} {vn : Nat} {rp : Arguments} {rb : List Stmt} {rs : Scope} {qual : Str} {doc pm ctv : Value} {rest : List (Addr × Obj)} (F : Fr h₀ L s.heap m) (N : News h₀ L s.heap (rdLed cA oC sg vs vn c' oc f rp rb rs qual doc pm ctv ++ rest)) (hap : Apart (rdLed cA oC sg vs vn c' oc f rp rb rs qual doc pm ctv) rest)
  (X : (KF w.params).In h₀) (T : Top p loose mean mg mb h₀) (r : Room A 3 80) (ht : 0 ≤ s.toks) (ro : RdOk w oC sg oc rp rb rs qual) (e1 : @LT.lt Nat _ cA sg) (e2 : @LT.lt Nat _ sg f) (e3 : @LT.lt Nat _ c' f) (e9 : @Ne Nat c' sg)
  {l : List Nat} (hi : StrsAre vs (chars l)) (hl : ∀ c ∈ l, c < 128) (hz : l.length ≤ 100000) (t1 : Tok)
  (ret0 : l = [] → ∀ t h' tk', s.toks ≤ tk' → Fr h₀ L h' m → News h₀ L h' (rdLed cA oC sg vs vn c' oc f rp rb rs qual doc pm ctv ++ rest) → Q (.str (S []) t) { s with heap := h', toks := tk' })
  (ret1 : ∀ c l' t vs' vn' h' tk', l = c :: l' → StrsAre vs' (chars l') → s.toks ≤ tk' → Fr h₀ L h' m → News h₀ L h' (rdLed cA oC sg vs' vn' c' oc f rp rb rs qual doc pm ctv ++ rest) → Q (.str (S [c]) t) { s with heap := h', toks := tk' }) :
  wpAny (model prg w) A (call (.ref f) [.int 1 t1] []) Q E s := by
  obtain ⟨hr, hC, vc, tq, hd', hv⟩ := ro
  obtain ⟨led, hled⟩ : ∃ led, led = rdLed cA oC sg vs vn c' oc f rp rb rs qual doc pm ctv := ⟨_, rfl⟩
  have hmf := News.get N (a := f) (by k_mem)
  have hcr := codeRec_news N (c := c') (by k_mem) hd' hv
  rw [← hled] at N hap
  obtain ⟨rfl, rfl, rfl⟩ := nest_use hr rfl
  refine' enterX (cl := [("signs", cA)]) (rest := rest) (fun n b => n = led ∧ b = [(("size" : Str), Value.int 1 t1)]) X T r ht hmf rfl hcr ?kb ?kl ?_ ?c5 ?c2 ?c3 ?c4
  case kb => exact fun _ Q' E' hq => (BindsTo.of_eq rfl) _ _ _ _ (hq s.heap s.toks _ _ F N hap ⟨rfl, rfl⟩ (Nat.le_refl _))
  case kl => rintro _ _ ⟨_, rfl⟩; exact locs rfl
  case c5 => decide
  case c2 => rfl
  case c3 => rfl
  case c4 => rfl
  intro g' L' h' tk' news₁ binds₁ dp fr gd un Qb hB FG F' N' X' T' r' l1 ht' htt' back backN
  obtain ⟨rfl, rfl⟩ := hB
  clear F N X T FG hr hmf hcr hap
  subst hled
  dsimp only [rdLed] at N'
  k_lt l1
  have hi2 := hi
  cases l with
  | nil => 
    cases hi
    walk_at "steps"
    dsimp only
    rw [lit_nil]
    refine back _ _ _ _ _ (by assumption) (by assumption) (fun F N ap9 ht => ?_)
    exact ret0 rfl _ _ _ ht F (News.sub N (by walk_at "sub"))
  | cons a r =>
    cases hi
    walk_at "steps"
    all_goals (try dsimp only)
    refine back _ _ _ _ _ (by assumption) (by assumption) (fun F N ap9 ht => ?_)
    exact ret1 _ _ _ _ _ _ _ rfl (by assumption) ht F (News.sub N (by walk_at "sub"))
end
section
theorem wTop_Rc : True ∧ True := by
  w_top off
  (try (walk1; fail))
  exact ⟨trivial, trivial⟩
theorem key1 (a : Nat) (h : ([a] == [10]) = true) : a = 10 := (List.cons.inj (eq_of_beq h)).1
theorem key2 (a : Nat) (h : ¬ ([a] == [10]) = true) : ¬ a = 10 := fun e => h (by rw [e]; rfl)
theorem readZ {Z : LX} {n : Int} {tn : Tok} {pn vn : Nat} {ps vs : List Value} (F : Fr h₀ L s.heap m) (N : News h₀ L s.heap (lxA w Z n tn ps pn vs vn))
  (X : (KF w.params).In h₀) (T : Top p loose mean mg mb h₀) (r : Room A 3 80) (ht : 0 ≤ s.toks) (ok : Z.Ok w)
  {l : List Nat} (hi : StrsAre vs (chars l)) (hl : ∀ c ∈ l, c < 128) (hz : l.length ≤ 100000) (t1 : Tok)
  (ret0 : l = [] → ∀ t h' tk', s.toks ≤ tk' → Fr h₀ L h' m → News h₀ L h' (lxA w Z n tn ps pn vs vn) → Q (.str (S []) t) { s with heap := h', toks := tk' })
  (ret1 : ∀ a l' t vs' vn' h' tk', l = a :: l' → StrsAre vs' (chars l') → s.toks ≤ tk' → Fr h₀ L h' m → News h₀ L h' (lxA w Z n tn ps pn vs' vn') → Q (.str (S [a]) t) { s with heap := h', toks := tk' }) :
  wpAny (model prg w) A (call (.ref Z.f) [.int 1 t1] []) Q E s := by
  refine read_spec (l := l) F (News.sub N (by walk_at "sub")) (lxA_apart ok n tn pn vn ps vs) X T r ht ok.rd ok.e1 ok.e2 ok.e3 ok.e9 hi hl hz t1 ?_ ?_
  · intro hl' t h' tk' ht' F' N'
    exact ret0 hl' t h' tk' ht' F' (News.sub N' (by walk_at "sub"))
  · intro a l' t vs' vn' h' tk' hl' hi' ht' F' N'
    exact ret1 a l' t vs' vn' h' tk' hl' hi' ht' F' (News.sub N' (by walk_at "sub"))
local macro_rules | `(tactic| walk_at "callWith ref") => `(tactic| (dsimp only; (k_dflt (refine' callWith_F ?k1 ?_; (case k1 => exact FnAt.of ‹_› (by k_mem))))))
local macro_rules | `(tactic| walk_at "FnAt") => `(tactic| (k_dflt (exact FnAt.of ‹_› (by k_mem))))
local macro_rules | `(tactic| walk_at "call ref") => `(tactic| ((refine readZ ‹_› ‹_› ‹_› ‹_› (by walk_at "room") (by walk_at "tk") ‹_› ‹_› ‹_› ‹_› _ ?_ ?_); (intro hl9 t9 h9 tk9 ht9 F9 N9; dsimp only [lxA, lxE, lxY, List.cons_append, List.nil_append] at N9; (try dsimp only)); rotate_left; (intro c9 l9 t9 vs9 vn9 h9 tk9 hl9 hi9 ht9 F9 N9; dsimp only [lxA, lxE, lxY, List.cons_append, List.nil_append] at N9; (try dsimp only))))
local macro_rules | `(tactic| walk_at "compareOp Eq str str") => `(tactic| ((refine PyProof.Rows.eq_str ?_); simp only [lit_nl, S_beq]; (try dsimp only)))
set_option maxHeartbeats 4000000 in
theorem readChar_code {R : Result → Shared → Prop} {Z : LX} {n : Int} {tn : Tok} {pn vn : Nat} {ps vs : List Value} {rest : List (Addr × Obj)} (F : Fr h₀ L s.heap m) (N : News h₀ L s.heap (lxA w Z n tn ps pn vs vn ++ rest)) (hap : Apart (lxA w Z n tn ps pn vs vn) rest)
  (X : (KF w.params).In h₀) (T : Top p loose mean mg mb h₀) (r : Room A 5 90) (ht : 0 ≤ s.toks) (ok : Z.Ok w)
  {l : List Nat} (hi : StrsAre vs (chars l)) (hl : ∀ c ∈ l, c < 128) (hz : l.length ≤ 100000)
  (ret0 : l = [] → ∀ t h' tk', s.toks ≤ tk' → Fr h₀ L h' m → News h₀ L h' (lxA w Z n tn ps pn vs vn ++ rest) → R (.ok (.ret (.str (S []) t))) { s with heap := h', toks := tk' })
  (ret1 : ∀ a l' t vs' vn' tn' h' tk', l = a :: l' → StrsAre vs' (chars l') → s.toks ≤ tk' → Fr h₀ L h' m → News h₀ L h' (lxA w Z (if a = 10 then n + 1 else n) tn' ps pn vs' vn' ++ rest) → R (.ok (.ret (.str (S [a]) t))) { s with heap := h', toks := tk' }) :
  codeAny (model prg w) A (.call (.ref 66) ⟨[.ref Z.x], []⟩) R s := by
  obtain ⟨rd, e1, e2, e3, e9, e4, e5, e6, e7, e8⟩ := id ok
  refine' enterMc (binds := [("self", .ref Z.x)]) F N hap X T r ht ?k6 ?k7 ?k9 ?kB ?_ ?c5 ?c2 ?c3 ?c4
  walk_at "enter"
  intro g' L' h' tk' dp fr gd un Qb F' N' X' T' r' l1 ht' htt' back backN
  clear F N X T hap
  dsimp only [lxA, lxE, lxY, List.cons_append, List.nil_append] at N'
  k_lt l1
  walk_at "steps"
  all_goals (try dsimp only)
  · refine back _ _ _ _ _ (by assumption) (by assumption) (fun F N ap9 ht => ?_)
    refine ret1 _ _ _ _ _ _ _ _ (by assumption) (by assumption) ht F (News.sub N (by rw [if_pos (key1 _ (by assumption))]; walk_at "sub"))
  · refine back _ _ _ _ _ (by assumption) (by assumption) (fun F N ap9 ht => ?_)
    refine ret1 _ _ _ _ _ tn _ _ (by assumption) (by assumption) ht F (News.sub N (by rw [if_neg (key2 _ (by assumption))]; walk_at "sub"))
  · refine back _ _ _ _ _ (by assumption) (by assumption) (fun F N ap9 ht => ?_)
    exact ret0 (by assumption) _ _ _ ht F (News.sub N (by walk_at "sub"))

theorem readChar_spec {Z : LX} {n : Int} {tn : Tok} {pn vn : Nat} {ps vs : List Value} {rest : List (Addr × Obj)} (F : Fr h₀ L s.heap m) (N : News h₀ L s.heap (lxA w Z n tn ps pn vs vn ++ rest)) (hap : Apart (lxA w Z n tn ps pn vs vn) rest)
  (X : (KF w.params).In h₀) (T : Top p loose mean mg mb h₀) (r : Room A 5 90) (ht : 0 ≤ s.toks) (ok : Z.Ok w)
  {l : List Nat} (hi : StrsAre vs (chars l)) (hl : ∀ c ∈ l, c < 128) (hz : l.length ≤ 100000)
  (ret0 : l = [] → ∀ t h' tk', s.toks ≤ tk' → Fr h₀ L h' m → News h₀ L h' (lxA w Z n tn ps pn vs vn ++ rest) → Q (.str (S []) t) { s with heap := h', toks := tk' })
  (ret1 : ∀ a l' t vs' vn' tn' h' tk', l = a :: l' → StrsAre vs' (chars l') → s.toks ≤ tk' → Fr h₀ L h' m → News h₀ L h' (lxA w Z (if a = 10 then n + 1 else n) tn' ps pn vs' vn' ++ rest) → Q (.str (S [a]) t) { s with heap := h', toks := tk' }) :
  wpAny (model prg w) A (call (.ref 66) [.ref Z.x] []) Q E s :=
  wpAny_call (readChar_code F N hap X T r ht ok hi hl hz (fun e t h' tk' => ret0 e t h' tk') fun a l' t vs' vn' tn' h' tk' => ret1 a l' t vs' vn' tn' h' tk')
end
section
theorem wTop_Gt : True ∧ True := by
  w_top off
  (try (walk1; fail))
  exact ⟨trivial, trivial⟩
theorem lxA_le {Z : LX} (ok : Z.Ok w) {n : Int} {tn : Tok} {pn vn : Nat} {ps vs : List Value} : ∀ q ∈ lxA w Z n tn ps pn vs vn, @LE.le Nat _ q.1 Z.px := by
  obtain ⟨_, e1, e2, e3, e9, e4, e5, e6, e7, e8⟩ := ok
  intro q hq
  simp only [List.mem_cons, List.not_mem_nil, or_false] at hq
  rcases hq with rfl | rfl | rfl | rfl | rfl | rfl | rfl | rfl | rfl <;> (dsimp only; omega)
noncomputable abbrev citLed (w : World) (Z : LX) (I B : Addr) (t0 : Tok) (n : Int) (tn : Tok) (ps : List Value) (pn : Nat) (vs : List Value) (vn : Nat) : List (Addr × Obj) :=
  (I, citObj (.ref B) (.str Str.empty t0) false) :: (B, methodObj (.ref 66) (.ref Z.x)) :: lxA w Z n tn ps pn vs vn
theorem fn66 {h : Heap} (X : (KF w.params).In h) : ∃ fo fd, h.get? 66 = some fo ∧ fo.data = .func fd := ⟨_, _, X 66 _ rfl, rfl⟩
theorem lx_next {Q : Option Value → Shared → Prop} {Z : LX} {I B : Addr} {t0 : Tok} {n : Int} {tn : Tok} {pn vn : Nat} {ps vs : List Value} (F : Fr h₀ L s.heap m) (N : News h₀ L s.heap (citLed w Z I B t0 n tn ps pn vs vn))
  (X : (KF w.params).In h₀) (T : Top p loose mean mg mb h₀) (r : Room A 5 91) (ht : 0 ≤ s.toks) (ok : Z.Ok w) (lB : @LT.lt Nat _ Z.px B) (lI : @LT.lt Nat _ B I)
  {l : List Nat} (hi : StrsAre vs (chars l)) (hl : ∀ c ∈ l, c < 128) (hz : l.length ≤ 100000)
  (ret0 : l = [] → ∀ h' tk', s.toks ≤ tk' → Fr h₀ L h' m → News h₀ L h' ((I, citObj .none .none true) :: (B, methodObj (.ref 66) (.ref Z.x)) :: lxA w Z n tn ps pn vs vn) → Q none { s with heap := h', toks := tk' })
  (ret1 : ∀ a l' t vs' vn' tn' h' tk', l = a :: l' → StrsAre vs' (chars l') → s.toks ≤ tk' → Fr h₀ L h' m → News h₀ L h' (citLed w Z I B t0 (if a = 10 then n + 1 else n) tn' ps pn vs' vn') → Q (some (.str (S [a]) t)) { s with heap := h', toks := tk' }) :
  wpAny (model prg w) A (pyNext (.ref I)) Q E s := by
  obtain ⟨fo, fd, hg, hd⟩ := fn66 X
  have apart : ∀ {n tn ps pn vs vn}, Apart (lxA w Z n tn ps pn vs vn) [(I, citObj (.ref B) (.str Str.empty t0) false), (B, methodObj (.ref 66) (.ref Z.x))] := by
    intro n tn ps pn vs vn p hp q hq
    have h1 := lxA_le ok q hq
    have h2 : @LT.lt Nat _ Z.px p.1 := by
      simp only [List.mem_cons, List.not_mem_nil, or_false] at hp
      rcases hp with rfl | rfl <;> (dsimp only; omega)
    exact Nat.ne_of_gt (Nat.lt_of_le_of_lt h1 h2)
  have offI : ∀ {n tn ps pn vs vn}, ∀ q ∈ (B, methodObj (.ref 66) (.ref Z.x)) :: lxA w Z n tn ps pn vs vn, q.1 ≠ I := by
    intro n tn ps pn vs vn q hq
    rcases List.mem_cons.mp hq with rfl | hq
    · exact Nat.ne_of_lt lI
    · exact Nat.ne_of_lt (Nat.lt_of_le_of_lt (lxA_le ok q hq) (Nat.lt_trans lB lI))
  have turn : ∀ {h' n tn ps pn vs vn}, News h₀ L h' (lxA w Z n tn ps pn vs vn ++ [(I, citObj (.ref B) (.str Str.empty t0) false), (B, methodObj (.ref 66) (.ref Z.x))]) → News h₀ L h' (citLed w Z I B t0 n tn ps pn vs vn) := by
    intro h' n tn ps pn vs vn N
    refine News.sub N fun q hq => ?_
    rcases List.mem_cons.mp hq with rfl | hq
    · exact List.mem_append_right _ (.head _)
    rcases List.mem_cons.mp hq with rfl | hq
    · exact List.mem_append_right _ (.tail _ (.head _))
    · exact List.mem_append_left _ hq
  refine cit_next (by have := r.hh; exact this) F N (.head _) offI hg hd ?_
  refine readChar_code (n := n) (tn := tn) (ps := ps) (pn := pn) (vs := vs) (vn := vn) (rest := [(I, citObj (.ref B) (.str Str.empty t0) false), (B, methodObj (.ref 66) (.ref Z.x))]) F (News.sub N fun q hq => ?_) apart X T (Room.in1 r) ht ok hi hl hz (fun e t h' tk' l1 F1 N1 => ?_) (fun a l' t vs' vn' tn' h' tk' e hi' l1 F1 N1 => ?_)
  · rcases List.mem_append.mp hq with hq | hq
    · exact .tail _ (.tail _ hq)
    · rcases List.mem_cons.mp hq with rfl | hq
      · exact .head _
      · obtain rfl := List.mem_singleton.mp hq
        exact .tail _ (.head _)
  · exact ⟨_, S [], t, rfl, F1, turn N1, .head _, offI, fun _ h'' F2 N2 => ret0 e h'' tk' l1 F2 N2, fun z => absurd z (by decide)⟩
  · refine ⟨_, S [a], t, rfl, F1, turn N1, .head _, offI, fun z => ?_, fun _ => ret1 a l' t vs' vn' tn' h' tk' e hi' l1 F1 (turn N1)⟩
    rw [lit_empty, S_beq] at z
    exact absurd z (by simp)

theorem lx_read {Z : LX} {I B : Addr} {t0 : Tok} {n : Int} {tn : Tok} {pn vn : Nat} {ps vs : List Value} (F : Fr h₀ L s.heap m) (N : News h₀ L s.heap (citLed w Z I B t0 n tn ps pn vs vn))
  (X : (KF w.params).In h₀) (T : Top p loose mean mg mb h₀) (r : Room A 5 91) (ht : 0 ≤ s.toks) (ok : Z.Ok w) (lB : @LT.lt Nat _ Z.px B) (lI : @LT.lt Nat _ B I)
  {l : List Nat} (hi : StrsAre vs (chars l)) (hl : ∀ c ∈ l, c < 128) (hz : l.length ≤ 100000) (hne : l = [] → False)
  (ret1 : ∀ a l' t vs' vn' tn' h' tk', l = a :: l' → StrsAre vs' (chars l') → s.toks ≤ tk' → Fr h₀ L h' m → News h₀ L h' (citLed w Z I B t0 (if a = 10 then n + 1 else n) tn' ps pn vs' vn') → Q (.str (S [a]) t) { s with heap := h', toks := tk' }) :
  wpAny (model prg w) A (call (.ref 66) [.ref Z.x] []) Q E s := by
  have apart : Apart (lxA w Z n tn ps pn vs vn) [(I, citObj (.ref B) (.str Str.empty t0) false), (B, methodObj (.ref 66) (.ref Z.x))] := by
    intro p hp q hq
    have h1 := lxA_le ok q hq
    have h2 : @LT.lt Nat _ Z.px p.1 := by
      simp only [List.mem_cons, List.not_mem_nil, or_false] at hp
      rcases hp with rfl | rfl <;> (dsimp only; omega)
    exact Nat.ne_of_gt (Nat.lt_of_le_of_lt h1 h2)
  refine readChar_spec (n := n) (tn := tn) (ps := ps) (pn := pn) (vs := vs) (vn := vn) (rest := [(I, citObj (.ref B) (.str Str.empty t0) false), (B, methodObj (.ref 66) (.ref Z.x))]) F (News.sub N fun q hq => ?_) apart X T (Room.less r (by omega) (by omega)) ht ok hi hl hz (fun e t h' tk' l1 F1 N1 => (hne e).elim) (fun a l' t vs' vn' tn' h' tk' e hi' l1 F1 N1 => ?_)
  · rcases List.mem_append.mp hq with hq | hq
    · exact .tail _ (.tail _ hq)
    · rcases List.mem_cons.mp hq with rfl | hq
      · exact .head _
      · obtain rfl := List.mem_singleton.mp hq
        exact .tail _ (.head _)
  · refine ret1 a l' t vs' vn' tn' h' tk' e hi' l1 F1 (News.sub N1 fun q hq => ?_)
    rcases List.mem_cons.mp hq with rfl | hq
    · exact List.mem_append_right _ (.head _)
    rcases List.mem_cons.mp hq with rfl | hq
    · exact List.mem_append_right _ (.tail _ (.head _))
    · exact List.mem_append_left _ hq
end
section
theorem wTop_Tok : True ∧ True := by
  w_top off
  (try (walk1; fail))
  exact ⟨trivial, trivial⟩
local macro_rules | `(tactic| walk_at "compareOp In str str") => `(tactic| ((refine in_ws ?_ ?_); assumption))
local macro_rules | `(tactic| walk_at "compareOp Eq str str") => `(tactic| (first | refine eq_sign lit_q ?_ | refine eq_sign lit_bs ?_))
local macro_rules | `(tactic| walk_at "call builtin:iter") => `(tactic| ((with_reducible show wpAny _ _ (call (Value.builtin _) [Value.ref _, Value.str _ _]) _ _ _); k_dflt (refine cit_new ‹_› ‹_› (by k_mem) ?_); intro I9 h9 F9 N9 l9; k_lt l9; (try dsimp only)))
theorem tokA_first {a : Nat} {l : List Nat} {x : List Nat × List Nat} (h : tokA (a :: l) = some x) : (a = 10 ∨ a = 9 ∨ a = 13 ∨ a = 32) ∨ (¬ a = 34 ∧ ¬ a = 92) := by
  unfold tokA at h
  by_cases h1 : ws a
  · exact .inl h1
  · rw [if_neg h1] at h
    by_cases h2 : a = 34 ∨ a = 92
    · rw [if_pos h2] at h; cases h
    · exact .inr ⟨fun e => h2 (.inl e), fun e => h2 (.inr e)⟩
theorem tokA_ws {a : Nat} {l : List Nat} (h : ws a) : tokA (a :: l) = tokA l := by rw [tokA, if_pos h]
theorem tokA_go {a : Nat} {l : List Nat} (h : ¬ ws a) (h2 : ¬ a = 34 ∧ ¬ a = 92) : tokA (a :: l) = tokB [a] l := by
  rw [tokA, if_neg h, if_neg (by omega)]
theorem tokB_ws {a : Nat} {t l : List Nat} (h : ws a) : tokB t (a :: l) = some (t, l) := by
  rw [tokB.eq_def]
  dsimp only
  rw [if_pos h]
theorem tokB_esc {b : Nat} {t l : List Nat} : tokB t (92 :: b :: l) = tokB (t ++ [b]) l := by
  rw [tokB.eq_def]
  dsimp only
  rw [if_neg (by decide), if_pos rfl]
theorem tokB_nil {t : List Nat} : tokB t [92] = none := by
  rw [tokB.eq_def]
  dsimp only
  rw [if_neg (by decide), if_pos rfl]
theorem tokB_go {a : Nat} {t l : List Nat} (h : ¬ ws a) (h2 : ¬ a = 92) : tokB t (a :: l) = tokB (t ++ [a]) l := by
  rw [tokB.eq_def]
  dsimp only
  rw [if_neg h, if_neg h2]
inductive OInv (w : World) (Z : LX) (s : Shared) (g : Heap) (L' : Addr) (I B : Addr) (t0 : Tok) (pn : Nat) (tk : Nat) (N0 : Int) (R : List Nat → List Nat → Prop) (k : Nat) (s' : Shared) : Prop
  | mk (lc tkn : List Nat) (vs : List Value) (vn : Nat) (n : Int) (tn : Tok) (m : Str → Option Value) (h' : Heap) (tk' : Nat) (es : s' = { s with heap := h', toks := tk' }) (htk : tk ≤ tk') (F : Fr g L' h' m) (N : News g L' h' (citLed w Z I B t0 n tn [] pn vs vn)) (m1 : m "self" = some (.ref Z.x)) (m2 : ∃ tt, m "token" = some (.str (S tkn) tt)) (m3 : m "fiter" = some (.ref I))
    (hi : StrsAre vs (chars lc)) (hR : R tkn lc) (hk : lc.length < k) (hn : n + nl lc = N0) (hl : ∀ c ∈ lc, c < 128) (hz : lc.length + tkn.length ≤ 100000) : OInv w Z s g L' I B t0 pn tk N0 R k s'
local macro_rules | `(tactic| walk_at "loadName") => `(tactic| (k_dflt (refine ldn (by k_asm) ‹_› ?_)))
local macro_rules | `(tactic| walk_at "eval Name") => `(tactic| (k_dflt (refine ld (by k_asm) ‹_› ?_)))
local macro_rules | `(tactic| walk_at "call ref") => `(tactic| (dsimp only [List.append_nil]; (with_reducible show wpAny _ _ (call (Value.ref 66) _ _) _ _ _); (refine lx_read ‹_› ‹_› ‹_› ‹_› (by walk_at "room") (by walk_at "tk") ‹_› (by omega) (by omega) ‹_› ‹_› ‹_› (by first | assumption | (have hz9 := (by assumption : _ = 92 → _ = [] → False); exact hz9 ‹_›)) ?_); intro c9 l9 t9 vs9 vn9 tn9 h9 tk9 hl9 hi9 ht9 F9 N9; (try dsimp only)))
set_option maxHeartbeats 4000000 in
theorem token_spec {Z : LX} {n : Int} {tn : Tok} {pn vn : Nat} {vs : List Value} {rest : List (Addr × Obj)} (F : Fr h₀ L s.heap m) (N : News h₀ L s.heap (lxA w Z n tn [] pn vs vn ++ rest)) (hap : Apart (lxA w Z n tn [] pn vs vn) rest)
  (X : (KF w.params).In h₀) (T : Top p loose mean mg mb h₀) (r : Room A 9 110) (ht : 0 ≤ s.toks) (ok : Z.Ok w)
  {l tok l' : List Nat} (hi : StrsAre vs (chars l)) (hl : ∀ c ∈ l, c < 128) (hz : l.length ≤ 100000) (htk : tokA l = some (tok, l'))
  (ret : ∀ t vs' vn' n' tn' h' tk', n' + nl l' = n + nl l → StrsAre vs' (chars l') → s.toks ≤ tk' → Fr h₀ L h' m → News h₀ L h' (lxA w Z n' tn' [] pn vs' vn' ++ rest) → Q (.str (S tok) t) { s with heap := h', toks := tk' }) :
  wpAny (model prg w) A (call (.ref 73) [.ref Z.x] []) Q E s := by
  obtain ⟨rd, e1, e2, e3, e9, e4, e5, e6, e7, e8⟩ := id ok
  refine' enterM (binds := [("self", .ref Z.x)]) F N hap X T r ht ?k6 ?k7 ?k9 ?kB ?_ ?c5 ?c2 ?c3 ?c4
  walk_at "enter"
  intro g' L' h' tk' dp fr gd un Qb F' N' X' T' r' l1 ht' htt' back backN
  clear F N X T hap
  dsimp only [lxA, lxE, lxY, List.cons_append, List.nil_append] at N'
  k_lt l1
  walk_at "stepsW"
  rename_i B9 _ lB9 I9 _ lI9 _ _ F9 N9
  rw [show Str.ofString "" = Str.empty from by decide +kernel] at N9
  obtain ⟨t09, N9⟩ : ∃ t0, News g' L' _ (citLed w Z I9 B9 t0 n tn [] pn vs vn) := ⟨_, N9⟩
  refine For_own I9 (OInv w Z s g' L' I9 B9 t09 pn tk' (n + nl l) (fun t lc => t = [] ∧ tokA lc = some (tok, l'))) (l.length + 1) ?_ ?_
  · refine ld F9 rfl ?_
    refine cit_iter (News.get N9 (.head _)) ⟨rfl, ?_⟩
    refine ⟨l, [], vs, vn, n, tn, _, _, _, rfl, ?_, F9, N9, rfl, ⟨_, by rw [← lit_nil]; rfl⟩, rfl, hi, ⟨rfl, htk⟩, Nat.lt_succ_self _, rfl, hl, by simpa using hz⟩
    omega
  · intro k s' hk
    obtain ⟨lc, tkn, vs', vn', n', tn', m', h'', tk'', rfl, htk2, F2, N2, m1, ⟨tt, m2⟩, m3, hi2, ⟨rfl, htA⟩, hk2, hn, hl2, hz2⟩ := hk
    refine lx_next F2 N2 X' T' (Room.less r' (by omega) (by omega)) (by dsimp only; omega) ok (by omega) (by omega) hi2 hl2 (by omega) (fun e => ?_) (fun a lt t vs3 vn3 tn3 h3 tk3 e hi3 htk3 F3 N3 => ?_)
    · subst e; cases htA
    · subst e
      have ha : a < 128 := hl2 a (List.mem_cons_self ..)
      have hlt : ∀ c ∈ lt, c < 128 := fun c hc => hl2 c (List.mem_cons_of_mem _ hc)
      have hn3 := ws_nl hn
      have hfirst := tokA_first htA
      dsimp only [citLed, lxA, lxE, lxY, List.cons_append, List.nil_append] at N3
      show wpAny _ _ (storeName _ _ _) _ _ _
      dsimp only at htk3
      walk_at "stepsW"
      · refine' ⟨lt, [], vs3, vn3, _, tn3, _, _, _, rfl, by omega, ?F, ?N, ?m1, ⟨tt, ?m2⟩, ?m3, hi3, ⟨rfl, (tokA_ws (by assumption)).symm.trans htA⟩, Nat.lt_succ_self _, hn3, hlt, by simp only [List.length_cons, List.length_nil] at hz2 ⊢; omega⟩
        case F => assumption
        case N => assumption
        case m1 => exact m1
        case m2 => exact m2
        case m3 => exact m3
      · have hnw : ¬ ws a := by assumption
        have hB0 : tokB [a] lt = some (tok, l') := (tokA_go hnw (hfirst.resolve_left hnw)).symm.trans htA
        refine For_own I9 (OInv w Z s g' L' I9 B9 t09 pn tk' (n + nl l) (fun t lc => tokB t lc = some (tok, l'))) (lt.length + 1) ?_ ?_
        · refine ld (v := .ref I9) (by assumption) (by exact m3) ?_
          refine cit_iter (News.get (by assumption) (.head _)) ⟨rfl, ?_⟩
          refine' ⟨lt, [a], vs3, vn3, _, tn3, _, _, _, rfl, by omega, ?F, ?N, ?m1, ⟨_, ?m2⟩, ?m3, hi3, hB0, Nat.lt_succ_self _, hn3, hlt, by simp only [List.length_cons, List.length_nil] at hz2 ⊢; omega⟩
          case F => assumption
          case N => assumption
          case m1 => exact m1
          case m2 => 
            show some (Value.str (S [] ++ S [a]) _) = _
            rw [S_append]; rfl
          case m3 => exact m3
        · intro k s' hk
          obtain ⟨lc, tkn, vs4, vn4, n4, tn4, m4, h4, tk4, rfl, htk4, F4, N4, p1, ⟨tt4, p2⟩, p3, hi4, hB, hk4, hn4, hl4, hz4⟩ := hk
          refine lx_next F4 N4 X' T' (Room.less r' (by omega) (by omega)) (by dsimp only; omega) ok (by omega) (by omega) hi4 hl4 (by omega) (fun e => ?_) (fun b lu t5 vs5 vn5 tn5 h5 tk5 e hi5 htk5 F5 N5 => ?_)
          · subst e; cases hB
          · subst e
            have hb : b < 128 := hl4 b (List.mem_cons_self ..)
            have hlu : ∀ c ∈ lu, c < 128 := fun c hc => hl4 c (List.mem_cons_of_mem _ hc)
            have hn5 := ws_nl hn4
            have hne5 : b = 92 → lu = [] → False := fun e1 e2 => by subst e1; subst e2; rw [tokB_nil] at hB; cases hB
            dsimp only at htk5
            have hz5 : lu.length + 1 + tkn.length ≤ 100000 := by simpa using hz4
            have hz6 : lu.length ≤ 100000 := by omega
            show wpAny _ _ (storeName _ _ _) _ _ _
            walk_at "stepsW"
            · have e2 := (tokB_ws (t := tkn) (l := lu) (by assumption : ws b)).symm.trans hB
              cases e2
              refine back _ _ _ _ _ (by assumption) (by assumption) (fun F N ap9 ht => ?_)
              exact ret _ _ _ _ _ _ _ hn5 hi5 ht F (News.sub N (by walk_at "sub"))
            · rename_i c9 l9 t9 vs9 vn9 tn9 h9 tk9 hl9 hi9 ht9 hw9 h91 t91 k91 a91 hw91 h92 F92 N92
              subst hl9
              have hb92 : b = 92 := by assumption
              subst hb92
              have hw10 : tk9 ≤ k91 := by omega
              have hB2 := tokB_esc.symm.trans hB
              have hn9 := ws_nl hn5
              refine' ⟨l9, tkn ++ [c9], vs9, vn9, _, tn9, _, _, _, rfl, ?tk, F92, N92, ?m1, ⟨_, ?m2⟩, ?m3, hi9, hB2, ?len, hn9, fun c hc => hlu c (List.mem_cons_of_mem _ hc), ?sz⟩
              case tk => omega
              case m1 => exact p1
              case m2 =>
                show some (Value.str (S tkn ++ S [c9]) _) = _
                rw [S_append]
              case m3 => exact p3
              case len => simp only [List.length_cons]; omega
              case sz => simp only [List.length_cons, List.length_nil, List.length_append] at hz5 ⊢; omega
            · have hnw9 : ¬ ws b := by assumption
              have hn92 : ¬ b = 92 := by assumption
              have hB2 := (tokB_go hnw9 hn92).symm.trans hB
              refine' ⟨lu, tkn ++ [b], vs5, vn5, _, tn5, _, _, _, rfl, ?tk, ?F, ?N, ?m1, ⟨_, ?m2⟩, ?m3, hi5, hB2, Nat.lt_succ_self _, hn5, hlu, ?sz⟩
              case F => assumption
              case N => assumption
              case tk => omega
              case m1 => exact p1
              case m2 =>
                show some (Value.str (S tkn ++ S [b]) _) = _
                rw [S_append]
              case m3 => exact p3
              case sz => simp only [List.length_cons, List.length_nil, List.length_append] at hz5 ⊢; omega
set_option maxHeartbeats 4000000 in
theorem token_end {Z : LX} {n : Int} {tn : Tok} {pn vn : Nat} {vs : List Value} {rest : List (Addr × Obj)} (F : Fr h₀ L s.heap m) (N : News h₀ L s.heap (lxA w Z n tn [] pn vs vn ++ rest)) (hap : Apart (lxA w Z n tn [] pn vs vn) rest)
  (X : (KF w.params).In h₀) (T : Top p loose mean mg mb h₀) (r : Room A 9 110) (ht : 0 ≤ s.toks) (ok : Z.Ok w)
  {l : List Nat} (hi : StrsAre vs (chars l)) (hl : ∀ c ∈ l, c < 128) (hz : l.length ≤ 100000) (hws : ∀ c ∈ l, ws c)
  (ret : ∀ t vs' vn' n' tn' h' tk', n' = n + nl l → StrsAre vs' (chars []) → s.toks ≤ tk' → Fr h₀ L h' m → News h₀ L h' (lxA w Z n' tn' [] pn vs' vn' ++ rest) → Q (.str (S []) t) { s with heap := h', toks := tk' }) :
  wpAny (model prg w) A (call (.ref 73) [.ref Z.x] []) Q E s := by
  obtain ⟨rd, e1, e2, e3, e9, e4, e5, e6, e7, e8⟩ := id ok
  refine' enterM (binds := [("self", .ref Z.x)]) F N hap X T r ht ?k6 ?k7 ?k9 ?kB ?_ ?c5 ?c2 ?c3 ?c4
  walk_at "enter"
  intro g' L' h' tk' dp fr gd un Qb F' N' X' T' r' l1 ht' htt' back backN
  clear F N X T hap
  dsimp only [lxA, lxE, lxY, List.cons_append, List.nil_append] at N'
  k_lt l1
  walk_at "stepsW"
  rename_i B9 _ lB9 I9 _ lI9 _ _ F9 N9
  rw [show Str.ofString "" = Str.empty from by decide +kernel] at N9
  obtain ⟨t09, N9⟩ : ∃ t0, News g' L' _ (citLed w Z I9 B9 t0 n tn [] pn vs vn) := ⟨_, N9⟩
  refine For_own I9 (OInv w Z s g' L' I9 B9 t09 pn tk' (n + nl l) (fun t lc => t = [] ∧ ∀ c ∈ lc, ws c)) (l.length + 1) ?_ ?_
  · refine ld F9 rfl ?_
    refine cit_iter (News.get N9 (.head _)) ⟨rfl, ?_⟩
    refine ⟨l, [], vs, vn, n, tn, _, _, _, rfl, ?_, F9, N9, rfl, ⟨_, by rw [← lit_nil]; rfl⟩, rfl, hi, ⟨rfl, hws⟩, Nat.lt_succ_self _, rfl, hl, by simpa using hz⟩
    omega
  · intro k s' hk
    obtain ⟨lc, tkn, vs', vn', n', tn', m', h'', tk'', rfl, htk2, F2, N2, m1, ⟨tt, m2⟩, m3, hi2, ⟨rfl, htA⟩, hk2, hn, hl2, hz2⟩ := hk
    refine lx_next F2 N2 X' T' (Room.less r' (by omega) (by omega)) (by dsimp only; omega) ok (by omega) (by omega) hi2 hl2 (by omega) (fun e h3 tk3 htk3 F3 N3 => ?_) (fun a lt t vs3 vn3 tn3 h3 tk3 e hi3 htk3 F3 N3 => ?_)
    · subst e
      dsimp only at htk3
      show wpAny _ _ (execs _ _) _ _ _
      walk_at "stepsW"
      refine back _ _ _ _ _ (by assumption) (by assumption) (fun F N ap9 ht => ?_)
      exact ret _ _ _ _ _ _ _ (by simpa [nl] using hn) hi2 ht F (News.sub N (by walk_at "sub"))
    · subst e
      have ha : a < 128 := hl2 a (List.mem_cons_self ..)
      have hlt : ∀ c ∈ lt, c < 128 := fun c hc => hl2 c (List.mem_cons_of_mem _ hc)
      have hn3 := ws_nl hn
      have hwa : ws a := htA a (List.mem_cons_self ..)
      dsimp only [citLed, lxA, lxE, lxY, List.cons_append, List.nil_append] at N3
      dsimp only at htk3
      show wpAny _ _ (storeName _ _ _) _ _ _
      walk_at "stepsW"
      · refine' ⟨lt, [], vs3, vn3, _, tn3, _, _, _, rfl, by omega, ?F, ?N, ?m1, ⟨tt, ?m2⟩, ?m3, hi3, ⟨rfl, fun c hc => htA c (List.mem_cons_of_mem _ hc)⟩, Nat.lt_succ_self _, hn3, hlt, by simp only [List.length_cons, List.length_nil] at hz2 ⊢; omega⟩
        case F => assumption
        case N => assumption
        case m1 => exact m1
        case m2 => exact m2
        case m3 => exact m3
end
section
theorem wTop_Rws : True ∧ True := by
  w_top off
  (try (walk1; fail))
  exact ⟨trivial, trivial⟩
noncomputable def clean (p : List Nat) : Prop := ∀ c ∈ p, c ≠ 10 ∧ c ≠ 13
noncomputable def isEnd (e : List Nat) : Prop := e = [13, 10] ∨ e = [10] ∨ e = [13]
theorem nrm_cons {c : Nat} {l : List Nat} (h : c ≠ 10 ∧ c ≠ 13) : nrm (c :: l) = c :: nrm l := by
  cases l with
  | nil => simp [nrm, h.1, h.2]
  | cons d r => simp [nrm, h.1, h.2]
theorem nrm_lf {l : List Nat} : nrm (10 :: l) = 13 :: 10 :: nrm l := by
  cases l with
  | nil => simp [nrm]
  | cons d r => simp [nrm]
theorem nrm_crlf {l : List Nat} : nrm (13 :: 10 :: l) = 13 :: 10 :: nrm l := by simp [nrm]
theorem nrm_cr {l : List Nat} (h : l.head? ≠ some 10) : nrm (13 :: l) = 13 :: 10 :: nrm l := by
  cases l with
  | nil => simp [nrm]
  | cons d r =>
    have : d ≠ 10 := fun e => h (by simp [e])
    simp [nrm, this]
theorem nrm_app : ∀ (p l : List Nat), clean p → nrm (p ++ l) = p ++ nrm l
  | [], _, _ => rfl
  | c :: p, l, h => by
    show nrm (c :: (p ++ l)) = c :: (p ++ nrm l)
    rw [nrm_cons (h c (List.mem_cons_self ..)), nrm_app p l fun d hd => h d (List.mem_cons_of_mem _ hd)]
theorem head_join (ps : List (List Nat)) (h : ∀ p ∈ ps, clean p) : (joinL [13] ps).head? ≠ some 10 := by
  match ps, h with
  | [], _ => simp [joinL]
  | [p], h =>
    cases p with
    | nil => simp [joinL]
    | cons c r => have := (h _ (List.mem_singleton.mpr rfl) c (List.mem_cons_self ..)).1; simp [joinL, this]
  | p :: q :: r, h =>
    cases p with
    | nil => simp [joinL]
    | cons c r' => have := (h _ (List.mem_cons_self ..) c (List.mem_cons_self ..)).1; simp [joinL, this]
theorem nrm_join {e : List Nat} (he : isEnd e) : ∀ ps : List (List Nat), (∀ p ∈ ps, clean p) → nrm (joinL e ps) = joinL [13, 10] ps
  | [], _ => rfl
  | [p], h => by
    have := nrm_app p [] (h p (List.mem_singleton.mpr rfl))
    simpa [joinL, nrm] using this
  | p :: q :: r, h => by
    have ih := nrm_join he (q :: r) fun z hz => h z (List.mem_cons_of_mem _ hz)
    show nrm (p ++ e ++ joinL e (q :: r)) = p ++ [13, 10] ++ joinL [13, 10] (q :: r)
    rw [List.append_assoc, nrm_app p _ (h p (List.mem_cons_self ..)), List.append_assoc]
    congr 1
    rcases he with rfl | rfl | rfl
    · show nrm (13 :: 10 :: joinL [13, 10] (q :: r)) = _
      rw [nrm_crlf, ih]; rfl
    · show nrm (10 :: joinL [10] (q :: r)) = _
      rw [nrm_lf, ih]; rfl
    · show nrm (13 :: joinL [13] (q :: r)) = _
      rw [nrm_cr (head_join _ fun z hz => h z (List.mem_cons_of_mem _ hz)), ih]; rfl
theorem dts_run : ∀ (p r : List Nat), clean p → dts false (p ++ 13 :: 10 :: r) = p ++ 13 :: 10 :: dts true r
  | [], r, _ => by simp [dts]
  | c :: p, r, h => by
    have hc := h c (List.mem_cons_self ..)
    show dts false (c :: (p ++ 13 :: 10 :: r)) = c :: (p ++ 13 :: 10 :: dts true r)
    rw [dts.eq_def]
    simp only [Bool.false_eq_true, false_and, if_false]
    rw [show (c == 10) = false by simpa using hc.1, dts_run p r fun d hd => h d (List.mem_cons_of_mem _ hd)]
theorem dts_row (p r : List Nat) (h : clean p) : dts true (p ++ 13 :: 10 :: r) = dotL p ++ p ++ 13 :: 10 :: dts true r := by
  cases p with
  | nil => simp [dts, dotL]
  | cons c p =>
    have hc := h c (List.mem_cons_self ..)
    have hp : clean p := fun d hd => h d (List.mem_cons_of_mem _ hd)
    show dts true (c :: (p ++ 13 :: 10 :: r)) = _
    rw [dts.eq_def]
    by_cases h46 : c = 46
    · subst h46
      simp [dotL, dts_run p r hp]
    · simp only [h46, and_false, if_false]
      rw [show (c == 10) = false by simpa using hc.1, dts_run p r hp]
      simp [dotL, h46]
/-- what is sent, whatever the ends of the rows were -/
theorem qd_rows {e r1 r2 : List Nat} (he : isEnd e) (h1 : clean r1) (h2 : clean r2) : qd (joinL e [r1, r2, [], [46], []]) = dotL r1 ++ r1 ++ [13, 10] ++ (dotL r2 ++ r2 ++ [13, 10] ++ ([13, 10] ++ [46, 46, 13, 10])) := by
  unfold qd
  rw [nrm_join he]
  · show dts true (r1 ++ [13, 10] ++ (r2 ++ [13, 10] ++ ([] ++ [13, 10] ++ ([46] ++ [13, 10] ++ [])))) = _
    have e1 : r1 ++ [13, 10] ++ (r2 ++ [13, 10] ++ ([] ++ [13, 10] ++ ([46] ++ [13, 10] ++ []))) = r1 ++ 13 :: 10 :: (r2 ++ 13 :: 10 :: ([] ++ 13 :: 10 :: ([46] ++ 13 :: 10 :: []))) := by simp
    rw [e1, dts_row r1 _ h1, dts_row r2 _ h2, dts_row [] _ (by intro c hc; cases hc), dts_row [46] _ (by intro c hc; rw [List.mem_singleton.mp hc]; decide)]
    simp [dts, dotL]
  · intro p hp
    simp only [List.mem_cons, List.not_mem_nil, or_false] at hp
    rcases hp with rfl | rfl | rfl | rfl | rfl
    · exact h1
    · exact h2
    · intro c hc; cases hc
    · intro c hc; rw [List.mem_singleton.mp hc]; decide
    · intro c hc; cases hc
/-- signs that a word may hold without a backslash -/
noncomputable def wordy (p : List Nat) : Prop := ∀ c ∈ p, ¬ ws c ∧ c ≠ 34 ∧ c ≠ 92
theorem tokB_run : ∀ (p t r : List Nat), (∀ c ∈ p, ¬ ws c ∧ c ≠ 92) → tokB t (p ++ r) = tokB (t ++ p) r
  | [], t, r, _ => by simp
  | c :: p, t, r, h => by
    have hc := h c (List.mem_cons_self ..)
    show tokB t (c :: (p ++ r)) = _
    rw [tokB_go hc.1 hc.2, tokB_run p _ r fun d hd => h d (List.mem_cons_of_mem _ hd)]
    simp
theorem tokA_run {p r : List Nat} {c b : Nat} (hc : ¬ ws c ∧ c ≠ 34 ∧ c ≠ 92) (hp : ∀ c ∈ p, ¬ ws c ∧ c ≠ 92) (hb : ws b) : tokA (c :: (p ++ b :: r)) = some (c :: p, r) := by
  rw [tokA_go hc.1 hc.2, tokB_run p [c] _ hp, tokB_ws hb]; rfl
theorem tokB_esc_run : ∀ (l t r : List Nat), (∀ c ∈ l, ¬ ws c) → tokB t (esc l ++ r) = tokB (t ++ l) r
  | [], t, r, _ => by simp [esc, rep1]
  | c :: l, t, r, h => by
    have hc := h c (List.mem_cons_self ..)
    have ih := fun t => tokB_esc_run l t r fun d hd => h d (List.mem_cons_of_mem _ hd)
    have e : esc (c :: l) = esc [c] ++ esc l := by unfold esc; rw [show c :: l = [c] ++ l from rfl, rep1_append, rep1_append]
    rw [e, List.append_assoc]
    by_cases h1 : c = 92
    · subst h1
      rw [show esc [92] = [92, 92] by decide]
      show tokB t (92 :: 92 :: (esc l ++ r)) = _
      rw [tokB_esc, ih]; simp
    · by_cases h2 : c = 34
      · subst h2
        rw [show esc [34] = [92, 34] by decide]
        show tokB t (92 :: 34 :: (esc l ++ r)) = _
        rw [tokB_esc, ih]; simp
      · rw [show esc [c] = [c] by simp [esc, rep1, h1, h2]]
        show tokB t (c :: (esc l ++ r)) = _
        rw [tokB_go hc h1, ih]; simp
/-- the parameter, as it is told -/
theorem tokA_now {wd r : List Nat} (h : ∀ c ∈ wd, ¬ ws c) : tokA (fmt [110, 45, 111, 45, 119] wd ++ 13 :: r) = some (nowT wd, r) := by
  unfold fmt nowT
  by_cases hw : wd = []
  · rw [if_pos hw, if_pos hw]
    exact tokA_run (p := [45, 111, 45, 119]) (by decide) (by decide) (by decide)
  · rw [if_neg hw, if_neg hw]
    have e : [110, 45, 111, 45, 119] ++ [61, 34] ++ esc wd ++ [34] ++ 13 :: r = 110 :: ([45, 111, 45, 119, 61, 34] ++ (esc wd ++ (34 :: 13 :: r))) := by simp
    rw [e, tokA_go (by decide) (by decide), tokB_run _ _ _ (by decide), tokB_esc_run _ _ _ h, tokB_go (by decide) (by decide), tokB_ws (by decide)]
    simp
end
section
theorem wTop_Sent : True ∧ True := by
  w_top off
  (try (walk1; fail))
  exact ⟨trivial, trivial⟩
noncomputable def sentL (na va nb vb : List Nat) : List Nat := dotL (na ++ [58, 32] ++ va) ++ (na ++ [58, 32] ++ va) ++ [13, 10] ++ (dotL (nb ++ [58, 32] ++ vb) ++ (nb ++ [58, 32] ++ vb) ++ [13, 10] ++ ([13, 10] ++ [46, 46, 13, 10]))
local macro_rules | `(tactic| walk_at "lits") => `(tactic| with_reducible first | exact rfl | exact lit_colon | exact lit_nil | exact lit_empty | exact lit_crlf | exact lit_dot | exact lit_semi)
local macro_rules | `(tactic| walk_at "dotEnd") => `(tactic| (exact TextR.of ‹_› ‹_› (by first | exact dot_end1 ‹_› | exact dot_end0 ‹_›) (by dsimp only; omega)))
local macro_rules | `(tactic| walk_at "dot") => `(tactic| ((refine dot_cut (by with_reducible assumption) ‹_› ‹_› ?_ ?_); focus (refine IfExp_ ?_; walk_at "steps"; (all_goals walk_at "dotEnd"); done)))
set_option maxHeartbeats 4000000 in
theorem sent_spec {a ta tb : Addr} {na va nb vb : List Nat} {t1 t2 t3 t4 : Tok} {n : Nat} {rest : List (Addr × Obj)}
  (F : Fr h₀ L s.heap m) (N : News h₀ L s.heap ([(a, lst [.ref ta, .ref tb] n), (ta, tup [.str (S na) t1, .str (S va) t2]), (tb, tup [.str (S nb) t3, .str (S vb) t4])] ++ rest)) (hap : Apart [(a, lst [.ref ta, .ref tb] n), (ta, tup [.str (S na) t1, .str (S va) t2]), (tb, tup [.str (S nb) t3, .str (S vb) t4])] rest)
  (X : (KF w.params).In h₀) (T : Top p loose mean mg mb h₀) (r : Room A 5 40) (ht : 0 < s.toks) (b1 : na.length ≤ 1000) (b2 : va.length ≤ 1000) (b3 : nb.length ≤ 1000) (b4 : vb.length ≤ 1000)
  (ret : ∀ t h' tk', s.toks ≤ tk' → Fr h₀ L h' m → News h₀ L h' ([(a, lst [.ref ta, .ref tb] n), (ta, tup [.str (S na) t1, .str (S va) t2]), (tb, tup [.str (S nb) t3, .str (S vb) t4])] ++ rest) →
    Q (.str (S (sentL na va nb vb)) t) { s with heap := h', toks := tk' }) :
  wpAny (model prg w) A (call (.ref 285) [.ref a] []) Q E s := by
  have d1 := dotL_len (na ++ [58, 32] ++ va)
  have d2 := dotL_len (nb ++ [58, 32] ++ vb)
  refine' enterM (binds := [("rows", .ref a)]) F N hap X T r ht ?k6 ?k7 ?k9 ?kB ?_ ?c5 ?c2 ?c3 ?c4
  walk_at "enter"
  intro g' L' h' tk' dp fr gd un Qb F' N' X' T' r' l1 ht' htt' back backN
  clear F N X T
  k_lt l1
  walk_at "stepsI"
  walk_at "dot"
  intro t9 h9 k9 ht9 F9 N9; try dsimp only
  walk_at "stepsI"
  walk_at "dot"
  intro t9 h9 k9 ht9 F9 N9; try dsimp only
  walk_at "steps"
  refine back _ _ _ _ _ (by assumption) (by assumption) (fun F N ap9 ht => ?_)
  refine retS ?_ (ret _ _ _ ht F (News.sub N (by walk_at "sub")))
  rw [show ∀ a b c d : List Nat, [S a, S b, S c, S d] = [a, b, c, d].map S from fun _ _ _ _ => rfl, txt_joinS]
  congr 1
  unfold sentL
  simp only [joinL, List.append_assoc, List.cons_append, List.nil_append]
end
section
theorem wTop_Rwt : True ∧ True := by
  w_top off
  (try (walk1; fail))
  exact ⟨trivial, trivial⟩
noncomputable abbrev valL (wd : List Nat) : List Nat := [120] ++ [59, 32] ++ fmt [110, 45, 111, 45, 119] wd
/-- what a row's first word is -/
noncomputable def dn (na : List Nat) : List Nat := dotL na ++ na
noncomputable def rowT (na wd : List Nat) : List Nat := na ++ [58, 32] ++ valL wd
theorem dotL_row {na : List Nat} (h : na ≠ []) (l : List Nat) : dotL (na ++ l) = dotL na := by
  cases na with
  | nil => exact absurd rfl h
  | cons c r => simp [dotL]
structure GoodName (na : List Nat) : Prop where
  ne : na ≠ []
  w : wordy na
theorem tk_name {na wd r : List Nat} (h : GoodName na) : tokA (dotL (rowT na wd) ++ rowT na wd ++ [13, 10] ++ r) = some (dn na ++ [58], 120 :: 59 :: 32 :: (fmt [110, 45, 111, 45, 119] wd ++ 13 :: 10 :: r)) := by
  have e1 : dotL (rowT na wd) = dotL na := by
    unfold rowT
    rw [List.append_assoc]
    exact dotL_row h.ne _
  rw [e1]
  have e2 : dotL na ++ rowT na wd ++ [13, 10] ++ r = (dn na ++ [58]) ++ 32 :: 120 :: 59 :: 32 :: (fmt [110, 45, 111, 45, 119] wd ++ 13 :: 10 :: r) := by simp [rowT, dn, valL]
  rw [e2]
  have hw : ∀ c ∈ dn na ++ [58], ¬ ws c ∧ c ≠ 34 ∧ c ≠ 92 := by
    intro c hc
    unfold dn at hc
    rcases List.mem_append.mp hc with hc | hc
    · rcases List.mem_append.mp hc with hc | hc
      · unfold dotL at hc
        split at hc
        · rw [List.mem_singleton.mp hc]; decide
        · cases hc
      · exact h.w c hc
    · rw [List.mem_singleton.mp hc]; decide
  have hne : dn na ++ [58] ≠ [] := by simp
  generalize dn na ++ [58] = z at hw hne ⊢
  cases z with
  | nil => exact absurd rfl hne
  | cons c z => exact tokA_run (hw c (List.mem_cons_self ..)) (fun d hd => ⟨(hw d (List.mem_cons_of_mem _ hd)).1, (hw d (List.mem_cons_of_mem _ hd)).2.2⟩) (by decide)
theorem tk_x {r : List Nat} : tokA (120 :: 59 :: 32 :: r) = some ([120, 59], r) := tokA_run (p := [59]) (by decide) (by decide) (by decide)
theorem tk_now {wd r : List Nat} (h : ∀ c ∈ wd, ¬ ws c) : tokA (fmt [110, 45, 111, 45, 119] wd ++ 13 :: r) = some (nowT wd, r) := tokA_now h
theorem tk_skip {r : List Nat} {x : Option (List Nat × List Nat)} (h : tokA r = x) : tokA (10 :: r) = x := by rw [tokA_ws (by decide)]; exact h
theorem tk_dots : tokA [10, 13, 10, 46, 46, 13, 10] = some ([46, 46], [10]) := by
  rw [tokA_ws (by decide), tokA_ws (by decide), tokA_ws (by decide)]
  exact tokA_run (p := [46]) (by decide) (by decide) (by decide)
theorem sentL_eq (na wa nb wb : List Nat) : sentL na (valL wa) nb (valL wb) = dotL (rowT na wa) ++ rowT na wa ++ [13, 10] ++ (dotL (rowT nb wb) ++ rowT nb wb ++ [13, 10] ++ [13, 10, 46, 46, 13, 10]) := by
  unfold sentL rowT
  simp
theorem nl_app (a b : List Nat) : nl (a ++ b) = nl a + nl b := by unfold nl; rw [List.count_append]; simp
theorem nl_free {a : List Nat} (h : ∀ c ∈ a, c ≠ 10) : nl a = 0 := by
  unfold nl
  rw [List.count_eq_zero.mpr fun hm => h 10 hm rfl]; rfl
theorem rep1_mem {c d : Nat} {z l : List Nat} (h : d ∈ rep1 c z l) : d ∈ z ∨ d ∈ l := by
  unfold rep1 at h
  obtain ⟨a, ha, hd⟩ := List.mem_flatMap.mp h
  split at hd
  · exact .inl hd
  · rw [List.mem_singleton.mp hd]; exact .inr ha
theorem esc_mem {l : List Nat} {c : Nat} (h : c ∈ esc l) : c = 34 ∨ c = 92 ∨ c ∈ l := by
  unfold esc at h
  rcases rep1_mem h with h | h
  · simp at h; omega
  · rcases rep1_mem h with h | h
    · simp at h; omega
    · exact .inr (.inr h)
theorem row_ok {na wd : List Nat} (h1 : ∀ c ∈ na, ok c) (h2 : ∀ c ∈ wd, ok c) : ∀ c ∈ rowT na wd, ok c := by
  have h3 : ∀ c ∈ fmt [110, 45, 111, 45, 119] wd, ok c := by
    intro c hc
    unfold fmt at hc
    unfold ok
    split at hc
    · simp at hc; omega
    · simp only [List.mem_append, List.mem_cons, List.not_mem_nil, or_false] at hc
      rcases hc with ((hc | hc) | hc) | hc
      · omega
      · omega
      · rcases esc_mem hc with h | h | h
        · omega
        · omega
        · exact h2 c h
      · omega
  intro c hc
  unfold rowT valL at hc
  simp only [List.mem_append, List.mem_cons, List.not_mem_nil, or_false] at hc
  rcases hc with (hc | hc) | ((hc | hc) | hc)
  · exact h1 c hc
  · unfold ok; omega
  · unfold ok; omega
  · unfold ok; omega
  · exact h3 c hc
theorem ok_clean {p : List Nat} (h : ∀ c ∈ p, ok c) : clean p := fun c hc => by have := h c hc; unfold ok at this; omega
theorem dotL_mem {l : List Nat} {c : Nat} (h : c ∈ dotL l) : c = 46 := by
  unfold dotL at h
  split at h
  · exact List.mem_singleton.mp h
  · cases h
theorem nl_sent {na wa nb wb : List Nat} (h1 : ∀ c ∈ na, ok c) (h2 : ∀ c ∈ wa, ok c) (h3 : ∀ c ∈ nb, ok c) (h4 : ∀ c ∈ wb, ok c) : nl (sentL na (valL wa) nb (valL wb)) = 4 := by
  rw [sentL_eq]
  have f1 : ∀ c ∈ rowT na wa, c ≠ 10 := fun c hc => (ok_clean (row_ok h1 h2) c hc).1
  have f2 : ∀ c ∈ rowT nb wb, c ≠ 10 := fun c hc => (ok_clean (row_ok h3 h4) c hc).1
  have g1 : ∀ l, ∀ c ∈ dotL l, c ≠ 10 := fun l c hc => by rw [dotL_mem hc]; decide
  simp only [nl_app, nl_free f1, nl_free f2, nl_free (g1 _)]
  rfl
theorem sent_ascii {na wa nb wb : List Nat} (h1 : ∀ c ∈ na, ok c) (h2 : ∀ c ∈ wa, ok c) (h3 : ∀ c ∈ nb, ok c) (h4 : ∀ c ∈ wb, ok c) : ∀ c ∈ sentL na (valL wa) nb (valL wb), c < 128 := by
  rw [sentL_eq]
  intro c hc
  have f1 : ∀ c ∈ rowT na wa, c < 128 := fun c hc => by have := row_ok h1 h2 c hc; unfold ok at this; omega
  have f2 : ∀ c ∈ rowT nb wb, c < 128 := fun c hc => by have := row_ok h3 h4 c hc; unfold ok at this; omega
  have g1 : ∀ l, ∀ c ∈ dotL l, c < 128 := fun l c hc => by rw [dotL_mem hc]; decide
  simp only [List.mem_append, List.mem_cons, List.not_mem_nil, or_false] at hc
  rcases hc with ((hc | hc) | hc) | ((hc | hc) | hc) | hc
  · exact g1 _ c hc
  · exact f1 c hc
  · omega
  · exact g1 _ c hc
  · exact f2 c hc
  · omega
  · omega
/-- the text of the table, and a dot behind it -/
theorem text_join2 (na wa nb wb : List Nat) : na ++ [58, 32] ++ valL wa ++ [13, 10] ++ nb ++ [58, 32] ++ valL wb ++ [13, 10, 13, 10] = joinL [13, 10] [rowT na wa, rowT nb wb, [], []] := by simp [joinL, rowT]
theorem text_join3 (na wa nb wb : List Nat) : (na ++ [58, 32] ++ valL wa ++ [13, 10] ++ nb ++ [58, 32] ++ valL wb ++ [13, 10, 13, 10]) ++ [46, 13, 10] = joinL [13, 10] [rowT na wa, rowT nb wb, [], [46], []] := by simp [joinL, rowT]
theorem sent_qd {e na wa nb wb : List Nat} (he : isEnd e) (h1 : ∀ c ∈ na, ok c) (h2 : ∀ c ∈ wa, ok c) (h3 : ∀ c ∈ nb, ok c) (h4 : ∀ c ∈ wb, ok c) : qd (joinL e [rowT na wa, rowT nb wb, [], [46], []]) = sentL na (valL wa) nb (valL wb) := by
  rw [qd_rows he (ok_clean (row_ok h1 h2)) (ok_clean (row_ok h3 h4)), sentL_eq]; simp
end
section
theorem wTop_TA : True ∧ True := by
  w_top off
  (try (walk1; fail))
  exact ⟨trivial, trivial⟩

theorem pow3 (i : Nat) (hi : i < 9) : (0 : Int) < 9 * 3 ^ ((i : Int)).toNat ∧ (9 * 3 ^ ((i : Int)).toNat : Int) < 100000 :=
  (by decide +kernel : ∀ i : Nat, i < 9 → (0 : Int) < 9 * 3 ^ ((i : Int)).toNat ∧ (9 * 3 ^ ((i : Int)).toNat : Int) < 100000) i hi
set_option maxHeartbeats 2000000 in
theorem turn_end {f : Addr} {cd : Value} {led : List (Addr × Obj)} {a : Addr} {c0 c1 c2 c3 : Int} {t0 t1 t2 t3 tt : Tok} {n i : Nat} {rest : List Stmt} {Qb : Flow → Shared → Prop} (F : Fr h₀ L s.heap m) (N : News h₀ L s.heap ((a, lst [.int c0 t0, .int c1 t1, .int c2 t2, .int c3 t3] n) :: led))
  (X : (KF w.params).In h₀) (T : Top p loose mean mg mb h₀) (r : Room A 5 100) (ht : 0 < s.toks) (h1 : m "cells" = some (.ref a)) (h2 : m "turn" = some (.int (i : Int) tt)) (hi : i < 9)
  (ret : ∀ e te h' tk' m', isEnd e → @LT.lt Nat _ 0 te → @LT.lt Nat _ te tk' → Agree ["end"] m m' → m' "end" = some (.str (S e) te) → Fr h₀ L h' m' → News h₀ L h' ((a, lst [.int c0 t0, .int c1 t1, .int c2 t2, .int c3 t3] n) :: led) → Qb .next { s with heap := h', toks := tk' }) :
  wpAny (model prg w) A (exec (turnS 0) (lawEnv L f cd)) Qb (fun _ _ => False) s := by
  rw [show turnS 0 = Stmt.Assign _ _ _ from rfl]
  unfold lawEnv
  conv in lawScope => (whnf; dsimp only)
  obtain ⟨hA, dp, fr, gd, un⟩ := A
  obtain rfl : hA = none := r.hh
  walk_at "steps"
  obtain ⟨hp, hp2⟩ := pow3 i hi
  generalize (9 * 3 ^ ((i : Int)).toNat : Int) = P at hp hp2 ⊢
  walk_at "steps"
  obtain ⟨d, hd, ed⟩ := dot_nat (c3.fdiv P)
  rw [show ([c0, c1, c2, c3].getD (Int.toNat 3) 0) = c3 from rfl, ed]
  have : d = 0 ∨ d = 1 ∨ d = 2 := lt3 d (by assumption)
  rcases this with rfl | rfl | rfl <;> refine item_listL (News.list (by assumption) (by k_mem)) (by decide) (by decide) rfl ?_ <;> refine Wt.intro fun htw => ?_
  · walk_at "steps"
    refine' ret _ _ _ _ _ (.inl rfl) ?t1 ?t2 ?ag ?m1 ?F ?N
    case F => assumption
    case m1 => rw [← lit_crlf]; rfl
    case N => exact News.sub (by assumption) (by walk_at "sub")
    case ag =>
      intro x hx
      simp only [List.mem_cons, List.not_mem_nil, or_false] at hx
      simp only [hx, if_false]
    case t1 => (try dsimp only); omega
    case t2 => (try dsimp only); omega
  · walk_at "steps"
    refine' ret _ _ _ _ _ (.inr (.inl rfl)) ?t1 ?t2 ?ag ?m1 ?F ?N
    case F => assumption
    case m1 => rw [← lit_nl]; rfl
    case N => exact News.sub (by assumption) (by walk_at "sub")
    case ag =>
      intro x hx
      simp only [List.mem_cons, List.not_mem_nil, or_false] at hx
      simp only [hx, if_false]
    case t1 => (try dsimp only); omega
    case t2 => (try dsimp only); omega
  · walk_at "steps"
    refine' ret _ _ _ _ _ (.inr (.inr rfl)) ?t1 ?t2 ?ag ?m1 ?F ?N
    case F => assumption
    case m1 => rw [← lit_cr]; rfl
    case N => exact News.sub (by assumption) (by walk_at "sub")
    case ag =>
      intro x hx
      simp only [List.mem_cons, List.not_mem_nil, or_false] at hx
      simp only [hx, if_false]
    case t1 => (try dsimp only); omega
    case t2 => (try dsimp only); omega
end
section
theorem wTop_StrH : True ∧ True := by
  w_top off
  (try (walk1; fail))
  exact ⟨trivial, trivial⟩
local macro_rules | `(tactic| walk_at "binaryOp Mod str ref") => `(tactic| (k_dflt (refine mod_pair (by k_asm) (by k_mem) (by omega) (by omega) ?_); intro t9 k9 ht9; try dsimp only))
set_option maxHeartbeats 4000000 in
theorem strH_spec {rest : List (Addr × Obj)} {x dx hl ta tb : Addr} {t0 : Tok} {n : Nat} {na va nb vb : List Nat} {t1 t2 t3 t4 : Tok}
  (F : Fr h₀ L s.heap m) (N : News h₀ L s.heap ((hdLed w x dx hl t0 [.ref ta, .ref tb] n ++ [(ta, tup [.str (S na) t1, .str (S va) t2]), (tb, tup [.str (S nb) t3, .str (S vb) t4])]) ++ rest)) (hap : Apart (hdLed w x dx hl t0 [.ref ta, .ref tb] n ++ [(ta, tup [.str (S na) t1, .str (S va) t2]), (tb, tup [.str (S nb) t3, .str (S vb) t4])]) rest)
  (X : (KF w.params).In h₀) (T : Top p loose mean mg mb h₀) (r : Room A 5 40) (ht : 0 < s.toks) (b1 : na.length ≤ 1000) (b2 : va.length ≤ 1000) (b3 : nb.length ≤ 1000) (b4 : vb.length ≤ 1000)
  (ret : ∀ t h' tk', s.toks ≤ tk' → Fr h₀ L h' m → News h₀ L h' ((hdLed w x dx hl t0 [.ref ta, .ref tb] n ++ [(ta, tup [.str (S na) t1, .str (S va) t2]), (tb, tup [.str (S nb) t3, .str (S vb) t4])]) ++ rest) →
    Q (.str (S (na ++ [58, 32] ++ va ++ [13, 10] ++ nb ++ [58, 32] ++ vb ++ [13, 10, 13, 10])) t) { s with heap := h', toks := tk' }) :
  wpAny (model prg w) A (call (.ref 226) [.ref x] []) Q E s := by
  refine' enterM (binds := [("self", .ref x)]) F N hap X T r ht ?k6 ?k7 ?k9 ?kB ?_ ?c5 ?c2 ?c3 ?c4
  walk_at "enter"
  intro g' L' h' tk' dp fr gd un Qb F' N' X' T' r' l1 ht' htt' back backN
  clear F N X T
  simp only [List.cons_append, List.nil_append] at N' l1
  k_lt l1
  walk_at "steps"
  refine back _ _ _ _ _ (by assumption) (by assumption) (fun F N ap9 ht => ?_)
  refine retS ?_ (ret _ _ _ ht F (News.sub N ?sub))
  · rw [show ∀ a b : List Nat, [S a, S b, S [], S []] = [a, b, [], []].map S from fun _ _ => rfl, txt_joinS]
    simp only [joinL, List.append_assoc, List.cons_append, List.nil_append, List.append_nil]
  · intro p hp
    rcases List.mem_append.mp hp with hp | hp
    · exact List.mem_append_left _ (List.mem_cons_of_mem _ (List.mem_cons_of_mem _ (List.mem_cons_of_mem _ hp)))
    · exact List.mem_append_right _ hp
end
section
theorem wTop_Quo : True ∧ True := by
  w_top off
  (try (walk1; fail))
  exact ⟨trivial, trivial⟩
theorem nrm_len : ∀ l, (nrm l).length ≤ 2 * l.length
  | [] => Nat.le_refl _
  | [c] => by unfold nrm; split <;> simp
  | c :: d :: r => by
    have h1 := nrm_len r
    have h2 := nrm_len (d :: r)
    unfold nrm
    split
    · simp only [List.length_cons]; omega
    · split <;> (simp only [List.length_cons] at h2 ⊢; omega)
local macro_rules | `(tactic| walk_at "getMethod ref") => `(tactic| (first
  | (refine getMethod_pat (patD (by k_in)) slot_sub type_sub ?_)
  | (refine getMethod_pat (patW (by k_in)) slot_sub type_sub ?_)))
local macro_rules | `(tactic| walk_at "call builtin:re.Pattern.sub") => `(tactic| ((try simp only [lit_crlf, lit_dots, S_lit2]); (first
  | ((with_reducible show wpAny _ _ (call (Value.builtin _) [Value.ref 92, Value.str _ _, Value.str _ _]) _ _ _); refine subD ‹_› ‹_› ‹_› (by omega) ?_)
  | ((with_reducible show wpAny _ _ (call (Value.builtin _) [Value.ref 97, Value.str _ _, Value.str _ _]) _ _ _); refine subW ‹_› ‹_› ‹_› (by omega) ?_)); intro t9 h9 tk9 ht9 F9 N9; (try dsimp only)))

set_option maxHeartbeats 4000000 in
theorem quote_spec (F : Fr h₀ L s.heap m) (N : News h₀ L s.heap news) (X : (KF w.params).In h₀) (T : Top p loose mean mg mb h₀) (r : Room A 2 20) (ht : 0 < s.toks)
  (l : List Nat) (t : Tok) (hl : l.length ≤ 100000)
  (ret : ∀ t h' tk', s.toks ≤ tk' → Fr h₀ L h' m → News h₀ L h' news → Q (.str (S (qd l)) t) { s with heap := h', toks := tk' }) :
  wpAny (model prg w) A (call (.ref 104) [.str (S l) t] []) Q E s := by
  have hn := nrm_len l
  refine' enterM (led := []) (binds := [("data", .str (S l) t)]) F N Apart.nil X T r ht ?k6 ?k7 ?k9 ?kB ?_ ?c5 ?c2 ?c3 ?c4
  walk_at "enter"
  intro g' L' h' tk' dp fr gd un Qb F' N' X' T' r' l1 ht' htt' back backN
  clear F N X T
  walk_at "steps"
  refine back _ _ _ _ _ (by assumption) (by assumption) (fun F N ap9 ht => ?_)
  exact ret _ _ _ ht F (News.sub N (by walk_at "sub"))
end
section
theorem wTop_TB : True ∧ True := by
  w_top off
  (try (walk1; fail))
  exact ⟨trivial, trivial⟩
theorem lit_dcr : Str.ofString ".\r\n" = S [46, 13, 10] := by decide +kernel
local macro_rules | `(tactic| walk_at "lits") => `(tactic| with_reducible first | exact rfl | exact lit_dcr)
theorem joinD (a b : List Nat) : joinL [13, 10] [a, b, [], []] ++ [46, 13, 10] = joinL [13, 10] [a, b, [], [46], []] := by simp [joinL]
theorem join_len {e a b : List Nat} (he : e.length ≤ 2) (ha : a.length ≤ 300) (hb : b.length ≤ 300) : (joinL e [a, b, [], [46], []]).length ≤ 1000 := by simp [joinL]; omega
theorem join_len4 {a b : List Nat} (ha : a.length ≤ 300) (hb : b.length ≤ 300) : (joinL [13, 10] [a, b, [], []]).length ≤ 1000 := by simp [joinL]; omega
theorem repl_end {prog : Program} {w : World} {A : Around} {E : Value → Shared → Prop} {s : Shared} {a b e : List Nat} {t u v : Tok} {Q : Value → Shared → Prop} (hu : u ≠ 0) (hv : v ≠ 0) (huv : u ≠ v) (he : e.length ≤ 2) (ha : a.length ≤ 300) (hb : b.length ≤ 300) (ca : clean a) (cb : clean b)
    (hnb : NoneBooked s.heap) (hq : ∀ t' k, s.toks ≤ k → Q (.str (S (joinL e [a, b, [], [46], []])) t') { s with toks := k }) :
    wpAny (model prog w) A (call (.builtin "str.replace") [.str (S (joinL [13, 10] [a, b, [], []] ++ [46, 13, 10])) t, .str (Str.ofString "\r\n") u, .str (S e) v]) Q E s := by
  have h1 := join_len (e := [13, 10]) (by decide) ha hb
  rw [joinD, lit_crlf]
  refine wpAny_with_toks (Nat.le_refl _) (PySem.SC.replaceA hu hv huv ?_ (fun t' k ht => ?_) hnb)
  · rw [S_length, S_length]
    have : ((joinL [13, 10] [a, b, [], [46], []]).length + 1) * e.length ≤ 1001 * 2 := Nat.mul_le_mul (by omega) he
    omega
  · rw [replace_crlf (by simp) ?_]
    · exact hq t' k ht
    · intro p hp
      simp only [List.mem_cons, List.not_mem_nil, or_false] at hp
      rcases hp with rfl | rfl | rfl | rfl | rfl
      · exact fun h => (ca _ h).2 rfl
      · exact fun h => (cb _ h).2 rfl
      · simp
      · simp
      · simp
theorem count3 {prog : Program} {w : World} {A : Around} {E : Value → Shared → Prop} {s : Shared} {a b : List Nat} {t u : Tok} {Q : Value → Shared → Prop} (ca : clean a) (cb : clean b) (h : Q (.int 3 s.toks) { s with toks := s.toks + 1 }) :
    wpAny (model prog w) A (call (.builtin "str.count") [.str (S (joinL [13, 10] [a, b, [], []])) t, .str (Str.ofString "\r\n") u]) Q E s := by
  refine PySem.SC.count ?_
  rw [lit_crlf, count_crlf (by simp) ?_]
  · exact h
  · intro p hp
    simp only [List.mem_cons, List.not_mem_nil, or_false] at hp
    rcases hp with rfl | rfl | rfl | rfl
    · exact fun h => (ca _ h).2 rfl
    · exact fun h => (cb _ h).2 rfl
    · simp
    · simp
local macro_rules | `(tactic| walk_at "call builtin:str.count") => `(tactic| (refine count3 ‹_› ‹_› ?_))
theorem ne_same {prog : Program} {w : World} {A : Around} {E : Value → Shared → Prop} {s : Shared} {x : Str} {t u : Tok} {Q : Value → Shared → Prop} (h : Q (.bool false) s) : wpAny (model prog w) A (compareOp .NotEq (.str x t) (.str x u)) Q E s := by
  refine PySem.P.ne_str ?_
  rw [show (x.cps.toList != x.cps.toList) = false by simp]
  exact h
local macro_rules | `(tactic| walk_at "compareOp NotEq str str") => `(tactic| (refine ne_same ?_))
noncomputable abbrev headLed (w : World) (x dx hl ta tb : Addr) (t0 : Tok) (n : Nat) (na va nb vb : List Nat) (t1 t2 t3 t4 : Tok) : List (Addr × Obj) :=
  hdLed w x dx hl t0 [.ref ta, .ref tb] n ++ [(ta, tup [.str (S na) t1, .str (S va) t2]), (tb, tup [.str (S nb) t3, .str (S vb) t4])]
theorem tup_ne_hd {w : World} {h₀ h : Heap} {L x dx hl : Addr} {t0 : Tok} {vs : List Value} {n : Nat} {p : Addr} {us : List Value} {all : List (Addr × Obj)} (N : News h₀ L h all) (hh : ∀ q ∈ hdLed w x dx hl t0 vs n, q ∈ all) (hp : (p, tup us) ∈ all) : ∀ q ∈ hdLed w x dx hl t0 vs n, p ≠ q.1 := by
  intro q hq
  have hqa := hh q hq
  simp only [List.mem_cons, List.not_mem_nil, or_false] at hq
  rcases hq with rfl | rfl | rfl
  · exact news_ne N hp hqa fun e => absurd (congrArg Obj.cls e) (by simp)
  · exact news_ne N hp hqa fun e => absurd (congrArg Obj.cls e) (by simp)
  · exact news_ne N hp hqa fun e => absurd (congrArg Obj.cls e) (by simp)
theorem apart_items {w : World} {h₀ h : Heap} {L x dx hl ta tb : Addr} {t0 t1 t2 t3 t4 : Tok} {n : Nat} {na va nb vb : List Nat} {led : List (Addr × Obj)} (N : News h₀ L h (headLed w x dx hl ta tb t0 n na va nb vb t1 t2 t3 t4 ++ led)) (hap : Apart (headLed w x dx hl ta tb t0 n na va nb vb t1 t2 t3 t4) led) :
    Apart (hdLed w x dx hl t0 [.ref ta, .ref tb] n) ((ta, tup [.str (S na) t1, .str (S va) t2]) :: (tb, tup [.str (S nb) t3, .str (S vb) t4]) :: led) := by
  intro p hp q hq
  have hh : ∀ q ∈ hdLed w x dx hl t0 [.ref ta, .ref tb] n, q ∈ headLed w x dx hl ta tb t0 n na va nb vb t1 t2 t3 t4 ++ led := fun q hq => List.mem_append_left _ (List.mem_append_left _ hq)
  rcases List.mem_cons.mp hp with rfl | hp
  · exact tup_ne_hd (us := [.str (S na) t1, .str (S va) t2]) N hh (by simp) q hq
  rcases List.mem_cons.mp hp with rfl | hp
  · exact tup_ne_hd (us := [.str (S nb) t3, .str (S vb) t4]) N hh (by simp) q hq
  · exact hap p hp q (List.mem_append_left _ hq)
theorem apart_sent {w : World} {h₀ h : Heap} {L x dx hl ta tb a : Addr} {oa : Obj} {t0 t1 t2 t3 t4 : Tok} {n : Nat} {na va nb vb : List Nat} {led : List (Addr × Obj)} (N : News h₀ L h (headLed w x dx hl ta tb t0 n na va nb vb t1 t2 t3 t4 ++ led)) (hap : Apart (headLed w x dx hl ta tb t0 n na va nb vb t1 t2 t3 t4) led)
    (lt : @LT.lt Nat _ x a ∧ @LT.lt Nat _ dx a ∧ @LT.lt Nat _ hl a) (ap : ∀ p ∈ (ta, tup [.str (S na) t1, .str (S va) t2]) :: (tb, tup [.str (S nb) t3, .str (S vb) t4]) :: led, p.1 ≠ a) :
    Apart [(a, oa), (ta, tup [.str (S na) t1, .str (S va) t2]), (tb, tup [.str (S nb) t3, .str (S vb) t4])] (hdLed w x dx hl t0 [.ref ta, .ref tb] n ++ led) := by
  intro p hp q hq
  have hh : ∀ q ∈ hdLed w x dx hl t0 [.ref ta, .ref tb] n, q ∈ headLed w x dx hl ta tb t0 n na va nb vb t1 t2 t3 t4 ++ led := fun q hq => List.mem_append_left _ (List.mem_append_left _ hq)
  simp only [List.mem_cons, List.not_mem_nil, or_false] at hq
  rcases List.mem_append.mp hp with hp | hp
  · rcases hq with rfl | rfl | rfl
    · simp only [List.mem_cons, List.not_mem_nil, or_false] at hp
      rcases hp with rfl | rfl | rfl <;> (show @Ne Nat _ _; dsimp only; omega)
    · exact (tup_ne_hd (us := [.str (S na) t1, .str (S va) t2]) N hh (by simp) p hp).symm
    · exact (tup_ne_hd (us := [.str (S nb) t3, .str (S vb) t4]) N hh (by simp) p hp).symm
  · rcases hq with rfl | rfl | rfl
    · exact ap p (List.mem_cons_of_mem _ (List.mem_cons_of_mem _ hp))
    · exact hap p hp _ (by k_mem)
    · exact hap p hp _ (by k_mem)
theorem news_sent {w : World} {h₀ h : Heap} {L x dx hl ta tb a : Addr} {oa : Obj} {t0 : Tok} {n : Nat} {p q : Addr × Obj} {led : List (Addr × Obj)} (N : News h₀ L h ((a, oa) :: (hdLed w x dx hl t0 [.ref ta, .ref tb] n ++ p :: q :: led))) : News h₀ L h ([(a, oa), p, q] ++ (hdLed w x dx hl t0 [.ref ta, .ref tb] n ++ led)) := News.sub N (by (try simp only [List.cons_append, List.nil_append]); walk_at "subs")
theorem news_back {w : World} {h₀ h : Heap} {L x dx hl ta tb a : Addr} {oa : Obj} {t0 : Tok} {n : Nat} {p q : Addr × Obj} {led : List (Addr × Obj)} (N : News h₀ L h ([(a, oa), p, q] ++ (hdLed w x dx hl t0 [.ref ta, .ref tb] n ++ led))) : News h₀ L h ((hdLed w x dx hl t0 [.ref ta, .ref tb] n ++ [p, q]) ++ led) := News.sub N (by (try simp only [List.cons_append, List.nil_append]); walk_at "subs")
set_option maxHeartbeats 2000000 in
theorem turn_sent {f : Addr} {cd : Value} {led : List (Addr × Obj)} {x dx hl ta tb : Addr} {t0 t1 t2 t3 t4 te : Tok} {n : Nat} {na wa nb wb e : List Nat} {rest : List Stmt} {Qb : Flow → Shared → Prop} (F : Fr h₀ L s.heap m) (N : News h₀ L s.heap (headLed w x dx hl ta tb t0 n na (valL wa) nb (valL wb) t1 t2 t3 t4 ++ led)) (hap : Apart (headLed w x dx hl ta tb t0 n na (valL wa) nb (valL wb) t1 t2 t3 t4) led)
  (X : (KF w.params).In h₀) (T : Top p loose mean mg mb h₀) (r : Room A 15 150) (ht : 0 < s.toks) (h1 : m "head" = some (.ref x)) (h2 : m "end" = some (.str (S e) te)) (he : isEnd e) (hte0 : @LT.lt Nat _ 0 te) (hte1 : @LT.lt Nat _ te s.toks)
  (o1 : ∀ c ∈ na, ok c) (o2 : ∀ c ∈ wa, ok c) (o3 : ∀ c ∈ nb, ok c) (o4 : ∀ c ∈ wb, ok c) (b1 : na.length ≤ 100) (b2 : wa.length ≤ 20) (b3 : nb.length ≤ 100) (b4 : wb.length ≤ 20)
  (ret : ∀ ts h' tk' m', s.toks ≤ tk' → Agree ["text", "sent"] m m' → m' "sent" = some (.str (S (sentL na (valL wa) nb (valL wb))) ts) → Fr h₀ L h' m' → News h₀ L h' (headLed w x dx hl ta tb t0 n na (valL wa) nb (valL wb) t1 t2 t3 t4 ++ led) → wpAny (model prg w) A (execs rest (lawEnv L f cd)) Qb (fun _ _ => False) { s with heap := h', toks := tk' }) :
  wpAny (model prg w) A (execs (turnS 1 :: turnS 2 :: turnS 3 :: rest) (lawEnv L f cd)) Qb (fun _ _ => False) s := by
  rw [show turnS 1 = Stmt.Assign _ _ _ from rfl, show turnS 2 = Stmt.Assign _ _ _ from rfl, show turnS 3 = Stmt.If _ _ _ _ from rfl]
  unfold lawEnv at ret ⊢
  conv in lawScope => (whnf; dsimp only)
  have f1 := fmt_len [110, 45, 111, 45, 119] wa
  have f2 := fmt_len [110, 45, 111, 45, 119] wb
  have bv1 : (valL wa).length ≤ 150 := by simp only [List.length_append, List.length_cons, List.length_nil] at f1 ⊢; omega
  have bv2 : (valL wb).length ≤ 150 := by simp only [List.length_append, List.length_cons, List.length_nil] at f2 ⊢; omega
  generalize hva : valL wa = va at *
  generalize hvb : valL wb = vb at *
  have hel : e.length ≤ 2 := by rcases he with rfl | rfl | rfl <;> decide
  obtain ⟨hA, dp, fr, gd, un⟩ := A
  obtain rfl : hA = none := r.hh
  walk_at "steps"
  refine kso_call (f := 226) (C := 250) ?u9 (by k_in) (InstAt.of_news N (by k_mem) (by k_mem)) (by k_is) (by k_is) ?_
  · have h9 := r.hu; dsimp only at h9; show un + 1 + 1 < cLine; omega
  refine strH_spec F N hap X T (Room.in1 (Room.in1 (Room.less r (by omega) (by omega)))) ht (by omega) (by omega) (by omega) (by omega) (fun tx h9 tk9 ht9 F9 N9 => ?_)
  rw [← hva, ← hvb, text_join2]
  show Wt _ _ _ _
  refine Wt.intro fun htw => ?_
  dsimp only at htw ht9 ⊢
  have l1 : (rowT na wa).length ≤ 300 := by unfold rowT; rw [hva]; simp only [List.length_append, List.length_cons, List.length_nil]; omega
  have l2 : (rowT nb wb).length ≤ 300 := by unfold rowT; rw [hvb]; simp only [List.length_append, List.length_cons, List.length_nil]; omega
  have l3 := join_len4 l1 l2
  have ca := ok_clean (row_ok o1 o2)
  have cb := ok_clean (row_ok o3 o4)
  walk_at "steps"
  refine repl_end (by walk_at "ne") (by walk_at "ne") (by walk_at "ne") hel l1 l2 ca cb (none_bk (by k_in)) (fun t5 k5 ht5 => ?_)
  refine Wt.intro fun htw => ?_
  dsimp only at htw ht5 ⊢
  have l4 := join_len hel l1 l2
  walk_at "steps"
  refine quote_spec (by assumption) (by assumption) (by assumption) (by assumption) (Room.less (by assumption) (by omega) (by omega)) (by (try dsimp only); omega) _ _ (by omega) (fun t6 h6 tk6 ht6 F6 N6 => ?_)
  refine Wt.intro fun htw => ?_
  dsimp only at htw ht6 ⊢
  rw [sent_qd he o1 o2 o3 o4, hva, hvb]
  walk_at "steps"
  have F8 := (by assumption : Fr h₀ L _ _)
  have N8 := (by assumption : News h₀ L _ (_ ++ led))
  refine items_spec F8 N8 (apart_items N8 hap) (by assumption) (by assumption) (Room.less r (by omega) (by omega)) (by (try dsimp only); omega) (by simp) (fun a7 h7 tk7 ht7 F7 N7 lt7 ap7 => ?_)
  refine Wt.intro fun htw => ?_
  dsimp only at htw ht7 ⊢
  walk_at "steps"
  have F9 := (by assumption : Fr h₀ L _ _)
  have N9 := (by assumption : News h₀ L _ ((a7, _) :: _))
  refine sent_spec F9 (news_sent N9) (apart_sent N8 hap lt7 ap7) (by assumption) (by assumption) (Room.less r (by omega) (by omega)) (by (try dsimp only); omega) (by omega) (by omega) (by omega) (by omega) (fun t10 h10 tk10 ht10 F10 N10 => ?_)
  refine Wt.intro fun htw => ?_
  dsimp only at htw ht10 ⊢
  walk_at "steps"
  have N11 := (by assumption : News h₀ L _ ([(a7, _), _, _] ++ _))
  refine' ret _ _ _ _ ?t1 ?ag ?m1 ?F (news_back N11)
  case F => assumption
  case m1 => rfl
  case ag =>
    intro x hx
    simp only [List.mem_cons, List.not_mem_nil, or_false, not_or] at hx
    simp only [hx, if_false]
  case t1 => (try dsimp only); omega
end
section
theorem wTop_Lex1 : True ∧ True := by
  w_top off
  (try (walk1; fail))
  exact ⟨trivial, trivial⟩
set_option maxHeartbeats 4000000 in
theorem initLex_code {R : Result → Shared → Prop} {x dx : Addr} {fp : Value} (F : Fr h₀ L s.heap m) (N : News h₀ L s.heap ([(x, instObj 83 dx), (dx, dictOf [] 0)] ++ news)) (hap : Apart [(x, instObj 83 dx), (dx, dictOf [] 0)] news)
  (X : (KF w.params).In h₀) (T : Top p loose mean mg mb h₀) (r : Room A 5 40) (ht : 0 < s.toks) (e1 : @LT.lt Nat _ dx x)
  (ret : ∀ px t1 t2 t3 t4 tw tn h' tk', s.toks ≤ tk' → Fr h₀ L h' m → News h₀ L h' (lxLed w x dx px t1 t2 t3 t4 tw 1 tn fp 4 [] 0 ++ news) → (@LT.lt Nat _ x px) → R (.ok (.ret .none)) { s with heap := h', toks := tk' }) :
  codeAny (model prg w) A (.call (.ref 59) ⟨[.ref x, fp], []⟩) R s := by
  refine' enterMc (binds := [("self", .ref x), ("fp", fp)]) F N hap X T r ht ?k6 ?k7 ?k9 ?kB ?_ ?c5 ?c2 ?c3 ?c4
  walk_at "enter"
  intro g' L' h' tk' dp fr gd un Qb F' N' X' T' r' l1 ht' htt' back backN
  clear F N X T
  k_lt l1
  walk_at "steps"
  refine backN _ _ _ _ (by assumption) (by assumption) (fun F N ap9 ht => ?_)
  refine' ret ?a ?t1 ?t2 ?t3 ?t4 ?tw ?tn ?h ?tk ht F (News.sub N ?sub) ?lt
  case sub => walk_at "sub"
  case lt => walk_at "lt"

theorem newLex_spec {fp : Value} (F : Fr h₀ L s.heap m) (N : News h₀ L s.heap news) (X : (KF w.params).In h₀) (T : Top p loose mean mg mb h₀) (r : Room A 6 43) (ht : 0 < s.toks)
  (ret : ∀ x dx px t1 t2 t3 t4 tw tn h' tk', s.toks ≤ tk' → Fr h₀ L h' m → News h₀ L h' (lxLed w x dx px t1 t2 t3 t4 tw 1 tn fp 4 [] 0 ++ news) → (∀ p ∈ news, @LT.lt Nat _ p.1 dx) → (@LT.lt Nat _ dx x) → (@LT.lt Nat _ x px) → Q (.ref x) { s with heap := h', toks := tk' }) :
  wpAny (model prg w) A (call (.ref 83) [fp] []) Q E s := by
  refine call_cls (fI := 59) F X N (by k_is) (by k_is) (by k_is) (fun x dx h' F1 N1 l1 l2 => ?_)
  refine initLex_code (s := { s with heap := h' }) F1 N1 (fun p hp q hq => ?_) X T (Room.made r) ht l2 (fun px t1 t2 t3 t4 tw tn h'' tk' ht' F2 N2 l3 => ?_)
  · rcases List.mem_cons.mp hq with rfl | hq
    · exact Nat.ne_of_lt (Nat.lt_trans (l1 p hp) l2)
    · obtain rfl := List.mem_singleton.mp hq
      exact Nat.ne_of_lt (l1 p hp)
  · exact ⟨rfl, ret x dx px t1 t2 t3 t4 tw tn h'' tk' ht' F2 N2 l1 l2 l3⟩
end
section
theorem wTop_LxL : True ∧ True := by
  w_top off
  (try (walk1; fail))
  exact ⟨trivial, trivial⟩
set_option maxHeartbeats 4000000 in
theorem push_spec {y dy py : Addr} {u1 u2 u3 u4 uw un : Tok} {v : Value} {rest : List (Addr × Obj)} (F : Fr h₀ L s.heap m) (N : News h₀ L s.heap (lxLed w y dy py u1 u2 u3 u4 uw 1 un .none 4 [] 0 ++ rest)) (hap : Apart (lxLed w y dy py u1 u2 u3 u4 uw 1 un .none 4 [] 0) rest)
  (X : (KF w.params).In h₀) (T : Top p loose mean mg mb h₀) (r : Room A 3 40) (ht : 0 < s.toks) (e1 : @LT.lt Nat _ dy y) (e2 : @LT.lt Nat _ y py)
  (ret : ∀ h' tk', s.toks ≤ tk' → Fr h₀ L h' m → News h₀ L h' (lxLed w y dy py u1 u2 u3 u4 uw 1 un .none 4 [v] 1 ++ rest) → Q .none { s with heap := h', toks := tk' }) :
  wpAny (model prg w) A (call (.ref 80) [.ref y, v] []) Q E s := by
  refine' enterM (binds := [("self", .ref y), ("token", v)]) F N hap X T r ht ?k6 ?k7 ?k9 ?kB ?_ ?c5 ?c2 ?c3 ?c4
  walk_at "enter"
  intro g' L' h' tk' dp fr gd un Qb F' N' X' T' r' l1 ht' htt' back backN
  clear F N X T hap
  dsimp only [lxLed, lxE, List.cons_append, List.nil_append] at N'
  k_lt l1
  walk_at "steps"
  refine backN _ _ _ _ (by assumption) (by assumption) (fun F N ap9 ht => ?_)
  exact ret _ _ ht F (News.sub N (by walk_at "sub"))
theorem tab_code {h : Heap} (X : (KF w.params).In h) : CodeHd h 260 256 := by
  have e := X 260 _ rfl
  exact ⟨_, _, _, _, _, _, _, _, _, e, rfl, rfl, rfl, rfl, rfl, rfl, rfl, rfl, by decide⟩
end
section
theorem wTop_LxM : True ∧ True := by
  w_top off
  (try (walk1; fail))
  exact ⟨trivial, trivial⟩
theorem apart_lx {x dx px : Addr} {t1 t2 t3 t4 tw : Tok} {n : Int} {tn : Tok} {fp : Value} {c : Nat} {vs : List Value} {vn : Nat} {rest : List (Addr × Obj)} (h : ∀ p ∈ rest, @LT.lt Nat _ p.1 dx) (h1 : @LT.lt Nat _ dx x) (h2 : @LT.lt Nat _ x px) :
    Apart (lxLed w x dx px t1 t2 t3 t4 tw n tn fp c vs vn) rest := by
  intro p hp q hq
  have h3 := h p hp
  simp only [List.mem_cons, List.not_mem_nil, or_false] at hq
  rcases hq with rfl | rfl | rfl <;> (show @Ne Nat _ _; dsimp only; omega)
local macro_rules | `(tactic| walk_at "call ref") => `(tactic| (first
  | ((with_reducible show wpAny _ _ (call (Value.ref 83) _ _) _ _ _); (refine newLex_spec ‹_› ‹_› ‹_› ‹_› (by walk_at "room") (by walk_at "tk") ?_); intro x9 dx9 px9 t19 t29 t39 t49 tw9 tn9 h9 tk9 ht9 F9 N9 la9 lb9 lc9; (have la8 := la9); k_lt la8; try dsimp only)
  | ((with_reducible show wpAny _ _ (call (Value.ref 80) _ _) _ _ _); k_dflt (refine push_spec ‹_› ‹_› (apart_lx ‹_› ‹_› ‹_›) ‹_› ‹_› (by walk_at "room") (by walk_at "tk") ‹_› ‹_› ?_); intro h9 tk9 ht9 F9 N9; dsimp only [lxLed, lxE, List.cons_append, List.nil_append] at N9; try dsimp only)))
local macro_rules | `(tactic| walk_at "call type:list") => `(tactic| ((with_reducible show wpAny _ _ (call (Value.type _) [Value.str _ _]) _ _ _); (refine list_chars (by first | rfl | exact Room.hh ‹_›) ‹_› ‹_› ‹_› ?_); intro sg9 vs9 vn9 h9 tk9 ht9 F9 N9 hi9 lt9; k_lt lt9; (try dsimp only)))
noncomputable def qualL : Str := Str.ofString "_law_lexer.<locals>.read"
noncomputable abbrev lxTab (c' : Addr) : Obj := tabObj (#[] ++ #[rawInt ((167 : Nat) : Int), rawInt ((4 : Nat) : Int), .ref c'])
set_option maxHeartbeats 4000000 in
theorem lexer_first {rest : List (Addr × Obj)} (F : Fr h₀ L s.heap m) (N : News h₀ L s.heap ([(256, tabObj #[])] ++ rest)) (hap : Apart [(256, tabObj #[])] rest)
  (X : (KF w.params).In h₀) (T : Top p loose mean mg mb h₀) (r : Room A 8 100) (ht : 0 < s.toks) {l : List Nat} {t : Tok} (hl : ∀ c ∈ l, c < 128) (hz : l.length ≤ 100000)
  (ret : ∀ (Z : LX) vs vn tn h' tk', Z.Ok w → Z.qual = qualL → StrsAre vs (chars l) → s.toks ≤ tk' → Fr h₀ L h' m → News h₀ L h' ((lxA w Z 1 tn [] 0 vs vn ++ [(256, lxTab Z.c')]) ++ rest) → Apart (lxA w Z 1 tn [] 0 vs vn ++ [(256, lxTab Z.c')]) rest → Q (.ref Z.x) { s with heap := h', toks := tk' }) :
  wpAny (model prg w) A (call (.ref 261) [.str (S l) t] []) Q E s := by
  have C := tab_code X
  refine' enterC (binds := [("text", .str (S l) t)]) F N hap X T r ht ?k6 ?k7 ?k9 ?kB ?kN ?_ ?c2 ?c3 ?c4
  case k6 => k_is
  case k7 => k_is
  case k9 => exact BindsTo.of_eq rfl
  case kB => intro n x hx; obtain rfl := List.mem_singleton.mp hx; exact .inl rfl
  case kN => decide
  case c2 => rfl
  case c3 => rfl
  case c4 => rfl
  intro g' L' h' tk' cells dp fr gd un Qb F' N' Y X' T' r' l1 ht' htt' back backN
  have C' := tab_code X'
  obtain ⟨oC, rfl, hC⟩ := CellsAre.one' Y
  clear F N X T hap C
  simp only [List.cons_append, List.nil_append] at N'
  k_lt l1
  walk_at "steps"
  rename_i sg vs vn h9a tk9a ht9a hi lt hw0 hx0 o d f c oc vsf tq ct dc hA tkA d1 d2 l1A l2A hB xS dxS pxS u1 u2 u3 u4 uw un hC9 tkB htB laS lbS lcS la8S hwB hD hE tkC htC hwC hF FF NF x dx px t1 t2 t3 t4 tw tn hG tkG htG F9 N9 la9 lb9 lc9 la8 hwG
  refine back _ _ _ _ _ F9 N9 (fun F N ap9 ht => ?_)
  refine' ret ⟨x, dx, px, xS, dxS, pxS, sg, f, c, L' + 1, t1, t2, t3, t4, tw, u1, u2, u3, u4, uw, ?u5, un, oc, o, ?rp, ?rb, ?rs, ?qual, dc, ?pm, ct⟩ vs vn tn _ _ ?ok ?ql hi ht F (News.sub N ?sub) ?ap
  case sub => walk_at "sub"
  case ap => exact fun p hp q hq => ap9 p hp q ((by walk_at "sub" : ∀ q ∈ _, q ∈ _) q hq)
  case ql => first | kernel_rfl | rfl
  case ok =>
    clear la9 laS N9 F9 FF NF N F back backN
    exact ⟨⟨rfl, d, ⟨vsf, tq, d1, d2⟩⟩, by (show @LT.lt Nat _ _ _; dsimp only; omega), by (show @LT.lt Nat _ _ _; dsimp only; omega), by (show @LT.lt Nat _ _ _; dsimp only; omega), by (show @Ne Nat _ _; dsimp only; omega), by (show @LT.lt Nat _ _ _; dsimp only; omega), by (show @LT.lt Nat _ _ _; dsimp only; omega), by (show @LT.lt Nat _ _ _; dsimp only; omega), by (show @LT.lt Nat _ _ _; dsimp only; omega), by (show @LT.lt Nat _ _ _; dsimp only; omega)⟩
set_option maxHeartbeats 4000000 in
theorem lexer_more {rest : List (Addr × Obj)} {c0 : Addr} {oc0 : Obj} {vc0 : Array Value} {tq0 : Tok} (F : Fr h₀ L s.heap m) (N : News h₀ L s.heap ([(256, lxTab c0), (c0, oc0)] ++ rest)) (hap : Apart [(256, lxTab c0), (c0, oc0)] rest)
  (X : (KF w.params).In h₀) (T : Top p loose mean mg mb h₀) (r : Room A 8 100) (ht : 0 < s.toks) {l : List Nat} {t : Tok} (hl : ∀ c ∈ l, c < 128) (hz : l.length ≤ 100000) (hd0 : oc0.data = .fields vc0) (hv0 : vc0[1]? = some (.str qualL tq0))
  (ret : ∀ (Z : LX) vs vn tn h' tk', Z.Ok w → Z.qual = qualL → StrsAre vs (chars l) → s.toks ≤ tk' → Fr h₀ L h' m → News h₀ L h' ((lxA w Z 1 tn [] 0 vs vn ++ [(256, lxTab Z.c')]) ++ rest) → Apart (lxA w Z 1 tn [] 0 vs vn ++ [(256, lxTab Z.c')]) rest → Q (.ref Z.x) { s with heap := h', toks := tk' }) :
  wpAny (model prg w) A (call (.ref 261) [.str (S l) t] []) Q E s := by
  have C := tab_code X
  refine' enterC (binds := [("text", .str (S l) t)]) F N hap X T r ht ?k6 ?k7 ?k9 ?kB ?kN ?_ ?c2 ?c3 ?c4
  case k6 => k_is
  case k7 => k_is
  case k9 => exact BindsTo.of_eq rfl
  case kB => intro n x hx; obtain rfl := List.mem_singleton.mp hx; exact .inl rfl
  case kN => decide
  case c2 => rfl
  case c3 => rfl
  case c4 => rfl
  intro g' L' h' tk' cells dp fr gd un Qb F' N' Y X' T' r' l1 ht' htt' back backN
  have C' := tab_code X'
  obtain ⟨oC, rfl, hC⟩ := CellsAre.one' Y
  clear F N X T hap C
  simp only [List.cons_append, List.nil_append] at N'
  k_lt l1
  walk_at "steps"
  rename_i sg vs vn h9a tk9a ht9a hi lt hw0 hx0 o d f ct dc hA tkA l1A hB xS dxS pxS u1 u2 u3 u4 uw un hC9 tkB htB laS lbS lcS la8S hwB hD hE tkC htC hwC hF FF NF x dx px t1 t2 t3 t4 tw tn hG tkG htG F9 N9 la9 lb9 lc9 la8 hwG
  refine back _ _ _ _ _ F9 N9 (fun F N ap9 ht => ?_)
  refine' ret ⟨x, dx, px, xS, dxS, pxS, sg, f, c0, L' + 1, t1, t2, t3, t4, tw, u1, u2, u3, u4, uw, ?u5, un, oc0, o, ?rp, ?rb, ?rs, ?qual, dc, ?pm, ct⟩ vs vn tn _ _ ?ok ?ql hi ht F (News.sub N ?sub) ?ap
  case sub => walk_at "sub"
  case ap => exact fun p hp q hq => ap9 p hp q ((by walk_at "sub" : ∀ q ∈ _, q ∈ _) q hq)
  case ql => first | kernel_rfl | rfl
  case ok =>
    clear la9 laS N9 F9 FF NF N F back backN
    exact ⟨⟨rfl, d, ⟨vc0, tq0, hd0, hv0.trans (by first | kernel_rfl | rfl)⟩⟩, by (show @LT.lt Nat _ _ _; dsimp only; omega), by (show @LT.lt Nat _ _ _; dsimp only; omega), by (show @LT.lt Nat _ _ _; dsimp only; omega), by (show @Ne Nat _ _; dsimp only; omega), by (show @LT.lt Nat _ _ _; dsimp only; omega), by (show @LT.lt Nat _ _ _; dsimp only; omega), by (show @LT.lt Nat _ _ _; dsimp only; omega), by (show @LT.lt Nat _ _ _; dsimp only; omega), by (show @LT.lt Nat _ _ _; dsimp only; omega)⟩
end
section
theorem wTop_TC : True ∧ True := by
  w_top off
  (try (walk1; fail))
  exact ⟨trivial, trivial⟩
/-- the code table of _law_lexer's inner def: before the first call, or behind a call -/
noncomputable def XBok (XB : List (Addr × Obj)) : Prop := XB = [(256, tabObj #[])] ∨ ∃ c0 oc0 vc0 tq0, XB = [(256, lxTab c0), (c0, oc0)] ∧ oc0.data = .fields vc0 ∧ vc0[1]? = some (.str qualL tq0)
theorem lexer_any {XB rest : List (Addr × Obj)} (hx : XBok XB) (F : Fr h₀ L s.heap m) (N : News h₀ L s.heap (XB ++ rest)) (hap : Apart XB rest)
  (X : (KF w.params).In h₀) (T : Top p loose mean mg mb h₀) (r : Room A 8 100) (ht : 0 < s.toks) {l : List Nat} {t : Tok} (hl : ∀ c ∈ l, c < 128) (hz : l.length ≤ 100000)
  (ret : ∀ (Z : LX) vs vn tn h' tk', Z.Ok w → Z.qual = qualL → StrsAre vs (chars l) → s.toks ≤ tk' → Fr h₀ L h' m → News h₀ L h' ((lxA w Z 1 tn [] 0 vs vn ++ [(256, lxTab Z.c')]) ++ rest) → Apart (lxA w Z 1 tn [] 0 vs vn ++ [(256, lxTab Z.c')]) rest → Q (.ref Z.x) { s with heap := h', toks := tk' }) :
  wpAny (model prg w) A (call (.ref 261) [.str (S l) t] []) Q E s := by
  rcases hx with rfl | ⟨c0, oc0, vc0, tq0, rfl, h1, h2⟩
  · exact lexer_first F N hap X T r ht hl hz ret
  · exact lexer_more F N hap X T r ht hl hz h1 h2 ret
theorem XB_next {Z : LX} (ok : Z.Ok w) (hq : Z.qual = qualL) : XBok [(256, lxTab Z.c'), (Z.c', Z.oc)] := by
  obtain ⟨vc, tq, h1, h2⟩ := ok.rd.hc
  exact .inr ⟨Z.c', Z.oc, vc, tq, rfl, h1, by rw [h2, hq]⟩
set_option maxHeartbeats 2000000 in
theorem turn_lexer {f : Addr} {cd : Value} {led XB : List (Addr × Obj)} {oL : Obj} {v₀ : Option Value} {l : List Nat} {ts : Tok} {Qb : Flow → Shared → Prop} (hx : XBok XB) (F : Fr h₀ L s.heap m) (N : News h₀ L s.heap (XB ++ ((L + 3, oL) :: led))) (hap : Apart XB ((L + 3, oL) :: led)) (hcl : ∀ p ∈ led, p.1 ≠ L + 3) (hd3 : oL.data = .cell v₀)
  (X : (KF w.params).In h₀) (T : Top p loose mean mg mb h₀) (r : Room A 15 150) (ht : 0 < s.toks) (h1 : m "sent" = some (.str (S l) ts)) (hl : ∀ c ∈ l, c < 128) (hz : l.length ≤ 100000)
  (ret : ∀ (Z : LX) vs vn tn oL' h' tk', Z.Ok w → Z.qual = qualL → StrsAre vs (chars l) → oL'.data = .cell (some (.ref Z.x)) → Fr h₀ L h' m → News h₀ L h' ((lxA w Z 1 tn [] 0 vs vn ++ [(256, lxTab Z.c')]) ++ ((L + 3, oL') :: led)) → Apart (lxA w Z 1 tn [] 0 vs vn ++ [(256, lxTab Z.c')]) ((L + 3, oL') :: led) → Qb .next { s with heap := h', toks := tk' }) :
  wpAny (model prg w) A (exec (turnS 4) (lawEnv L f cd)) Qb (fun _ _ => False) s := by
  rw [show turnS 4 = Stmt.Assign _ _ _ from rfl]
  unfold lawEnv
  conv in lawScope => (whnf; dsimp only)
  obtain ⟨hA, dp, fr, gd, un⟩ := A
  obtain rfl : hA = none := r.hh
  walk_at "steps"
  have F9 := (by assumption : Fr h₀ L _ _)
  have N9 := (by assumption : News h₀ L _ _)
  refine lexer_any hx F9 N9 hap (by assumption) (by assumption) (Room.less r (by omega) (by omega)) (by (try dsimp only); omega) hl hz (fun Z vs vn tn h2 tk2 ok hq hi ht2 F2 N2 ap2 => ?_)
  refine Wt.intro fun htw => ?_
  refine stCN (c := L + 3) (own := lxA w Z 1 tn [] 0 vs vn ++ [(256, lxTab Z.c')]) (rest := led) F2 N2 (by rfl) hd3 (fun p hp => (ap2 _ (List.Mem.head _) p hp).symm) hcl (fun h3 oL' F3 N3 e3 => ?_)
  refine ret Z vs vn tn oL' h3 _ ok hq hi e3 F3 N3 (fun p hp q hq => ?_)
  rcases List.mem_cons.mp hp with rfl | hp
  · exact ap2 (L + 3, oL) (List.Mem.head _) q hq
  · exact ap2 p (List.mem_cons_of_mem _ hp) q hq
end
section
theorem wTop_TD : True ∧ True := by
  w_top off
  (try (walk1; fail))
  exact ⟨trivial, trivial⟩
noncomputable def toldElt : Expr := match turnS 5 with
  | .Assign _ (.ListComp e _ _ _) _ => e
  | _ => .Name (Str.ofString "") ⟨0, 0, 0, 0⟩
noncomputable def toldScope : Scope := match turnS 5 with
  | .Assign _ (.ListComp _ _ sc _) _ => sc
  | _ => default
/-- what get_token's call in the comprehension comes to -/
theorem told_call {f C : Addr} {cd : Value} {rest : List (Addr × Obj)} {oL : Obj} {Z : LX} {n : Int} {tn : Tok} {pn vn : Nat} {vs : List Value} {Q : Value → Shared → Prop} (F : Fr h₀ L s.heap m) (N : News h₀ L s.heap (lxA w Z n tn [] pn vs vn ++ rest)) (hL : (L + 3, oL) ∈ lxA w Z n tn [] pn vs vn ++ rest) (hd3 : oL.data = .cell (some (.ref Z.x)))
  (X : (KF w.params).In h₀) (T : Top p loose mean mg mb h₀) (r : Room A 15 150)
  (h : wpAny (model prg w) A (call (.ref 73) [.ref Z.x] []) Q E s) : wpAny (model prg w) A (eval toldElt (compEnvC toldScope [(Str.ofString "lexer", L + 3)] C (lawEnv L f cd))) Q E s := by
  rw [show toldElt = Expr.Call _ _ _ _ from rfl]
  unfold lawEnv
  conv in lawScope => (whnf; dsimp only)
  conv in toldScope => (whnf; dsimp only)
  dsimp only [lxA, lxE, lxY, List.cons_append, List.nil_append] at N hL
  obtain ⟨hA, dp, fr, gd, un⟩ := A
  obtain rfl : hA = none := r.hh
  walk_at "steps"
  exact wpAny_mono h (fun _ _ q _ => q) fun _ _ e => e
theorem lxA_addr {w : World} {Z : LX} {n n' : Int} {tn tn' : Tok} {ps ps' : List Value} {pn pn' vn vn' : Nat} {vs vs' : List Value} : ∀ p ∈ lxA w Z n tn ps pn vs vn, ∃ q ∈ lxA w Z n' tn' ps' pn' vs' vn', q.1 = p.1 := by
  intro p hp
  simp only [List.mem_cons, List.not_mem_nil, or_false] at hp
  rcases hp with rfl | rfl | rfl | rfl | rfl | rfl | rfl | rfl | rfl
  · exact ⟨_, .head _, rfl⟩
  · exact ⟨_, .tail _ (.head _), rfl⟩
  · exact ⟨_, .tail _ (.tail _ (.head _)), rfl⟩
  · exact ⟨_, .tail _ (.tail _ (.tail _ (.head _))), rfl⟩
  · exact ⟨_, .tail _ (.tail _ (.tail _ (.tail _ (.head _)))), rfl⟩
  · exact ⟨_, .tail _ (.tail _ (.tail _ (.tail _ (.tail _ (.head _))))), rfl⟩
  · exact ⟨_, .tail _ (.tail _ (.tail _ (.tail _ (.tail _ (.tail _ (.head _)))))), rfl⟩
  · exact ⟨_, .tail _ (.tail _ (.tail _ (.tail _ (.tail _ (.tail _ (.tail _ (.head _))))))), rfl⟩
  · exact ⟨_, .tail _ (.tail _ (.tail _ (.tail _ (.tail _ (.tail _ (.tail _ (.tail _ (.head _)))))))), rfl⟩
theorem elt_in {h₀ h : Heap} {L : Addr} {p q r : Addr × Obj} {a b : List (Addr × Obj)} (N : News h₀ L h (p :: q :: r :: (a ++ b))) : News h₀ L h (a ++ (p :: q :: r :: b)) := News.sub N (by (try simp only [List.cons_append, List.nil_append]); walk_at "subs")
theorem elt_out {h₀ h : Heap} {L : Addr} {p q r : Addr × Obj} {a b : List (Addr × Obj)} : ∀ z ∈ p :: q :: r :: (a ++ b), z ∈ a ++ (p :: q :: r :: b) := by
  (try simp only [List.cons_append, List.nil_append])
  walk_at "subs"
theorem elt_apart {I C D : Addr} {oI oC oD : Obj} {a b : List (Addr × Obj)} (off : LCg.Off3 I C D (a ++ b)) (hap : Apart a b) : Apart a ((I, oI) :: (C, oC) :: (D, oD) :: b) := by
  have o := off.mem
  intro p hp q hq
  rcases List.mem_cons.mp hp with rfl | hp
  · exact (o q (List.mem_append_left _ hq)).1.symm
  rcases List.mem_cons.mp hp with rfl | hp
  · exact (o q (List.mem_append_left _ hq)).2.1.symm
  rcases List.mem_cons.mp hp with rfl | hp
  · exact (o q (List.mem_append_left _ hq)).2.2.symm
  · exact hap p hp q hq
theorem elt_off {w : World} {I C D : Addr} {Z : LX} {n n' : Int} {tn tn' : Tok} {ps ps' : List Value} {pn pn' vn vn' : Nat} {vs vs' : List Value} {b : List (Addr × Obj)} (off : LCg.Off3 I C D (lxA w Z n tn ps pn vs vn ++ b)) : LCg.Off3 I C D (lxA w Z n' tn' ps' pn' vs' vn' ++ b) := by
  have o := off.mem
  refine LCg.Off3.of fun p hp => ?_
  rcases List.mem_append.mp hp with hp | hp
  · obtain ⟨q, hq, e⟩ := lxA_addr (n' := n) (tn' := tn) (ps' := ps) (pn' := pn) (vn' := vn) (vs' := vs) p hp
    have := o q (List.mem_append_left _ hq)
    rw [e] at this
    exact this
  · exact o p (List.mem_append_right _ hp)
theorem told_elt {f I C D : Addr} {cd : Value} {oI oC : Obj} {ys : List Value} {more : List (Addr × Obj)} {oL : Obj} {Z : LX} {n : Int} {tn : Tok} {pn vn : Nat} {vs : List Value} {E : Value → Shared → Prop} {rest : Value → List (Addr × Obj) → Prop} (F : Fr h₀ L s.heap m) (N : News h₀ L s.heap ((I, oI) :: (C, oC) :: (D, LCg.lst ys) :: (lxA w Z n tn [] pn vs vn ++ more))) (off : LCg.Off3 I C D (lxA w Z n tn [] pn vs vn ++ more)) (hap : Apart (lxA w Z n tn [] pn vs vn) more) (hL : (L + 3, oL) ∈ more) (hd3 : oL.data = .cell (some (.ref Z.x)))
  (X : (KF w.params).In h₀) (T : Top p loose mean mg mb h₀) (r : Room A 15 150) (ok : Z.Ok w) {l tok l' : List Nat} (hi : StrsAre vs (chars l)) (hl : ∀ c ∈ l, c < 128) (hz : l.length ≤ 100000) (htk : tokA l = some (tok, l'))
  (ret : ∀ t vs' vn' n' tn', n' + nl l' = n + nl l → StrsAre vs' (chars l') → rest (.str (S tok) t) (lxA w Z n' tn' [] pn vs' vn' ++ more)) :
  wpAny (model prg w) A (eval toldElt (compEnvC toldScope [(Str.ofString "lexer", L + 3)] C (lawEnv L f cd))) (LCg.CompEnd h₀ L m s I oI C oC D (LCg.lst ys) (fun _ => True) rest) E s := by
  have N2 := elt_in N
  refine told_call (oL := oL) F N2 (by simp [hL]) hd3 X T r ?_
  refine token_spec F N2 (elt_apart off hap) X T (Room.less r (by omega) (by omega)) (Nat.zero_le _) ok hi hl hz htk (fun t vs' vn' n' tn' h' tk' hn hi' ht' F' N' => ?_)
  exact LCg.CompEnd.intro F' N' _ (elt_out (h₀ := h₀) (h := h') (L := L)) (elt_off off) trivial (ret t vs' vn' n' tn' hn hi')
theorem told_last {f I C D : Addr} {cd : Value} {oI oC : Obj} {ys : List Value} {more : List (Addr × Obj)} {oL : Obj} {Z : LX} {n : Int} {tn : Tok} {pn vn : Nat} {vs : List Value} {E : Value → Shared → Prop} {rest : Value → List (Addr × Obj) → Prop} (F : Fr h₀ L s.heap m) (N : News h₀ L s.heap ((I, oI) :: (C, oC) :: (D, LCg.lst ys) :: (lxA w Z n tn [] pn vs vn ++ more))) (off : LCg.Off3 I C D (lxA w Z n tn [] pn vs vn ++ more)) (hap : Apart (lxA w Z n tn [] pn vs vn) more) (hL : (L + 3, oL) ∈ more) (hd3 : oL.data = .cell (some (.ref Z.x)))
  (X : (KF w.params).In h₀) (T : Top p loose mean mg mb h₀) (r : Room A 15 150) (ok : Z.Ok w) {l : List Nat} (hi : StrsAre vs (chars l)) (hl : ∀ c ∈ l, c < 128) (hz : l.length ≤ 100000) (hws : ∀ c ∈ l, ws c)
  (ret : ∀ t vs' vn' n' tn', n' = n + nl l → rest (.str (S []) t) (lxA w Z n' tn' [] pn vs' vn' ++ more)) :
  wpAny (model prg w) A (eval toldElt (compEnvC toldScope [(Str.ofString "lexer", L + 3)] C (lawEnv L f cd))) (LCg.CompEnd h₀ L m s I oI C oC D (LCg.lst ys) (fun _ => True) rest) E s := by
  have N2 := elt_in N
  refine told_call (oL := oL) F N2 (by simp [hL]) hd3 X T r ?_
  refine token_end F N2 (elt_apart off hap) X T (Room.less r (by omega) (by omega)) (Nat.zero_le _) ok hi hl hz hws (fun t vs' vn' n' tn' h' tk' hn hi' ht' F' N' => ?_)
  exact LCg.CompEnd.intro F' N' _ (elt_out (h₀ := h₀) (h := h') (L := L)) (elt_off off) trivial (ret t vs' vn' n' tn' hn)
end
section
theorem wTop_TE : True ∧ True := by
  w_top off
  (try (walk1; fail))
  exact ⟨trivial, trivial⟩
theorem tokB_sub : ∀ (k : Nat) (l t tk l' : List Nat), l.length ≤ k → tokB t l = some (tk, l') → (∀ c ∈ l', c ∈ l) ∧ l'.length ≤ l.length
  | _, [], _, _, _, _, h => by simp [tokB] at h
  | 0, _ :: _, _, _, _, hk, _ => by simp at hk
  | k + 1, a :: l, t, tk, l', hk, h => by
    have hk' : l.length ≤ k := by simpa using hk
    by_cases h1 : ws a
    · rw [tokB_ws h1] at h
      cases h
      exact ⟨fun c hc => List.mem_cons_of_mem _ hc, by simp⟩
    · by_cases h2 : a = 92
      · subst h2
        cases l with
        | nil => rw [tokB_nil] at h; cases h
        | cons b l =>
          rw [tokB_esc] at h
          have ih := tokB_sub k l _ _ _ (by simp at hk'; omega) h
          exact ⟨fun c hc => List.mem_cons_of_mem _ (List.mem_cons_of_mem _ (ih.1 c hc)), by have := ih.2; simp; omega⟩
      · rw [tokB_go h1 h2] at h
        have ih := tokB_sub k l _ _ _ hk' h
        exact ⟨fun c hc => List.mem_cons_of_mem _ (ih.1 c hc), by have := ih.2; simp; omega⟩
theorem tokA_sub : ∀ (l tk l' : List Nat), tokA l = some (tk, l') → (∀ c ∈ l', c ∈ l) ∧ l'.length ≤ l.length
  | [], _, _, h => by simp [tokA] at h
  | a :: l, tk, l', h => by
    rcases tokA_first h with h1 | h1
    · rw [tokA_ws h1] at h
      have ih := tokA_sub l _ _ h
      exact ⟨fun c hc => List.mem_cons_of_mem _ (ih.1 c hc), by have := ih.2; simp; omega⟩
    · by_cases h2 : ws a
      · rw [tokA_ws h2] at h
        have ih := tokA_sub l _ _ h
        exact ⟨fun c hc => List.mem_cons_of_mem _ (ih.1 c hc), by have := ih.2; simp; omega⟩
      · rw [tokA_go h2 h1] at h
        have ih := tokB_sub _ l _ _ _ (Nat.le_refl _) h
        exact ⟨fun c hc => List.mem_cons_of_mem _ (ih.1 c hc), by have := ih.2; simp; omega⟩
theorem apart_lxA {Z : LX} {n n' : Int} {tn tn' : Tok} {ps ps' : List Value} {pn pn' vn vn' : Nat} {vs vs' : List Value} {more : List (Addr × Obj)} (h : Apart (lxA w Z n tn ps pn vs vn) more) : Apart (lxA w Z n' tn' ps' pn' vs' vn') more := fun p hp q hq => by
  obtain ⟨q', hq', e⟩ := lxA_addr (n' := n) (tn' := tn) (ps' := ps) (pn' := pn) (vn' := vn) (vs' := vs) q hq
  rw [← e]; exact h p hp q' hq'
theorem off1_mem {D : Addr} : ∀ {l : List (Addr × Obj)}, LCg.Off1 D l → ∀ p ∈ l, p.1 ≠ D
  | [], _, _, h => nomatch h
  | _ :: _, x, p, h => by
    rcases List.mem_cons.mp h with rfl | h
    · exact x.1
    · exact off1_mem x.2 p h
/-- what range(8) comes to -/
noncomputable def RangeR (h₀ : Heap) (L : Addr) (m : Str → Option Value) (news : List (Addr × Obj)) (s : Shared) (b : Int) (v : Value) (s' : Shared) : Prop :=
  ∃ r t u q h' k, v = .ref r ∧ s' = { s with heap := h', toks := k } ∧ IsRange h' r 0 b 1 t u q ∧ Fr h₀ L h' m ∧ News h₀ L h' news
set_option maxHeartbeats 2000000 in
theorem turn_told {f : Addr} {cd : Value} {more : List (Addr × Obj)} {oL : Obj} {Z : LX} {tn : Tok} {vn : Nat} {vs : List Value} {na wa nb wb : List Nat} {Qb : Flow → Shared → Prop} (F : Fr h₀ L s.heap m) (N : News h₀ L s.heap (lxA w Z 1 tn [] 0 vs vn ++ more)) (hap : Apart (lxA w Z 1 tn [] 0 vs vn) more) (hL : (L + 3, oL) ∈ more) (hd3 : oL.data = .cell (some (.ref Z.x)))
  (X : (KF w.params).In h₀) (T : Top p loose mean mg mb h₀) (r : Room A 15 150) (ok : Z.Ok w) (hi : StrsAre vs (chars (sentL na (valL wa) nb (valL wb)))) (hz : (sentL na (valL wa) nb (valL wb)).length ≤ 100000)
  (g1 : GoodName na) (g2 : GoodName nb) (o1 : ∀ c ∈ na, Mine.ok c) (o2 : ∀ c ∈ wa, Mine.ok c) (o3 : ∀ c ∈ nb, Mine.ok c) (o4 : ∀ c ∈ wb, Mine.ok c) (w1 : ∀ c ∈ wa, ¬ ws c) (w2 : ∀ c ∈ wb, ¬ ws c)
  (ret : ∀ D k1 k2 k3 k4 k5 k6 k7 k8 tn' vs' vn' h' tk', Fr h₀ L h' (fun z => if z = "told" then some (.ref D) else m z) →
    News h₀ L h' ((D, LCg.lst [.str (S (dn na ++ [58])) k1, .str (S [120, 59]) k2, .str (S (nowT wa)) k3, .str (S (dn nb ++ [58])) k4, .str (S [120, 59]) k5, .str (S (nowT wb)) k6, .str (S [46, 46]) k7, .str (S []) k8]) :: (lxA w Z 5 tn' [] 0 vs' vn' ++ more)) → (∀ p ∈ lxA w Z 5 tn' [] 0 vs' vn' ++ more, p.1 ≠ D) → Qb .next { s with heap := h', toks := tk' }) :
  wpAny (model prg w) A (exec (turnS 5) (lawEnv L f cd)) Qb (fun _ _ => False) s := by
  rw [show turnS 5 = Stmt.Assign _ _ _ from rfl]
  unfold lawEnv
  conv in lawScope => (whnf; dsimp only)
  obtain ⟨hA, dp, fr, gd, un⟩ := A
  obtain rfl : hA = none := r.hh
  refine LCg.Assign_ListComp_U (cl := [(Str.ofString "lexer", L + 3)]) F (by rfl) (by rfl) (by rfl) (by decide) (by rfl) (by decide) (by rfl) (by rfl) (by rfl) ?_
  refine wp_cut (RangeR h₀ L m (lxA w Z 1 tn [] 0 vs vn ++ more) s 8) ?_ ?_
  · walk_at "steps"
    exact ⟨_, _, _, _, _, _, rfl, rfl, by assumption, by assumption, by assumption⟩
  · rintro _ _ ⟨r9, t9, u9, q9, h9, k9, rfl, rfl, hr9, F9, N9⟩
    have hl := sent_ascii (na := na) (wa := wa) (nb := nb) (wb := wb) o1 o2 o3 o4
    have hnl := nl_sent (na := na) (wa := wa) (nb := nb) (wb := wb) o1 o2 o3 o4
    rw [sentL_eq] at hl hnl hi hz
    have k1 := tk_name (na := na) (wd := wa) (r := dotL (rowT nb wb) ++ rowT nb wb ++ [13, 10] ++ [13, 10, 46, 46, 13, 10]) g1
    generalize dotL (rowT na wa) ++ rowT na wa ++ [13, 10] ++ (dotL (rowT nb wb) ++ rowT nb wb ++ [13, 10] ++ [13, 10, 46, 46, 13, 10]) = l0 at *
    have s1 := tokA_sub _ _ _ k1
    have k2 := tk_x (r := fmt [110, 45, 111, 45, 119] wa ++ 13 :: 10 :: (dotL (rowT nb wb) ++ rowT nb wb ++ [13, 10] ++ [13, 10, 46, 46, 13, 10]))
    have s2 := tokA_sub _ _ _ k2
    have k3 := tk_now (r := 10 :: (dotL (rowT nb wb) ++ rowT nb wb ++ [13, 10] ++ [13, 10, 46, 46, 13, 10])) w1
    have s3 := tokA_sub _ _ _ k3
    have k4 := tk_skip (tk_name (na := nb) (wd := wb) (r := [13, 10, 46, 46, 13, 10]) g2)
    have s4 := tokA_sub _ _ _ k4
    have k5 := tk_x (r := fmt [110, 45, 111, 45, 119] wb ++ 13 :: 10 :: [13, 10, 46, 46, 13, 10])
    have s5 := tokA_sub _ _ _ k5
    have k6 := tk_now (r := 10 :: [13, 10, 46, 46, 13, 10]) w2
    have s6 := tokA_sub _ _ _ k6
    have k7 := tk_dots
    refine LCg.CompSrc.range (n := 8) rfl F9 N9 hr9 (by decide) (by decide) (by decide +kernel) ?_
    intro g
    generalize 120 :: 59 :: 32 :: (fmt [110, 45, 111, 45, 119] wa ++ 13 :: 10 :: (dotL (rowT nb wb) ++ rowT nb wb ++ [13, 10] ++ [13, 10, 46, 46, 13, 10])) = l1 at *
    generalize fmt [110, 45, 111, 45, 119] wa ++ 13 :: 10 :: (dotL (rowT nb wb) ++ rowT nb wb ++ [13, 10] ++ [13, 10, 46, 46, 13, 10]) = l2 at *
    generalize 10 :: (dotL (rowT nb wb) ++ rowT nb wb ++ [13, 10] ++ [13, 10, 46, 46, 13, 10]) = l3 at *
    generalize 120 :: 59 :: 32 :: (fmt [110, 45, 111, 45, 119] wb ++ 13 :: 10 :: [13, 10, 46, 46, 13, 10]) = l4 at *
    generalize fmt [110, 45, 111, 45, 119] wb ++ 13 :: 10 :: [13, 10, 46, 46, 13, 10] = l5 at *
    have hl1 : ∀ c ∈ l1, c < 128 := fun c hc => hl c (s1.1 c hc)
    have hl2 : ∀ c ∈ l2, c < 128 := fun c hc => hl1 c (s2.1 c hc)
    have hl3 : ∀ c ∈ l3, c < 128 := fun c hc => hl2 c (s3.1 c hc)
    have hl4 : ∀ c ∈ l4, c < 128 := fun c hc => hl3 c (s4.1 c hc)
    have hl5 : ∀ c ∈ l5, c < 128 := fun c hc => hl4 c (s5.1 c hc)
    have z1 := s1.2
    have z2 := s2.2
    have z3 := s3.2
    have z4 := s4.2
    have z5 := s5.2
    refine LCg.CompRest.succ ?_
    intro v1 I1 oI1 C1 oC1 D1 m1 h1 tk1 E1 hP1 hC1 hx1 F1 N1 off1 ne1
    refine told_elt F1 N1 off1 hap hL hd3 X T r ok hi hl hz k1 (fun t1 vs1 vn1 n1 tn1 hn1 hi1 => ?_)
    refine LCg.CompRest.succ ?_
    intro v2 I2 oI2 C2 oC2 D2 m2 h2 tk2 E2 hP2 hC2 hx2 F2 N2 off2 ne2
    refine told_elt F2 N2 off2 (apart_lxA hap) hL hd3 X T r ok hi1 hl1 (by omega) k2 (fun t2 vs2 vn2 n2 tn2 hn2 hi2 => ?_)
    refine LCg.CompRest.succ ?_
    intro v3 I3 oI3 C3 oC3 D3 m3 h3 tk3 E3 hP3 hC3 hx3 F3 N3 off3 ne3
    refine told_elt F3 N3 off3 (apart_lxA hap) hL hd3 X T r ok hi2 hl2 (by omega) k3 (fun t3 vs3 vn3 n3 tn3 hn3 hi3 => ?_)
    refine LCg.CompRest.succ ?_
    intro v4 I4 oI4 C4 oC4 D4 m4 h4 tk4 E4 hP4 hC4 hx4 F4 N4 off4 ne4
    refine told_elt F4 N4 off4 (apart_lxA hap) hL hd3 X T r ok hi3 hl3 (by omega) k4 (fun t4 vs4 vn4 n4 tn4 hn4 hi4 => ?_)
    refine LCg.CompRest.succ ?_
    intro v5 I5 oI5 C5 oC5 D5 m5 h5 tk5 E5 hP5 hC5 hx5 F5 N5 off5 ne5
    refine told_elt F5 N5 off5 (apart_lxA hap) hL hd3 X T r ok hi4 hl4 (by omega) k5 (fun t5 vs5 vn5 n5 tn5 hn5 hi5 => ?_)
    refine LCg.CompRest.succ ?_
    intro v6 I6 oI6 C6 oC6 D6 m6 h6 tk6 E6 hP6 hC6 hx6 F6 N6 off6 ne6
    refine told_elt F6 N6 off6 (apart_lxA hap) hL hd3 X T r ok hi5 hl5 (by omega) k6 (fun t6 vs6 vn6 n6 tn6 hn6 hi6 => ?_)
    refine LCg.CompRest.succ ?_
    intro v7 I7 oI7 C7 oC7 D7 m7 h7 tk7 E7 hP7 hC7 hx7 F7 N7 off7 ne7
    refine told_elt F7 N7 off7 (apart_lxA hap) hL hd3 X T r ok hi6 (by decide) (by decide) k7 (fun t7 vs7 vn7 n7 tn7 hn7 hi7 => ?_)
    refine LCg.CompRest.succ ?_
    intro v8 I8 oI8 C8 oC8 D8 m8 h8 tk8 E8 hP8 hC8 hx8 F8 N8 off8 ne8
    refine told_last F8 N8 off8 (apart_lxA hap) hL hd3 X T r ok hi7 (by decide) (by decide) (by decide) (fun t8 vs8 vn8 n8 tn8 hn8 => ?_)
    refine LCg.CompRest.zero ?_
    intro D h' tk' F' N' o1'
    have e8 : n8 = 5 := by
      have : nl [10] = 1 := rfl
      omega
    rw [e8] at N' o1'
    refine ret D t1 t2 t3 t4 t5 t6 t7 t8 tn8 vs8 vn8 h' tk' F' N' ?_
    have := off1_mem o1'
    exact this
end
section
theorem wTop_TF : True ∧ True := by
  w_top off
  (try (walk1; fail))
  exact ⟨trivial, trivial⟩
theorem ne_dots {prog : Program} {w : World} {A : Around} {E Q : Value → Shared → Prop} {s : Shared} {a b : Addr} {t u t' u' : Tok} (ha : s.heap.IsList a #[.str (S [46, 46]) t, .str (S []) u]) (hb : s.heap.IsList b #[.str (Str.ofString "..") t', .str (Str.ofString "") u']) (hu : A.units + 64 < cLine) (h : Q (.bool false) s) :
    wpAny (model prog w) A (compareOp .NotEq (.ref a) (.ref b)) Q E s := by
  rw [lit_dots, lit_nil] at hb
  have hi : ∀ t u, StrsAre [.str (S [46, 46]) t, .str (S []) u] [S [46, 46], S []] := fun t u => .cons _ _ (.cons _ _ .nil)
  have hs : ∀ y ∈ [S [46, 46], S []], PyData.strOk y = true := by decide +kernel
  refine ne_dataH (reads_newData ha (strs_carried (hi t u))) (reads_newData hb (strs_carried (hi t' u'))) (shaped_strs hs) (shaped_strs hs) hu ?_
  rw [show (!PyData.eqv (.list ([S [46, 46], S []].map PyData.str)) (.list ([S [46, 46], S []].map PyData.str))) = false by decide +kernel]
  exact h
local macro_rules | `(tactic| walk_at "compareOp NotEq ref ref") => `(tactic| ((have hr9 := Room.hu ‹_›); refine ne_dots (by is_list) (by is_list) (by dsimp only at hr9 ⊢; omega) ?_))
set_option maxHeartbeats 2000000 in
theorem turn_check {f : Addr} {cd : Value} {led : List (Addr × Obj)} {oL : Obj} {D x dx y px : Addr} {t1 t2 t3 t4 tw tn k1 k2 k3 k4 k5 k6 k7 k8 : Tok} {s1 s2 s3 s4 s5 s6 : List Nat} {rest : List Stmt} {Qb : Flow → Shared → Prop} (F : Fr h₀ L s.heap m) (N : News h₀ L s.heap ((D, LCg.lst [.str (S s1) k1, .str (S s2) k2, .str (S s3) k3, .str (S s4) k4, .str (S s5) k5, .str (S s6) k6, .str (S [46, 46]) k7, .str (S []) k8]) :: (L + 3, oL) :: (x, instObj 83 dx) :: (dx, dictOf (lxE w t1 t2 t3 t4 tw 5 tn (.ref y) px) 4) :: led))
  (X : (KF w.params).In h₀) (T : Top p loose mean mg mb h₀) (r : Room A 15 150) (ht : 0 < s.toks) (h1 : m "told" = some (.ref D)) (hd3 : oL.data = .cell (some (.ref x)))
  (ret : ∀ h' tk', s.toks ≤ tk' → Fr h₀ L h' m → News h₀ L h' ((D, LCg.lst [.str (S s1) k1, .str (S s2) k2, .str (S s3) k3, .str (S s4) k4, .str (S s5) k5, .str (S s6) k6, .str (S [46, 46]) k7, .str (S []) k8]) :: (L + 3, oL) :: (x, instObj 83 dx) :: (dx, dictOf (lxE w t1 t2 t3 t4 tw 5 tn (.ref y) px) 4) :: led) → wpAny (model prg w) A (execs rest (lawEnv L f cd)) Qb (fun _ _ => False) { s with heap := h', toks := tk' }) :
  wpAny (model prg w) A (execs (turnS 6 :: rest) (lawEnv L f cd)) Qb (fun _ _ => False) s := by
  rw [show turnS 6 = Stmt.If _ _ _ _ from rfl]
  unfold lawEnv at ret ⊢
  conv in lawScope => (whnf; dsimp only)
  obtain ⟨hA, dp, fr, gd, un⟩ := A
  obtain rfl : hA = none := r.hh
  walk_at "steps"
  refine' ret _ _ ?t1 ?F ?N
  case F => assumption
  case N => exact News.sub (by assumption) (by walk_at "sub")
  case t1 => (try dsimp only); omega
end
section
theorem wTop_TL : True ∧ True := by
  w_top off
  (try (walk1; fail))
  exact ⟨trivial, trivial⟩
theorem apart_app {a b c : List (Addr × Obj)} : Apart a (b ++ c) ↔ Apart a b ∧ Apart a c :=
  ⟨fun h => ⟨fun p hp => h p (List.mem_append_left _ hp), fun p hp => h p (List.mem_append_right _ hp)⟩, fun h p hp => (List.mem_append.mp hp).elim (h.1 p) (h.2 p)⟩
theorem apart_kons {a c : List (Addr × Obj)} {p : Addr × Obj} : Apart a (p :: c) ↔ (∀ q ∈ a, p.1 ≠ q.1) ∧ Apart a c :=
  ⟨fun h => ⟨h p (.head _), fun q hq => h q (.tail _ hq)⟩, fun h q hq => (List.mem_cons.mp hq).elim (fun e => e ▸ h.1) (h.2 q)⟩
theorem app_apart {a b c : List (Addr × Obj)} : Apart (a ++ b) c ↔ Apart a c ∧ Apart b c :=
  ⟨fun h => ⟨fun p hp q hq => h p hp q (List.mem_append_left _ hq), fun p hp q hq => h p hp q (List.mem_append_right _ hq)⟩, fun h p hp q hq => (List.mem_append.mp hq).elim (h.1 p hp q) (h.2 p hp q)⟩
theorem Apart.symm {a b : List (Addr × Obj)} (h : Apart a b) : Apart b a := fun p hp q hq => (h q hq p hp).symm
theorem cons_apart {a c : List (Addr × Obj)} {p : Addr × Obj} : Apart (p :: a) c ↔ (∀ q ∈ c, q.1 ≠ p.1) ∧ Apart a c :=
  ⟨fun h => ⟨fun q hq => h q hq p (.head _), fun q hq r hr => h q hq r (.tail _ hr)⟩, fun h q hq r hr => (List.mem_cons.mp hr).elim (fun e => e ▸ h.1 q hq) (h.2 q hq r)⟩
theorem lx_tab {h₀ h : Heap} {L : Addr} {w : World} {Z : LX} {n : Int} {tn : Tok} {ps vs : List Value} {pn vn : Nat} {G : List (Addr × Obj)} (ok : Z.Ok w) (N : News h₀ L h G) (hs : ∀ p ∈ lxA w Z n tn ps pn vs vn, p ∈ G) (ht : (256, lxTab Z.c') ∈ G) : Apart (lxA w Z n tn ps pn vs vn) [(256, lxTab Z.c')] := by
  obtain ⟨vc, tq, hd, hv⟩ := ok.rd.hc
  intro p hp q hq
  obtain rfl := List.mem_singleton.mp hp
  refine news_ne N ht (hs q hq) (fun e => ?_)
  have e2 : (lxTab Z.c').data = q.2.data := congrArg Obj.data e
  simp only [List.mem_cons, List.not_mem_nil, or_false] at hq
  rcases hq with rfl | rfl | rfl | rfl | rfl | rfl | rfl | rfl | rfl
  all_goals (try (cases e2; done))
  · have e3 : (lxTab Z.c').data = Z.oc.data := e2
    rw [hd] at e3
    have e4 := Data.fields.inj e3
    rw [← e4] at hv
    cases hv
  · have e3 : (lxTab Z.c').data = Z.oC.data := e2
    rw [ok.rd.hC] at e3
    cases e3
theorem Agree.trans {xs ys : List Str} {m m' m'' : Str → Option Value} (h : Agree xs m m') (h' : Agree ys m' m'') : Agree (xs ++ ys) m m'' := fun x hx =>
  (h' x (fun q => hx (List.mem_append_right _ q))).trans (h x (fun q => hx (List.mem_append_left _ q)))
theorem sent_len {na wa nb wb : List Nat} (b1 : na.length ≤ 100) (b2 : wa.length ≤ 20) (b3 : nb.length ≤ 100) (b4 : wb.length ≤ 20) : (sentL na (valL wa) nb (valL wb)).length ≤ 100000 := by
  have h1 := fmt_len [110, 45, 111, 45, 119] wa
  have h2 := fmt_len [110, 45, 111, 45, 119] wb
  have h3 := dotL_len (na ++ [58, 32] ++ valL wa)
  have h4 := dotL_len (nb ++ [58, 32] ++ valL wb)
  simp only [List.length_cons, List.length_nil] at h1 h2
  simp only [sentL, List.length_append, List.length_cons, List.length_nil]
  omega
set_option maxHeartbeats 2000000 in
theorem turn_front {f : Addr} {cd : Value} {R XB : List (Addr × Obj)} {oL : Obj} {v₀ : Option Value} {x dx hl ta tb a : Addr} {c0 c1 c2 c3 : Int} {u0 u1 u2 u3 tt tm : Tok} {nc i : Nat} {t0 t1 t2 t3 t4 : Tok} {n : Nat} {na wa nb wb : List Nat} {rest : List Stmt} {Qb : Flow → Shared → Prop}
  (hx : XBok XB) (F : Fr h₀ L s.heap m) (N : News h₀ L s.heap (headLed w x dx hl ta tb t0 n na (valL wa) nb (valL wb) t1 t2 t3 t4 ++ (XB ++ ((L + 3, oL) :: R))))
  (apH : Apart (headLed w x dx hl ta tb t0 n na (valL wa) nb (valL wb) t1 t2 t3 t4) (XB ++ ((L + 3, oL) :: R))) (apX : Apart XB ((L + 3, oL) :: R)) (hcl : ∀ p ∈ R, p.1 ≠ L + 3) (hd3 : oL.data = .cell v₀) (hca : (a, lst [.int c0 u0, .int c1 u1, .int c2 u2, .int c3 u3] nc) ∈ R)
  (X : (KF w.params).In h₀) (T : Top p loose mean mg mb h₀) (r : Room A 15 150) (ht : 0 < s.toks) (h1 : m "cells" = some (.ref a)) (h2 : m "turn" = some (.int (i : Int) tt)) (hi : i < 9) (h3 : m "head" = some (.ref x))
  (o1 : ∀ c ∈ na, ok c) (o2 : ∀ c ∈ wa, ok c) (o3 : ∀ c ∈ nb, ok c) (o4 : ∀ c ∈ wb, ok c) (b1 : na.length ≤ 100) (b2 : wa.length ≤ 20) (b3 : nb.length ≤ 100) (b4 : wb.length ≤ 20)
  (g1 : GoodName na) (g2 : GoodName nb) (w1 : ∀ c ∈ wa, ¬ ws c) (w2 : ∀ c ∈ wb, ¬ ws c)
  (ret : ∀ D k1 k2 k3 k4 k5 k6 k7 k8 XB' oL' vv h' tk' m', s.toks ≤ tk' → Agree ["end", "text", "sent", "told"] m m' → m' "told" = some (.ref D) → XBok XB' → oL'.data = .cell vv → Fr h₀ L h' m' →
    News h₀ L h' ((D, LCg.lst [.str (S (dn na ++ [58])) k1, .str (S [120, 59]) k2, .str (S (nowT wa)) k3, .str (S (dn nb ++ [58])) k4, .str (S [120, 59]) k5, .str (S (nowT wb)) k6, .str (S [46, 46]) k7, .str (S []) k8]) :: (XB' ++ ((L + 3, oL') :: R))) → Apart XB' ((L + 3, oL') :: R) →
    wpAny (model prg w) A (execs rest (lawEnv L f cd)) Qb (fun _ _ => False) { s with heap := h', toks := tk' }) :
  wpAny (model prg w) A (execs (turnS 0 :: turnS 1 :: turnS 2 :: turnS 3 :: turnS 4 :: turnS 5 :: turnS 6 :: rest) (lawEnv L f cd)) Qb (fun _ _ => False) s := by
  -- 0
  refine wpAny_execs_cons (withT ?_)
  refine turn_end (rest := []) (c0 := c0) (c1 := c1) (c2 := c2) (c3 := c3) (t0 := u0) (t1 := u1) (t2 := u2) (t3 := u3) (n := nc) (led := headLed w x dx hl ta tb t0 n na (valL wa) nb (valL wb) t1 t2 t3 t4 ++ (XB ++ ((L + 3, oL) :: R))) F (News.sub N ?s0) X T (Room.less r (by omega) (by omega)) ht h1 h2 hi (fun e te hA tkA mA he hte0 hte1 agA hmA FA NA => ?_)
  case s0 =>
    intro q hq
    rcases List.mem_cons.mp hq with rfl | hq
    · exact List.mem_append_right _ (List.mem_append_right _ (List.mem_cons_of_mem _ hca))
    · exact hq
  refine Wt.intro fun ht0 => ?_
  dsimp only at ht0 ⊢
  -- 1 2 3
  refine turn_sent (s := { s with heap := hA, toks := tkA }) FA (News.sub NA (fun q hq => List.mem_cons_of_mem _ hq)) apH X T r (Nat.lt_of_lt_of_le ht ht0) (agA.get h3) hmA he hte0 hte1 o1 o2 o3 o4 b1 b2 b3 b4 (fun ts hB tkB mB htB agB hmB FB NB => ?_)
  dsimp only at htB
  -- 4
  refine wpAny_execs_cons (withT ?_)
  refine turn_lexer (s := { s with heap := hB, toks := tkB }) (led := R) hx FB (News.sub NB (fun q hq => List.mem_append_right _ hq)) apX hcl hd3 X T r (by show 0 < tkB; omega) hmB (sent_ascii o1 o2 o3 o4) (sent_len b1 b2 b3 b4) (fun Z vs vn tn oL' hC tkC zok zq hvs hoL' FC NC apC => ?_)
  refine Wt.intro fun htC => ?_
  dsimp only at htC ⊢
  have apZ := (app_apart.mp apC).1
  have apT : Apart (lxA w Z 1 tn [] 0 vs vn) [(256, lxTab Z.c')] := lx_tab zok NC (fun q hq => List.mem_append_left _ (List.mem_append_left _ hq)) (List.mem_append_left _ (List.mem_append_right _ (.head _)))
  -- 5
  refine wpAny_execs_cons (withT ?_)
  refine turn_told (s := { s with heap := hC, toks := tkC }) (more := (256, lxTab Z.c') :: (L + 3, oL') :: R) (oL := oL') FC (News.sub NC ?s5) (apart_kons.mpr ⟨fun q hq => apT _ (.head _) q hq, apZ⟩) (.tail _ (.head _)) hoL' X T r zok hvs (sent_len b1 b2 b3 b4) g1 g2 o1 o2 o3 o4 w1 w2 (fun D k1 k2 k3 k4 k5 k6 k7 k8 tn' vs' vn' hD tkD FD ND apD => ?_)
  case s5 =>
    intro q hq
    rcases List.mem_append.mp hq with hq | hq
    · exact List.mem_append_left _ (List.mem_append_left _ hq)
    · rcases List.mem_cons.mp hq with rfl | hq
      · exact List.mem_append_left _ (List.mem_append_right _ (.head _))
      · exact List.mem_append_right _ hq
  refine Wt.intro fun htD => ?_
  dsimp only at htD ⊢
  -- 6
  refine turn_check (s := { s with heap := hD, toks := tkD }) (D := D) (s1 := dn na ++ [58]) (s2 := [120, 59]) (s3 := nowT wa) (s4 := dn nb ++ [58]) (s5 := [120, 59]) (s6 := nowT wb) (k1 := k1) (k2 := k2) (k3 := k3) (k4 := k4) (k5 := k5) (k6 := k6) (k7 := k7) (k8 := k8) (x := Z.x) (dx := Z.dx) (t1 := Z.t1) (t2 := Z.t2) (t3 := Z.t3) (t4 := Z.t4) (tw := Z.tw) (tn := tn') (y := Z.y) (px := Z.px) (led := (256, lxTab Z.c') :: (Z.c', Z.oc) :: R) (oL := oL') FD (News.sub ND ?s6) X T r (by show 0 < tkD; omega) (if_pos rfl) hoL' (fun hE tkE htE FE NE => ?_)
  case s6 =>
    intro q hq
    simp only [List.mem_cons] at hq
    rcases hq with rfl | rfl | rfl | rfl | rfl | rfl | hq
    · exact .head _
    · exact .tail _ (List.mem_append_right _ (.tail _ (.head _)))
    · exact .tail _ (List.mem_append_left _ (.head _))
    · exact .tail _ (List.mem_append_left _ (.tail _ (.head _)))
    · exact .tail _ (List.mem_append_right _ (.head _))
    · exact .tail _ (List.mem_append_left _ (.tail _ (.tail _ (.tail _ (.tail _ (.tail _ (.tail _ (.tail _ (.head _)))))))))
    · exact .tail _ (List.mem_append_right _ (.tail _ (.tail _ hq)))
  dsimp only at htE
  refine ret D k1 k2 k3 k4 k5 k6 k7 k8 [(256, lxTab Z.c'), (Z.c', Z.oc)] oL' _ hE tkE _ (by omega) ?ag ?mt (XB_next zok zq) hoL' FE (News.sub NE ?s7) ?apE
  case ag =>
    intro y hy
    simp only [List.mem_cons, List.not_mem_nil, or_false, not_or] at hy
    have e1 := agB y (by simp [hy])
    have e2 := agA y (by simp [hy])
    simp only [hy, if_false]
    rw [e1, e2]
  case mt => simp
  case s7 =>
    intro q hq
    simp only [List.mem_cons, List.mem_append, List.not_mem_nil, or_false] at hq
    rcases hq with rfl | (rfl | rfl) | rfl | hq
    · exact .head _
    · exact .tail _ (.tail _ (.tail _ (.tail _ (.head _))))
    · exact .tail _ (.tail _ (.tail _ (.tail _ (.tail _ (.head _)))))
    · exact .tail _ (.head _)
    · exact .tail _ (.tail _ (.tail _ (.tail _ (.tail _ (.tail _ hq)))))
  case apE =>
    intro q hq z hz
    simp only [List.mem_cons, List.not_mem_nil, or_false] at hz
    rcases hz with rfl | rfl
    · exact apC q hq _ (List.mem_append_right _ (.head _))
    · exact apC q hq _ (List.mem_append_left _ (.tail _ (.tail _ (.tail _ (.tail _ (.tail _ (.tail _ (.tail _ (.head _)))))))))
end
section
theorem wTop_TG : True ∧ True := by
  w_top off
  (try (walk1; fail))
  exact ⟨trivial, trivial⟩
/-- what a turn reckons of the later number -/
noncomputable def numN (kn i : Nat) (q : Int) : Int := if kn = 5 then (q.natAbs : Int) else ((if i % 2 = 0 then (wtN kn).1 else (wtN kn).2 : Nat) : Int) * (if q < 0 then 0 else q)
noncomputable abbrev toldL (s1 s2 s3 s4 s5 s6 : List Nat) (k1 k2 k3 k4 k5 k6 k7 k8 : Tok) : List Value := [.str (S s1) k1, .str (S s2) k2, .str (S s3) k3, .str (S s4) k4, .str (S s5) k5, .str (S s6) k6, .str (S [46, 46]) k7, .str (S []) k8]
set_option maxHeartbeats 2000000 in
theorem turn_later {f : Addr} {cd : Value} {led : List (Addr × Obj)} {D : Addr} {k1 k2 k3 k4 k5 k6 k7 k8 tm : Tok} {s1 s2 s3 s4 s5 : List Nat} {q : Int} {mk : Nat} {Qb : Flow → Shared → Prop} (F : Fr h₀ L s.heap m) (N : News h₀ L s.heap ((D, LCg.lst (toldL s1 s2 s3 s4 s5 (nowT (wordL q mk)) k1 k2 k3 k4 k5 k6 k7 k8)) :: led))
  (X : (KF w.params).In h₀) (T : Top p loose mean mg mb h₀) (r : Room A 15 150) (ht : 0 < s.toks) (h1 : m "told" = some (.ref D)) (h2 : m "mark" = some (.str (S [mk]) tm)) (hk : isMark mk) (hm0 : @LT.lt Nat _ 0 tm) (hm1 : @LT.lt Nat _ tm s.toks) (hz : q.natAbs < 16 ^ 7)
  (ret : ∀ tq h' tk' m', Agree ["later"] m m' → m' "later" = some (.int q tq) → Fr h₀ L h' m' → News h₀ L h' ((D, LCg.lst (toldL s1 s2 s3 s4 s5 (nowT (wordL q mk)) k1 k2 k3 k4 k5 k6 k7 k8)) :: led) → Qb .next { s with heap := h', toks := tk' }) :
  wpAny (model prg w) A (exec (turnS 7) (lawEnv L f cd)) Qb (fun _ _ => False) s := by
  rw [show turnS 7 = Stmt.Assign _ _ _ from rfl]
  unfold lawEnv
  conv in lawScope => (whnf; dsimp only)
  obtain ⟨hA, dp, fr, gd, un⟩ := A
  obtain rfl : hA = none := r.hh
  walk_at "steps"
  have F9 := (by assumption : Fr h₀ L _ _)
  have N9 := (by assumption : News h₀ L _ _)
  refine number_spec (s := { s with toks := s.toks + 1 }) F9 N9 (by assumption) (by assumption) (Room.less r (by omega) (by omega)) (by (try dsimp only); omega) hz hk hm0 (by (try dsimp only); omega) (fun t h2 tk2 ht2 F2 N2 => ?_)
  refine Wt.intro fun htw => ?_
  walk_at "steps"
  refine' ret _ _ _ _ ?ag ?m1 ?F ?N
  case F => assumption
  case m1 => rfl
  case N => exact News.sub (by assumption) (by walk_at "sub")
  case ag =>
    intro x hx
    simp only [List.mem_cons, List.not_mem_nil, or_false] at hx
    simp only [hx, if_false]
theorem num_a {kn i : Nat} {q : Int} (h : ((kn : Int) == 5) = true) : (if q < 0 then -q else q) = numN kn i q := by
  have : kn = 5 := by have := eq_of_beq h; omega
  unfold numN
  rw [if_pos this]
  split <;> omega
theorem num_b {kn i : Nat} {q : Int} (h : ¬ ((kn : Int) == 5) = true) : [((wtN kn).1 : Int), ((wtN kn).2 : Int)].getD ((i : Int).fmod 2).toNat 0 * (if 0 > q then 0 else q) = numN kn i q := by
  have h5 : ¬ kn = 5 := by intro e; subst e; exact h (by decide)
  unfold numN
  rw [if_neg h5]
  have e : ((i : Int).fmod 2).toNat = i % 2 := by rw [Int.fmod_eq_emod_of_nonneg _ (by decide)]; omega
  rw [e]
  rcases Nat.mod_two_eq_zero_or_one i with h0 | h0 <;> rw [h0] <;> rfl
set_option maxHeartbeats 2000000 in
theorem turn_number {f : Addr} {cd : Value} {led : List (Addr × Obj)} {wr : Addr} {kn i : Nat} {q : Int} {ta tb tk tt tq : Tok} {Qb : Flow → Shared → Prop} (F : Fr h₀ L s.heap m) (N : News h₀ L s.heap ((wr, tup [.int ((wtN kn).1 : Int) ta, .int ((wtN kn).2 : Int) tb]) :: led))
  (X : (KF w.params).In h₀) (T : Top p loose mean mg mb h₀) (r : Room A 15 150) (ht : 0 < s.toks) (h1 : m "kind" = some (.int (kn : Int) tk)) (h2 : m "weights" = some (.ref wr)) (h3 : m "turn" = some (.int (i : Int) tt)) (h4 : m "later" = some (.int q tq)) (hkn : kn < 6) (hi : i < 9) (hz : q.natAbs < 16 ^ 7)
  (ret : ∀ tq h' tk' m', Agree ["number"] m m' → m' "number" = some (.int (numN kn i q) tq) → Fr h₀ L h' m' → News h₀ L h' ((wr, tup [.int ((wtN kn).1 : Int) ta, .int ((wtN kn).2 : Int) tb]) :: led) → Qb .next { s with heap := h', toks := tk' }) :
  wpAny (model prg w) A (exec (turnS 8) (lawEnv L f cd)) Qb (fun _ _ => False) s := by
  rw [show turnS 8 = Stmt.Assign _ _ _ from rfl]
  unfold lawEnv
  conv in lawScope => (whnf; dsimp only)
  obtain ⟨hA, dp, fr, gd, un⟩ := A
  obtain rfl : hA = none := r.hh
  walk_at "steps"
  · refine' ret _ _ _ _ ?ag ?m1 ?F ?N
    case F => assumption
    case m1 =>
      show some (Value.int (if q < 0 then -q else q) _) = _
      rw [num_a (by assumption)]
    case N => exact News.sub (by assumption) (by walk_at "sub")
    case ag =>
      intro x hx
      simp only [List.mem_cons, List.not_mem_nil, or_false] at hx
      simp only [hx, if_false]
  · refine' ret _ _ _ _ ?ag ?m1 ?F ?N
    case F => assumption
    case m1 =>
      show some (Value.int ([((wtN kn).1 : Int), ((wtN kn).2 : Int)].getD ((i : Int).fmod 2).toNat 0 * (if 0 > q then 0 else q)) _) = _
      rw [num_b (by assumption)]
    case N => exact News.sub (by assumption) (by walk_at "sub")
    case ag =>
      intro x hx
      simp only [List.mem_cons, List.not_mem_nil, or_false] at hx
      simp only [hx, if_false]
set_option maxHeartbeats 2000000 in
theorem turn_word {f : Addr} {cd : Value} {led : List (Addr × Obj)} {D : Addr} {k1 k2 k3 k4 k5 k6 k7 k8 tm tn : Tok} {s1 s2 s4 s5 s6 : List Nat} {num p' : Int} {mk : Nat} {Qb : Flow → Shared → Prop} (F : Fr h₀ L s.heap m) (N : News h₀ L s.heap ((D, LCg.lst (toldL s1 s2 (nowT (wordL p' mk)) s4 s5 s6 k1 k2 k3 k4 k5 k6 k7 k8)) :: led))
  (X : (KF w.params).In h₀) (T : Top p loose mean mg mb h₀) (r : Room A 15 150) (ht : 0 < s.toks) (h1 : m "told" = some (.ref D)) (h2 : m "mark" = some (.str (S [mk]) tm)) (h3 : m "number" = some (.int num tn)) (hk : isMark mk) (hm0 : @LT.lt Nat _ 0 tm) (hm1 : @LT.lt Nat _ tm s.toks) (hz : p'.natAbs < 16 ^ 7) (hz2 : (num - p').natAbs < 16 ^ 7)
  (ret : ∀ tw h' tk' m', Agree ["word"] m m' → m' "word" = some (.str (S (wordL (num - p') mk)) tw) → Fr h₀ L h' m' → News h₀ L h' ((D, LCg.lst (toldL s1 s2 (nowT (wordL p' mk)) s4 s5 s6 k1 k2 k3 k4 k5 k6 k7 k8)) :: led) → Qb .next { s with heap := h', toks := tk' }) :
  wpAny (model prg w) A (exec (turnS 9) (lawEnv L f cd)) Qb (fun _ _ => False) s := by
  rw [show turnS 9 = Stmt.Assign _ _ _ from rfl]
  unfold lawEnv
  conv in lawScope => (whnf; dsimp only)
  obtain ⟨hA, dp, fr, gd, un⟩ := A
  obtain rfl : hA = none := r.hh
  walk_at "steps"
  refine number_spec (by assumption) (by assumption) (by assumption) (by assumption) (Room.less r (by omega) (by omega)) (by (try dsimp only); omega) hz hk hm0 (by (try dsimp only); omega) (fun t h2 tk2 ht2 F2 N2 => ?_)
  refine Wt.intro fun htw => ?_
  dsimp only at htw ht2 ⊢
  walk_at "steps"
  refine word_spec (by assumption) (by assumption) (by assumption) (by assumption) (Room.less r (by omega) (by omega)) (by (try dsimp only); omega) _ _ _ _ hz2 (fun t h3 tk3 ht3 F3 N3 => ?_)
  refine Wt.intro fun htw => ?_
  walk_at "steps"
  refine' ret _ _ _ _ ?ag ?m1 ?F ?N
  case F => assumption
  case m1 => rfl
  case N => exact News.sub (by assumption) (by walk_at "sub")
  case ag =>
    intro x hx
    simp only [List.mem_cons, List.not_mem_nil, or_false] at hx
    simp only [hx, if_false]
end
section
theorem wTop_TH : True ∧ True := by
  w_top off
  (try (walk1; fail))
  exact ⟨trivial, trivial⟩
local macro_rules | `(tactic| walk_at "call ref") => `(tactic| (
  (with_reducible show wpAny _ _ (call (Value.ref 250) _ _) _ _ _); (refine newHeaders_spec ‹_› ‹_› ‹_› ‹_› (by walk_at "room") (by walk_at "tk") ?_); intro x9 dx9 hl9 t09 h9 tk9 ht9 F9 N9 la9 lb9 lc9; simp only [List.cons_append, List.nil_append] at N9; try dsimp only))
set_option maxHeartbeats 2000000 in
theorem turn_hd {f : Addr} {cd : Value} {led : List (Addr × Obj)} {Qb : Flow → Shared → Prop} (F : Fr h₀ L s.heap m) (N : News h₀ L s.heap led)
  (X : (KF w.params).In h₀) (T : Top p loose mean mg mb h₀) (r : Room A 15 150) (ht : 0 < s.toks)
  (ret : ∀ x dx hl t0 h' tk' m', Agree ["head"] m m' → m' "head" = some (.ref x) → Fr h₀ L h' m' → News h₀ L h' (hdLed w x dx hl t0 [] 0 ++ led) →
    ((@LT.lt Nat _ dx x) ∧ (@LT.lt Nat _ x hl) ∧ ∀ p ∈ led, @LT.lt Nat _ p.1 dx) → Qb .next { s with heap := h', toks := tk' }) :
  wpAny (model prg w) A (exec (turnS 10) (lawEnv L f cd)) Qb (fun _ _ => False) s := by
  obtain ⟨hA, dp, fr, gd, un⟩ := A
  obtain rfl : hA = none := r.hh
  rw [show turnS 10 = Stmt.Assign _ _ _ from rfl]
  unfold lawEnv
  conv in lawScope => (whnf; dsimp only)
  walk_at "steps"
  refine' ret _ _ _ _ _ _ _ ?ag ?m1 ?F ?N ?lt
  case F => assumption
  case m1 => rfl
  case N => assumption
  case ag =>
    intro x hx
    simp only [List.mem_cons, List.not_mem_nil, or_false] at hx
    simp only [hx, if_false]
  case lt => exact ⟨by assumption, by assumption, by assumption⟩
theorem addHeader_g {rest : List (Addr × Obj)} {x dx hl : Addr} {t0 : Tok} {vs : List Value} {n : Nat} (F : Fr h₀ L s.heap m) (N : News h₀ L s.heap (hdLed w x dx hl t0 vs n ++ rest)) (hap : Apart (hdLed w x dx hl t0 vs n) rest)
  (X : (KF w.params).In h₀) (T : Top p loose mean mg mb h₀) (r : Room A 5 40) (ht : 0 < s.toks)
  (e1 : @Ne Nat x dx) (e2 : @Ne Nat x hl) (e3 : @Ne Nat dx hl) {la lb lc : List Nat} {ya yb yc : Str} (hya : ya = S la) (hyb : yb = S lb) (hyc : yc = S lc) {tn tv tp : Tok} (ok1 : ∀ c ∈ la, Mine.ok c) (ok2 : ∀ c ∈ lb, Mine.ok c) (ok3 : ∀ c ∈ lc, Mine.ok c) (b1 : la.length ≤ 100) (b2 : lb.length ≤ 100) (b3 : lc.length ≤ 100) (hvs : vs.length ≤ 100)
  (ret : ∀ a t1 t2 n' h' tk', s.toks ≤ tk' → Fr h₀ L h' m → News h₀ L h' ((a, tup [.str (S la) t1, .str (S (lb ++ [59, 32] ++ fmt [110, 45, 111, 45, 119] lc)) t2]) :: (hdLed w x dx hl t0 (vs ++ [.ref a]) n' ++ rest)) →
    (@LT.lt Nat _ x a ∧ @LT.lt Nat _ dx a ∧ @LT.lt Nat _ hl a) → (∀ p ∈ rest, p.1 ≠ a) → Q .none { s with heap := h', toks := tk' }) :
  wpAny (model prg w) A (call (.ref 247) [.ref x, .str ya tn, .str yb tv] [("n_o_w", .str yc tp)]) Q E s := by
  subst hya; subst hyb; subst hyc
  exact addHeader_spec F N hap X T r ht e1 e2 e3 la lb lc tn tv tp ok1 ok2 ok3 b1 b2 b3 hvs ret
theorem slice_x : Txt.slice (S [120, 59]) none (some (-1)) = S [120] := slice_init (l := [120])
set_option maxHeartbeats 2000000 in
theorem turn_add1 {f : Addr} {cd : Value} {led : List (Addr × Obj)} {x dx hl D : Addr} {t0 k1 k2 k3 k4 k5 k6 k7 k8 : Tok} {n : Nat} {n1 n2 wa wb : List Nat} {Qb : Flow → Shared → Prop} (F : Fr h₀ L s.heap m) (N : News h₀ L s.heap ((x, instObj 250 dx) :: (dx, hdDict w t0 hl) :: (hl, lst [] 0) :: (D, LCg.lst (toldL (n1 ++ [58]) [120, 59] (nowT wa) (n2 ++ [58]) [120, 59] (nowT wb) k1 k2 k3 k4 k5 k6 k7 k8)) :: led))
  (X : (KF w.params).In h₀) (T : Top p loose mean mg mb h₀) (r : Room A 15 150) (ht : 0 < s.toks) (h0 : m "head" = some (.ref x)) (h1 : m "told" = some (.ref D))
  (o2 : ∀ c ∈ n2, Mine.ok c) (o3 : ∀ c ∈ wb, Mine.ok c) (b2 : n2.length ≤ 100) (b3 : wb.length ≤ 20)
  (q1 : @LT.lt Nat _ dx x) (q2 : @LT.lt Nat _ x hl) (q3 : ∀ p ∈ (D, LCg.lst (toldL (n1 ++ [58]) [120, 59] (nowT wa) (n2 ++ [58]) [120, 59] (nowT wb) k1 k2 k3 k4 k5 k6 k7 k8)) :: led, @LT.lt Nat _ p.1 dx)
  (ret : ∀ a t1 t2 n' h' tk', Fr h₀ L h' m → News h₀ L h' ((a, tup [.str (S n2) t1, .str (S (valL wb)) t2]) :: (hdLed w x dx hl t0 [.ref a] n' ++ ((D, LCg.lst (toldL (n1 ++ [58]) [120, 59] (nowT wa) (n2 ++ [58]) [120, 59] (nowT wb) k1 k2 k3 k4 k5 k6 k7 k8)) :: led))) →
    (@LT.lt Nat _ x a ∧ @LT.lt Nat _ dx a ∧ @LT.lt Nat _ hl a) → (∀ p ∈ (D, LCg.lst (toldL (n1 ++ [58]) [120, 59] (nowT wa) (n2 ++ [58]) [120, 59] (nowT wb) k1 k2 k3 k4 k5 k6 k7 k8)) :: led, p.1 ≠ a) → Qb .next { s with heap := h', toks := tk' }) :
  wpAny (model prg w) A (exec (turnS 11) (lawEnv L f cd)) Qb (fun _ _ => False) s := by
  obtain ⟨hA, dp, fr, gd, un⟩ := A
  obtain rfl : hA = none := r.hh
  rw [show turnS 11 = Stmt.Expr _ _ from rfl]
  unfold lawEnv
  conv in lawScope => (whnf; dsimp only)
  have hn2 := nowT_len wb
  have q4 := q3
  k_lt q4
  walk_at "steps"
  have F9 := (by assumption : Fr h₀ L _ _)
  have N9 := (by assumption : News h₀ L _ ((x, _) :: (dx, _) :: (hl, lst [] 0) :: _))
  refine addHeader_g F9 N9 (apart_hd q3 q1 q2) (by assumption) (by assumption) (Room.less r (by omega) (by omega)) (by (try dsimp only); omega) (by walk_at "ne") (by walk_at "ne") (by walk_at "ne") slice_init slice_x (slice_now _) o2 x_ok o3 b2 (by decide) (by omega) (by decide) (fun a9 t19 t29 n9 h9 tk9 ht9 F2 N2 lt9 ap9 => ?_)
  refine Wt.intro fun htw => ?_
  walk_at "steps"
  exact ret a9 t19 t29 n9 _ _ F2 N2 lt9 ap9
set_option maxHeartbeats 2000000 in
theorem turn_add2 {f : Addr} {cd : Value} {led : List (Addr × Obj)} {x dx hl a D : Addr} {oa : Obj} {t0 k1 k2 k3 k4 k5 k6 k7 k8 tw : Tok} {n : Nat} {n1 n2 wa wb wd : List Nat} {Qb : Flow → Shared → Prop} (F : Fr h₀ L s.heap m) (N : News h₀ L s.heap ((x, instObj 250 dx) :: (dx, hdDict w t0 hl) :: (hl, lst [.ref a] n) :: (a, oa) :: (D, LCg.lst (toldL (n1 ++ [58]) [120, 59] (nowT wa) (n2 ++ [58]) [120, 59] (nowT wb) k1 k2 k3 k4 k5 k6 k7 k8)) :: led))
  (X : (KF w.params).In h₀) (T : Top p loose mean mg mb h₀) (r : Room A 15 150) (ht : 0 < s.toks) (h0 : m "head" = some (.ref x)) (h1 : m "told" = some (.ref D)) (h2 : m "word" = some (.str (S wd) tw))
  (o1 : ∀ c ∈ n1, Mine.ok c) (o4 : ∀ c ∈ wd, Mine.ok c) (b1 : n1.length ≤ 100) (b4 : wd.length ≤ 20)
  (q1 : @LT.lt Nat _ dx x) (q2 : @LT.lt Nat _ x hl) (q3 : ∀ p ∈ (D, LCg.lst (toldL (n1 ++ [58]) [120, 59] (nowT wa) (n2 ++ [58]) [120, 59] (nowT wb) k1 k2 k3 k4 k5 k6 k7 k8)) :: led, @LT.lt Nat _ p.1 dx) (q5 : @LT.lt Nat _ x a ∧ @LT.lt Nat _ dx a ∧ @LT.lt Nat _ hl a)
  (ret : ∀ b t1 t2 n' h' tk', Fr h₀ L h' m → News h₀ L h' ((b, tup [.str (S n1) t1, .str (S (valL wd)) t2]) :: (hdLed w x dx hl t0 [.ref a, .ref b] n' ++ ((a, oa) :: (D, LCg.lst (toldL (n1 ++ [58]) [120, 59] (nowT wa) (n2 ++ [58]) [120, 59] (nowT wb) k1 k2 k3 k4 k5 k6 k7 k8)) :: led))) →
    (@LT.lt Nat _ x b ∧ @LT.lt Nat _ dx b ∧ @LT.lt Nat _ hl b) → (∀ p ∈ (a, oa) :: (D, LCg.lst (toldL (n1 ++ [58]) [120, 59] (nowT wa) (n2 ++ [58]) [120, 59] (nowT wb) k1 k2 k3 k4 k5 k6 k7 k8)) :: led, p.1 ≠ b) → Qb .next { s with heap := h', toks := tk' }) :
  wpAny (model prg w) A (exec (turnS 12) (lawEnv L f cd)) Qb (fun _ _ => False) s := by
  obtain ⟨hA, dp, fr, gd, un⟩ := A
  obtain rfl : hA = none := r.hh
  rw [show turnS 12 = Stmt.Expr _ _ from rfl]
  unfold lawEnv
  conv in lawScope => (whnf; dsimp only)
  have q4 := q3
  k_lt q4
  walk_at "steps"
  have F9 := (by assumption : Fr h₀ L _ _)
  have N9 := (by assumption : News h₀ L _ ((x, _) :: (dx, _) :: (hl, lst [.ref a] n) :: _))
  refine addHeader_g F9 N9 (apart_cons ⟨by omega, by omega, by omega⟩ (apart_hd q3 q1 q2)) (by assumption) (by assumption) (Room.less r (by omega) (by omega)) (by (try dsimp only); omega) (by walk_at "ne") (by walk_at "ne") (by walk_at "ne") slice_init slice_x rfl o1 x_ok o4 b1 (by decide) (by omega) (by simp) (fun a9 t19 t29 n9 h9 tk9 ht9 F2 N2 lt9 ap9 => ?_)
  refine Wt.intro fun htw => ?_
  walk_at "steps"
  exact ret a9 t19 t29 n9 _ _ F2 N2 lt9 ap9
end
section
theorem wTop_TM : True ∧ True := by
  w_top off
  (try (walk1; fail))
  exact ⟨trivial, trivial⟩
set_option maxHeartbeats 2000000 in
theorem turn_mid {f : Addr} {cd : Value} {R : List (Addr × Obj)} {D wr : Addr} {k1 k2 k3 k4 k5 k6 k7 k8 tm tt tk ta tb : Tok} {kn i mk : Nat} {P q : Int} {n1 n2 : List Nat} {rest : List Stmt} {Qb : Flow → Shared → Prop}
  (F : Fr h₀ L s.heap m) (N : News h₀ L s.heap ((D, LCg.lst (toldL (n1 ++ [58]) [120, 59] (nowT (wordL P mk)) (n2 ++ [58]) [120, 59] (nowT (wordL q mk)) k1 k2 k3 k4 k5 k6 k7 k8)) :: R))
  (hw : (wr, tup [.int ((wtN kn).1 : Int) ta, .int ((wtN kn).2 : Int) tb]) ∈ R)
  (X : (KF w.params).In h₀) (T : Top p loose mean mg mb h₀) (r : Room A 15 150) (ht : 0 < s.toks) (h1 : m "told" = some (.ref D)) (h2 : m "mark" = some (.str (S [mk]) tm)) (hk : isMark mk) (hm0 : @LT.lt Nat _ 0 tm) (hm1 : @LT.lt Nat _ tm s.toks)
  (h3 : m "kind" = some (.int (kn : Int) tk)) (h4 : m "weights" = some (.ref wr)) (h5 : m "turn" = some (.int (i : Int) tt)) (hkn : kn < 6) (hi : i < 9) (zp : P.natAbs < 16 ^ 7) (zq : q.natAbs < 16 ^ 7) (zz : (numN kn i q - P).natAbs < 16 ^ 7)
  (o1 : ∀ c ∈ n1, Mine.ok c) (b1 : n1.length ≤ 100) (o2 : ∀ c ∈ n2, Mine.ok c) (b2 : n2.length ≤ 100) (o3 : ∀ c ∈ wordL q mk, Mine.ok c) (b3 : (wordL q mk).length ≤ 20) (o4 : ∀ c ∈ wordL (numN kn i q - P) mk, Mine.ok c) (b4 : (wordL (numN kn i q - P) mk).length ≤ 20)
  (ret : ∀ x dx hl a b t0 t1 t2 t3 t4 n' tw h' tk' m', s.toks ≤ tk' → Agree ["later", "number", "word", "head"] m m' → m' "head" = some (.ref x) → m' "word" = some (.str (S (wordL (numN kn i q - P) mk)) tw) → Fr h₀ L h' m' →
    News h₀ L h' (headLed w x dx hl a b t0 n' n2 (valL (wordL q mk)) n1 (valL (wordL (numN kn i q - P) mk)) t1 t2 t3 t4 ++ R) → Apart (headLed w x dx hl a b t0 n' n2 (valL (wordL q mk)) n1 (valL (wordL (numN kn i q - P) mk)) t1 t2 t3 t4) R →
    wpAny (model prg w) A (execs rest (lawEnv L f cd)) Qb (fun _ _ => False) { s with heap := h', toks := tk' }) :
  wpAny (model prg w) A (execs (turnS 7 :: turnS 8 :: turnS 9 :: turnS 10 :: turnS 11 :: turnS 12 :: rest) (lawEnv L f cd)) Qb (fun _ _ => False) s := by
  refine wpAny_execs_cons (withT ?_)
  refine turn_later F N X T r ht h1 h2 hk hm0 hm1 zq (fun tq hA tkA mA agA hmA FA NA => ?_)
  refine Wt.intro fun ht0 => ?_
  dsimp only at ht0 ⊢
  refine wpAny_execs_cons (withT ?_)
  refine turn_number (s := { s with heap := hA, toks := tkA }) (led := (D, LCg.lst (toldL (n1 ++ [58]) [120, 59] (nowT (wordL P mk)) (n2 ++ [58]) [120, 59] (nowT (wordL q mk)) k1 k2 k3 k4 k5 k6 k7 k8)) :: R) (kn := kn) (i := i) (q := q) (ta := ta) (tb := tb) FA (News.sub NA ?s1) X T r (by show 0 < tkA; omega) (agA.get h3) (agA.get h4) (agA.get h5) hmA hkn hi zq (fun tq' hB tkB mB agB hmB FB NB => ?_)
  case s1 =>
    intro z hz
    rcases List.mem_cons.mp hz with rfl | hz
    · exact .tail _ hw
    · exact hz
  refine Wt.intro fun ht1 => ?_
  dsimp only at ht1 ⊢
  refine wpAny_execs_cons (withT ?_)
  refine turn_word (s := { s with heap := hB, toks := tkB }) FB (News.sub NB (fun z hz => .tail _ hz)) X T r (by show 0 < tkB; omega) (agB.get (agA.get h1)) (agB.get (agA.get h2)) hmB hk hm0 (by show @LT.lt Nat _ tm tkB; omega) zp zz (fun tw hC tkC mC agC hmC FC NC => ?_)
  refine Wt.intro fun ht2 => ?_
  dsimp only at ht2 ⊢
  refine wpAny_execs_cons (withT ?_)
  refine turn_hd (s := { s with heap := hC, toks := tkC }) FC NC X T r (by show 0 < tkC; omega) (fun x dx hl t0 hD tkD mD agD hmD FD ND lt => ?_)
  obtain ⟨q1, q2, q3⟩ := lt
  refine Wt.intro fun ht3 => ?_
  dsimp only at ht3 ⊢
  refine wpAny_execs_cons (withT ?_)
  refine turn_add1 (s := { s with heap := hD, toks := tkD }) (n := 0) FD ND X T r (by show 0 < tkD; omega) hmD (agD.get (agC.get (agB.get (agA.get h1)))) o2 o3 b2 b3 q1 q2 q3 (fun a t1 t2 n' hE tkE FE NE lt1 ap1 => ?_)
  refine Wt.intro fun ht4 => ?_
  dsimp only at ht4 ⊢
  refine wpAny_execs_cons (withT ?_)
  refine turn_add2 (s := { s with heap := hE, toks := tkE }) (t0 := t0) (a := a) (oa := tup [.str (S n2) t1, .str (S (valL (wordL q mk))) t2]) (n := n') FE (News.sub NE ?s2) X T r (by show 0 < tkE; omega) hmD (agD.get (agC.get (agB.get (agA.get h1)))) (agD.get hmC) o1 o4 b1 b4 q1 q2 q3 lt1 (fun b t3 t4 n'' hF tkF FF NF lt2 ap2 => ?_)
  case s2 =>
    (try simp only [List.cons_append, List.nil_append])
    walk_at "subs"
  refine Wt.intro fun ht5 => ?_
  dsimp only at ht5 ⊢
  refine ret x dx hl a b t0 t1 t2 t3 t4 n'' tw hF tkF mD (by omega) ?ag hmD (agD.get hmC) FF (News.sub NF ?s3) ?ap
  case ag =>
    exact (((agA.sub (by decide)).tr agB (by decide)).tr agC (by decide)).tr agD (by decide)
  case s3 =>
    simp only [headLed, List.cons_append, List.nil_append]
    walk_at "subs"
  case ap =>
    intro z hz y hy
    have l1 := q3 z (.tail _ hz)
    have l2 := ap1 z (.tail _ hz)
    have l3 := ap2 z (.tail _ (.tail _ hz))
    simp only [headLed, List.cons_append, List.nil_append, List.mem_cons, List.not_mem_nil, or_false] at hy
    rcases hy with rfl | rfl | rfl | rfl | rfl
    · show @Ne Nat _ _; dsimp only; omega
    · show @Ne Nat _ _; dsimp only; omega
    · show @Ne Nat _ _; dsimp only; omega
    · exact l2
    · exact l3
end
section
theorem wTop_Get : True ∧ True := by
  w_top off
  (try (walk1; fail))
  exact ⟨trivial, trivial⟩
local macro_rules | `(tactic| walk_at "eval Name") => `(tactic| (k_dflt (refine ld (by k_asm) ‹_› ?_)))
/-- a row of a table: its tuple, its name, its text -/
structure Rw where
  (a : Addr)
  (k v : List Nat)
  (tk tv : Tok)
noncomputable abbrev rowO (r : Rw) : Addr × Obj := (r.a, tup [.str (S r.k) r.tk, .str (S r.v) r.tv])
noncomputable abbrev rowL (rs : List Rw) : List (Addr × Obj) := rs.map rowO
noncomputable abbrev refL (rs : List Rw) : List Value := rs.map fun r => .ref r.a
noncomputable def getV (rs : List Rw) (l : List Nat) : Value := match rs.find? (fun r => decide (low r.k = low l)) with
  | some r => .str (S r.v) r.tv
  | none => .none
theorem low_ok {l : List Nat} (h : ∀ c ∈ l, ok c) : ∀ c ∈ low l, ok c := by
  intro c hc
  obtain ⟨a, ha, rfl⟩ := List.mem_map.mp hc
  have := h a ha
  unfold ok at this ⊢
  unfold lo1
  split <;> omega
theorem ok_lt {l : List Nat} (h : ∀ c ∈ l, ok c) : ∀ c ∈ l, c < 128 := fun c hc => Nat.lt_of_lt_of_le (h c hc).2 (by decide)
theorem find_take {rs : List Rw} {l : List Nat} {i : Nat} {r : Rw} (h : ∀ j r', j < i → rs[j]? = some r' → low r'.k ≠ low l) (hr : rs[i]? = some r) (he : low r.k = low l) : getV rs l = .str (S r.v) r.tv := by
  have : rs.find? (fun r => decide (low r.k = low l)) = some r := by
    rw [List.find?_eq_some_iff_getElem]
    have hi : i < rs.length := by
      by_cases h : i < rs.length
      · exact h
      · rw [List.getElem?_eq_none (by omega)] at hr; cases hr
    refine ⟨by simpa using he, i, hi, ?_, fun j hj => ?_⟩
    · rw [List.getElem?_eq_getElem hi] at hr; exact Option.some.inj hr
    · have := h j rs[j] hj (by rw [List.getElem?_eq_getElem])
      simpa using this
  unfold getV
  rw [this]
theorem find_none {rs : List Rw} {l : List Nat} {i : Nat} (h : ∀ j r', j < i → rs[j]? = some r' → low r'.k ≠ low l) (hi : rs.length ≤ i) : getV rs l = .none := by
  have : rs.find? (fun r => decide (low r.k = low l)) = none := by
    rw [List.find?_eq_none]
    intro r hr
    obtain ⟨j, hj, rfl⟩ := List.mem_iff_getElem.mp hr
    have := h j rs[j] (by omega) (by rw [List.getElem?_eq_getElem])
    simpa using this
  unfold getV
  rw [this]
theorem eq_S {prog : Program} {w : World} {A : Around} {E Q : Value → Shared → Prop} {s : Shared} {a b : List Nat} {t u : Tok} (h : Q (.bool (decide (a = b))) s) :
    wpAny (model prog w) A (compareOp .Eq (.str (S a) t) (.str (S b) u)) Q E s := by
  refine eq_str ?_
  rw [S_beq]
  have e : (a == b) = decide (a = b) := by by_cases h : a = b <;> simp [h]
  rw [e]
  exact h
inductive GInv (s : Shared) (g : Heap) (L' : Addr) (tk : Nat) (led : List (Addr × Obj)) (hl : Addr) (rs : List Rw) (l : List Nat) (I : Addr) (k : Nat) (s' : Shared) : Prop
  | mk (i : _) (o : _) (m : _) (h' : _) (tk' : _) (t9 : _)
    (c0 : s' = { s with heap := h', toks := tk' }) (c1 : tk ≤ tk') (c2 : Fr g L' h' m) (c3 : News g L' h' ((I, o) :: led)) (c4 : (∀ q ∈ led, q.1 ≠ I)) (c5 : LitObj o hl i) (c6 : m "name" = some (.str (S (low l)) t9)) (c7 : m "default" = some .none) (c8 : (∀ j r', j < i → rs[j]? = some r' → low r'.k ≠ low l)) (c9 : i ≤ rs.length) (c10 : rs.length - i < k) : GInv s g L' tk led hl rs l I k s'
local macro_rules | `(tactic| walk_at "call builtin:str.lower") => `(tactic| (refine lowerM (by first | assumption | (apply ok_lt; assumption)) (by omega) ?_; try dsimp only))
local macro_rules | `(tactic| walk_at "compareOp Eq str str") => `(tactic| (refine eq_S ?_))
local macro_rules | `(tactic| walk_at "call ref") => `(tactic| (
  (with_reducible show wpAny _ _ (call (Value.ref 149) _ _) _ _ _); (refine convert_spec ‹_› ‹_› ‹_› ‹_› (by walk_at "room") (by walk_at "tk") _ _ _ _ (by first | assumption | (apply low_ok; assumption)) (by first | omega | (rw [low_len]; omega)) ?_); intro h9 tk9 ht9 F9 N9; try dsimp only))
set_option maxHeartbeats 4000000 in
theorem get_spec {rest : List (Addr × Obj)} {x dx hl : Addr} {t0 : Tok} {rs : List Rw} {n : Nat} (F : Fr h₀ L s.heap m) (N : News h₀ L s.heap ((hdLed w x dx hl t0 (refL rs) n ++ rowL rs) ++ rest)) (hap : Apart (hdLed w x dx hl t0 (refL rs) n ++ rowL rs) rest)
  (X : (KF w.params).In h₀) (T : Top p loose mean mg mb h₀) (r : Room A 5 40) (ht : 0 < s.toks)
  {l : List Nat} {tn : Tok} (okl : ∀ c ∈ l, ok c) (bl : l.length ≤ 100) (okr : ∀ r ∈ rs, (∀ c ∈ r.k, ok c) ∧ r.k.length ≤ 100)
  (ret : ∀ h' tk', s.toks ≤ tk' → Fr h₀ L h' m → News h₀ L h' ((hdLed w x dx hl t0 (refL rs) n ++ rowL rs) ++ rest) → Q (getV rs l) { s with heap := h', toks := tk' }) :
  wpAny (model prg w) A (call (.ref 197) [.ref x, .str (S l) tn] []) Q E s := by
  refine' enterM (binds := [("self", .ref x), ("name", .str (S l) tn), ("default", .none)]) F N hap X T r ht ?k6 ?k7 ?k9 ?kB ?_ ?c5 ?c2 ?c3 ?c4
  walk_at "enter"
  intro g' L' h' tk' dp fr gd un Qb F' N' X' T' r' l1 ht' htt' back backN
  clear F N X T hap
  simp only [List.cons_append, List.nil_append] at N'
  walk_at "stepsW"
  refine For_any (GInv s g' L' tk' ((x, instObj 250 dx) :: (dx, hdDict w t0 hl) :: (hl, lst (refL rs) n) :: rowL rs) hl rs l) (rs.length + 1) ?_ ?_
  · walk_at "steps"
    refine lit_iter (by assumption) (by assumption) (by k_mem) (fun I o h3 ho F3 N3 l3 => ⟨I, rfl, ?_⟩)
    refine' ⟨0, o, _, _, _, _, rfl, ?tk, F3, N3, fun q hq => Nat.ne_of_lt (l3 q hq), ho, ?m2, ?m3, fun j r' hj => absurd hj (Nat.not_lt_zero _), Nat.zero_le _, by omega⟩
    case tk => dsimp only at *; omega
    case m2 => rfl
    case m3 => rfl
  · intro I k s' hk
    obtain ⟨i, o, m1, h1, tk1, t9, rfl, htk1, F1, N1, hap1, ho, m2, m3, hno, hi, hk⟩ := hk
    refine lit_next rfl F1 N1 (by k_mem) hap1 ho (fun hle h2 tk2 htk2 F2 N2 => ?_) (fun v o2 h2 tk2 htk2 hv ho2 F2 N2 => ?_) (by simpa using hi)
    · dsimp only at htk2
      have hgn := find_none hno (by simpa using hle)
      show wpAny _ _ (execs _ _) _ _ _
      walk_at "stepsW"
      refine back _ _ _ _ _ F2 N2 (fun F N ap9 ht => ?_)
      rw [← hgn]
      exact ret _ _ ht F N
    · dsimp only at htk2
      have hib : i < rs.length := by
        by_cases h : i < rs.length
        · exact h
        · rw [List.getElem?_eq_none (by simpa using h)] at hv; cases hv
      rw [List.getElem?_map, List.getElem?_eq_getElem hib] at hv
      cases hv
      have hmem : rs[i] ∈ rs := List.getElem_mem hib
      obtain ⟨ok1, bl1⟩ := okr _ hmem
      have hT : IsTup h2 rs[i].a #[.str (S rs[i].k) rs[i].tk, .str (S rs[i].v) rs[i].tv] := by
        have := N2.get (List.mem_cons_of_mem _ (List.mem_cons_of_mem _ (List.mem_cons_of_mem _ (List.mem_cons_of_mem _ (List.mem_map.mpr ⟨rs[i], hmem, rfl⟩)))))
        exact ⟨_, this, rfl, 0, rfl⟩
      have hget : ∀ (e : low rs[i].k = low l), getV rs l = .str (S rs[i].v) rs[i].tv := fun e => find_take hno (List.getElem?_eq_getElem hib) e
      have hr9 : rs[i]? = some rs[i] := List.getElem?_eq_getElem hib
      generalize rs[i] = rw0 at *
      obtain ⟨ra, rk, rv, rtk, rtv⟩ := rw0
      dsimp only at *
      show wpAny _ _ (letOwnedTupleGo _ _ _) _ _ _
      refine go_list N2 ho2 ?_
      walk_at "stepsW"
      · refine back _ _ _ _ _ (by assumption) (by assumption) (fun F N ap9 ht => ?_)
        rw [← hget (by assumption)]
        exact ret _ _ ht F (News.sub N fun p hp => List.mem_cons_of_mem _ hp)
      · refine' ⟨i + 1, o2, _, _, _, t9, rfl, ?tk, ?F, ?N, hap1, ho2, ?m2, ?m3, ?no, hib, by omega⟩
        case tk => omega
        case F => assumption
        case N => assumption
        case m2 => exact m2
        case m3 => exact m3
        case no =>
          intro j r' hj hr'
          by_cases hji : j = i
          · subst hji
            rw [hr9] at hr'
            cases hr'
            assumption
          · exact hno j r' (by omega) hr'
theorem get_spec' {v : Value} {rest : List (Addr × Obj)} {x dx hl : Addr} {t0 : Tok} {rs : List Rw} {n : Nat} {l : List Nat} {tn : Tok} (hg : getV rs l = v) (F : Fr h₀ L s.heap m) (N : News h₀ L s.heap ((hdLed w x dx hl t0 (refL rs) n ++ rowL rs) ++ rest)) (hap : Apart (hdLed w x dx hl t0 (refL rs) n ++ rowL rs) rest)
  (X : (KF w.params).In h₀) (T : Top p loose mean mg mb h₀) (r : Room A 5 40) (ht : 0 < s.toks)
  (okl : ∀ c ∈ l, ok c) (bl : l.length ≤ 100) (okr : ∀ r ∈ rs, (∀ c ∈ r.k, ok c) ∧ r.k.length ≤ 100)
  (ret : ∀ h' tk', s.toks ≤ tk' → Fr h₀ L h' m → News h₀ L h' ((hdLed w x dx hl t0 (refL rs) n ++ rowL rs) ++ rest) → Q v { s with heap := h', toks := tk' }) :
  wpAny (model prg w) A (call (.ref 197) [.ref x, .str (S l) tn] []) Q E s := by
  subst hg
  exact get_spec F N hap X T r ht okl bl okr ret
theorem getV_cases (rs : List Rw) (l : List Nat) : getV rs l = .none ∨ ∃ y t, getV rs l = .str (S y) t := by
  unfold getV
  split
  · exact .inr ⟨_, _, rfl⟩
  · exact .inl rfl
theorem News.nilr {h₀ h : Heap} {L : Addr} {l : List (Addr × Obj)} (N : News h₀ L h l) : News h₀ L h (l ++ []) := by rw [List.append_nil]; exact N
theorem Apart.nilr {l : List (Addr × Obj)} : Apart l [] := fun _ h => nomatch h
end
section
theorem wTop_Setd : True ∧ True := by
  w_top off
  (try (walk1; fail))
  exact ⟨trivial, trivial⟩
theorem ret_new {h₀ h' : Heap} {L : Addr} {w : World} {x dx hl D : Addr} {t0 : Tok} {rs : List Rw} {l v : List Nat} {tn tv : Tok} {n : Nat} {rest : List (Addr × Obj)}
    (N : News h₀ L h' (((D, tup [.str (S l) tn, .str (S v) tv]) :: (x, instObj 250 dx) :: (dx, hdDict w t0 hl) :: (hl, lst (refL rs ++ [.ref D]) n) :: rowL rs) ++ rest)) :
    News h₀ L h' ((hdLed w x dx hl t0 (refL (rs ++ [⟨D, l, v, tn, tv⟩])) n ++ rowL (rs ++ [⟨D, l, v, tn, tv⟩])) ++ rest) := News.sub N fun p hp => by
  rcases List.mem_append.mp hp with hp | hp
  · refine List.mem_append_left _ ?_
    rcases List.mem_append.mp hp with hp | hp
    · simp only [refL, List.map_append, List.map_cons, List.map_nil] at hp
      refine List.mem_cons_of_mem _ ?_
      simp only [List.mem_cons, List.not_mem_nil, or_false] at hp
      rcases hp with rfl | rfl | rfl
      · exact List.Mem.head _
      · exact List.mem_cons_of_mem _ (List.Mem.head _)
      · exact List.mem_cons_of_mem _ (List.mem_cons_of_mem _ (List.Mem.head _))
    · rw [rowL, List.map_append] at hp
      rcases List.mem_append.mp hp with hp | hp
      · exact List.mem_cons_of_mem _ (List.mem_cons_of_mem _ (List.mem_cons_of_mem _ (List.mem_cons_of_mem _ hp)))
      · obtain rfl := List.mem_singleton.mp hp
        exact List.Mem.head _
  · exact List.mem_append_right _ hp
local macro_rules | `(tactic| walk_at "call ref") => `(tactic| (first
  | ((with_reducible show wpAny _ _ (call (Value.ref 149) _ _) _ _ _); (refine convert_spec ‹_› ‹_› ‹_› ‹_› (by walk_at "room") (by walk_at "tk") _ _ _ _ ‹_› (by omega) ?_); intro h9 tk9 ht9 F9 N9; try dsimp only)
  | ((with_reducible show wpAny _ _ (call (Value.ref 197) _ _) _ _ _); (refine get_spec' ‹_› ‹_› (News.nilr ‹_›) Apart.nilr ‹_› ‹_› (by walk_at "room") (by walk_at "tk") ‹_› (by omega) ‹_› ?_); intro h9 tk9 ht9 F9 N9; simp only [List.cons_append, List.nil_append, List.append_nil] at N9; try dsimp only)))
set_option maxHeartbeats 4000000 in
theorem setdefault_spec {rest : List (Addr × Obj)} {x dx hl : Addr} {t0 : Tok} {rs : List Rw} {n : Nat} (F : Fr h₀ L s.heap m) (N : News h₀ L s.heap ((hdLed w x dx hl t0 (refL rs) n ++ rowL rs) ++ rest)) (hap : Apart (hdLed w x dx hl t0 (refL rs) n ++ rowL rs) rest)
  (X : (KF w.params).In h₀) (T : Top p loose mean mg mb h₀) (r : Room A 9 60) (ht : 0 < s.toks)
  {l v : List Nat} {tn tv : Tok} (okl : ∀ c ∈ l, ok c) (okv : ∀ c ∈ v, ok c) (bl : l.length ≤ 100) (bv : v.length ≤ 100) (okr : ∀ r ∈ rs, (∀ c ∈ r.k, ok c) ∧ r.k.length ≤ 100) (hrs : rs.length ≤ 100)
  (ret1 : getV rs l = .none → ∀ a n' h' tk', s.toks ≤ tk' → Fr h₀ L h' m → News h₀ L h' ((hdLed w x dx hl t0 (refL (rs ++ [⟨a, l, v, tn, tv⟩])) n' ++ rowL (rs ++ [⟨a, l, v, tn, tv⟩])) ++ rest) → (∀ p ∈ rest, p.1 ≠ a) → Q (.str (S v) tv) { s with heap := h', toks := tk' })
  (ret2 : ∀ y ty, getV rs l = .str (S y) ty → ∀ h' tk', s.toks ≤ tk' → Fr h₀ L h' m → News h₀ L h' ((hdLed w x dx hl t0 (refL rs) n ++ rowL rs) ++ rest) → Q (.str (S y) ty) { s with heap := h', toks := tk' }) :
  wpAny (model prg w) A (call (.ref 240) [.ref x, .str (S l) tn, .str (S v) tv] []) Q E s := by
  refine' enterM (binds := [("self", .ref x), ("name", .str (S l) tn), ("value", .str (S v) tv)]) F N hap X T r ht ?k6 ?k7 ?k9 ?kB ?_ ?c5 ?c2 ?c3 ?c4
  walk_at "enter"
  intro g' L' h' tk' dp fr gd un Qb F' N' X' T' r' l1 ht' htt' back backN
  clear F N X T hap
  simp only [List.cons_append, List.nil_append] at N'
  rcases getV_cases rs l with hg | ⟨y, ty, hg⟩
  · walk_at "steps"
    refine append_mid (pre := [_, _, _]) (by assumption) (by assumption) (fun q hq e => ?_) (by simp; omega) ?_
    · rcases List.mem_append.mp hq with hq | hq
      · have := congrArg Obj.cls e
        simp only [List.mem_cons, List.not_mem_nil, or_false] at hq
        rcases hq with rfl | rfl | rfl <;> exact absurd this (by simp)
      · obtain ⟨r, hr, rfl⟩ := List.mem_map.mp hq
        exact absurd (congrArg Obj.cls e) (by simp)
    intro h9 F9 N9
    dsimp only
    refine Mine.Wt.intro fun htw => ?_
    simp only [List.cons_append, List.nil_append] at N9
    walk_at "steps"
    refine back _ _ _ _ _ F9 N9 (fun F N ap9 ht => ?_)
    exact ret1 hg _ _ _ _ ht F (ret_new N) (fun p hp => ap9 p hp (_, _) (by k_mem))
  · walk_at "steps"
    refine back _ _ _ _ _ (by assumption) (by assumption) (fun F N ap9 ht => ?_)
    exact ret2 _ _ hg _ _ ht F N
end
section
theorem wTop_TK : True ∧ True := by
  w_top off
  (try (walk1; fail))
  exact ⟨trivial, trivial⟩
/-- the alphabet's first eight letters -/
noncomputable def abc : List Nat := [97, 98, 99, 100, 101, 102, 103, 104]
theorem abc_len : abc.length = 8 := rfl
theorem abc_lit : Str.ofString "abcdefgh" = S abc := by decide +kernel
theorem abc_slice {k : Nat} (h : k ≤ 8) : Txt.slice (Str.ofString "abcdefgh") none (some (k : Int)) = S (abc.take k) := by
  rw [abc_lit, slice_to (by rw [abc_len]; omega)]; simp
theorem getS {ls : List (List Nat)} {i : Nat} (h : i < ls.length) : (ls.map S).getD ((i : Int)).toNat Str.empty = S ls[i] := by
  simp [List.getD, List.getElem?_eq_getElem h]
theorem getLow {ms : List (List Nat)} {i : Nat} (h : i < ms.length) : ((ms.map low).map S).getD ((i : Int)).toNat Str.empty = S (low ms[i]) := by
  rw [getS (by simpa using h), List.getElem_map]
theorem abc_ok {k : Nat} : ∀ c ∈ abc.take k, ok c := fun c hc => (by decide : ∀ c ∈ abc, 32 ≤ c ∧ c < 127) c (List.mem_of_mem_take hc)
theorem ne_texts {prog : Program} {w : World} {A : Around} {E : Value → Shared → Prop} {s : Shared} {x y : Str} {t u : Tok} {Q : Value → Shared → Prop} (e : x = y) (h : Q (.bool false) s) : wpAny (model prog w) A (compareOp .NotEq (.str x t) (.str y u)) Q E s := by
  subst e
  refine PySem.P.ne_str ?_
  rw [show (x.cps.toList != x.cps.toList) = false by simp]
  exact h
local macro_rules | `(tactic| walk_at "compareOp NotEq str str") => `(tactic| (refine ne_texts ‹_› ?_))
theorem book_front {h₀ h : Heap} {L : Addr} {P led : List (Addr × Obj)} {a b c d : Addr × Obj} (N : News h₀ L h (P ++ (a :: b :: c :: d :: led))) : ∃ GL, GL = P ++ (a :: b :: c :: d :: led) ∧ News h₀ L h (a :: b :: c :: d :: GL) :=
  ⟨_, rfl, News.sub N (sub_cons (List.mem_append_right _ (.head _)) (sub_cons (List.mem_append_right _ (.tail _ (.head _))) (sub_cons (List.mem_append_right _ (.tail _ (.tail _ (.head _)))) (sub_cons (List.mem_append_right _ (.tail _ (.tail _ (.tail _ (.head _))))) sub_self))))⟩
set_option maxHeartbeats 2000000 in
theorem turn_book {f : Addr} {cd : Value} {led : List (Addr × Obj)} {oM oS : Obj} {ml D x dx hl : Addr} {vs ys : List Value} {ms : List (List Nat)} {rs : List Rw} {n nm i : Nat} {t0 tt : Tok} {rest : List Stmt} {Qb : Flow → Shared → Prop} (F : Fr h₀ L s.heap m)
  (N : News h₀ L s.heap ((hdLed w x dx hl t0 (refL rs) n ++ rowL rs) ++ ((ml, lst vs nm) :: (D, LCg.lst ys) :: (L + 2, oM) :: (L + 4, oS) :: led)))
  (hap : Apart (hdLed w x dx hl t0 (refL rs) n ++ rowL rs) ((ml, lst vs nm) :: (D, LCg.lst ys) :: (L + 2, oM) :: (L + 4, oS) :: led))
  (X : (KF w.params).In h₀) (T : Top p loose mean mg mb h₀) (r : Room A 15 150) (ht : 0 < s.toks) (hd2 : oM.data = .cell (some (.ref ml))) (hd4 : oS.data = .cell (some (.ref D)))
  (h1 : m "book" = some (.ref x)) (h2 : m "turn" = some (.int (i : Int) tt)) (hv : StrsAre vs (ms.map S)) (hy : StrsAre ys ((ms.map low).map S)) (hi : i < ms.length) (hz : ms.length ≤ 9) (hok : ∀ l ∈ ms, (∀ c ∈ l, ok c) ∧ l.length ≤ 100)
  (okr : ∀ r ∈ rs, (∀ c ∈ r.k, ok c) ∧ r.k.length ≤ 100) (hrs : rs.length ≤ 100)
  (g1 : getV rs ms[i] = .none → (ms.map low).idxOf (low ms[i]) = i) (g2 : ∀ y ty, getV rs ms[i] = .str (S y) ty → y = abc.take ((ms.map low).idxOf (low ms[i])))
  (ret1 : getV rs ms[i] = .none → ∀ a tn tv n' h' tk', Fr h₀ L h' m → News h₀ L h' ((hdLed w x dx hl t0 (refL (rs ++ [⟨a, ms[i], abc.take i, tn, tv⟩])) n' ++ rowL (rs ++ [⟨a, ms[i], abc.take i, tn, tv⟩])) ++ ((ml, lst vs nm) :: (D, LCg.lst ys) :: (L + 2, oM) :: (L + 4, oS) :: led)) → (∀ p ∈ (ml, lst vs nm) :: (D, LCg.lst ys) :: (L + 2, oM) :: (L + 4, oS) :: led, p.1 ≠ a) → s.toks ≤ tk' → wpAny (model prg w) A (execs rest (lawEnv L f cd)) Qb (fun _ _ => False) { s with heap := h', toks := tk' })
  (ret2 : getV rs ms[i] ≠ .none → ∀ h' tk', Fr h₀ L h' m → News h₀ L h' ((hdLed w x dx hl t0 (refL rs) n ++ rowL rs) ++ ((ml, lst vs nm) :: (D, LCg.lst ys) :: (L + 2, oM) :: (L + 4, oS) :: led)) → s.toks ≤ tk' → wpAny (model prg w) A (execs rest (lawEnv L f cd)) Qb (fun _ _ => False) { s with heap := h', toks := tk' }) :
  wpAny (model prg w) A (execs (turnS 15 :: rest) (lawEnv L f cd)) Qb (fun _ _ => False) s := by
  rw [show turnS 15 = Stmt.If _ _ _ _ from rfl]
  unfold lawEnv at ret1 ret2 ⊢
  conv in lawScope => (whnf; dsimp only)
  obtain ⟨hA, dp, fr, gd, un⟩ := A
  obtain rfl : hA = none := r.hh
  obtain ⟨FL, hFL⟩ : ∃ FL, FL = (hdLed w x dx hl t0 (refL rs) n ++ rowL rs) ++ ((ml, lst vs nm) :: (D, LCg.lst ys) :: (L + 2, oM) :: (L + 4, oS) :: led) := ⟨_, rfl⟩
  rw [← hFL] at N
  replace N : News h₀ L s.heap ((ml, lst vs nm) :: (D, LCg.lst ys) :: (L + 2, oM) :: (L + 4, oS) :: (x, instObj 250 dx) :: (dx, hdDict w t0 hl) :: FL) := News.sub N (sub_cons (by rw [hFL]; exact List.mem_append_right _ (.head _)) (sub_cons (by rw [hFL]; exact List.mem_append_right _ (.tail _ (.head _))) (sub_cons (by rw [hFL]; exact List.mem_append_right _ (.tail _ (.tail _ (.head _)))) (sub_cons (by rw [hFL]; exact List.mem_append_right _ (.tail _ (.tail _ (.tail _ (.head _))))) (sub_cons (by rw [hFL]; exact List.mem_append_left _ (List.mem_append_left _ (.head _))) (sub_cons (by rw [hFL]; exact List.mem_append_left _ (List.mem_append_left _ (.tail _ (.head _)))) sub_self))))))
  have hix : (ms.map low).idxOf (low ms[i]) < ms.length := by have := List.idxOf_lt_length_of_mem (List.mem_map.mpr ⟨_, List.getElem_mem hi, rfl⟩ : low ms[i] ∈ ms.map low); simpa using this
  have hms := strs_txt hv hi
  have hys := strs_txt hy (i := i) (by simpa using hi)
  walk_at "steps"
  have ea := getS hi
  have eb := abc_slice (k := i) (by omega)
  rw [ea, eb]
  have F9 := (by assumption : Fr h₀ L _ _)
  have N9 := (by assumption : News h₀ L _ (_ :: _ :: _ :: _ :: _ :: _ :: FL))
  have N8 := News.sub N9 (fun p hp => List.mem_cons_of_mem _ (List.mem_cons_of_mem _ (List.mem_cons_of_mem _ (List.mem_cons_of_mem _ (List.mem_cons_of_mem _ (List.mem_cons_of_mem _ hp))))) : ∀ p ∈ FL, p ∈ _)
  rw [hFL] at N8
  refine setdefault_spec F9 N8 hap X T (Room.less r (by omega) (by omega)) (by (try dsimp only); omega) (hok _ (List.getElem_mem hi)).1 abc_ok (hok _ (List.getElem_mem hi)).2 (by rw [List.length_take, abc_len]; omega) okr hrs ?_ ?_
  · intro hg a n' h' tk' htk F2 N2 ha
    obtain ⟨GL, hGL, N3⟩ := book_front N2
    clear N9 N8 F9 N2
    dsimp only
    walk_at "steps"
    rw [getLow hi]
    have hcmp : S (abc.take i) = Txt.slice (Str.ofString "abcdefgh") none (some (((ms.map low).idxOf (low ms[i]) : Nat) : Int)) := by rw [g1 hg, eb]
    have N7 := (by assumption : News h₀ L _ (_ :: _ :: _ :: _ :: GL))
    refine index_strs (N7.get (by k_mem)) hy (List.mem_map.mpr ⟨_, List.getElem_mem hi, rfl⟩) (by rw [List.length_map]; omega) ?_
    walk_at "steps"
    have N6 := (by assumption : News h₀ L _ (_ :: _ :: _ :: _ :: GL))
    have N5 := News.sub N6 (fun p hp => List.mem_cons_of_mem _ (List.mem_cons_of_mem _ (List.mem_cons_of_mem _ (List.mem_cons_of_mem _ hp))) : ∀ p ∈ GL, p ∈ _)
    rw [hGL] at N5
    have F5 := (by assumption : Fr h₀ L _ _)
    exact ret1 hg _ _ _ _ _ _ F5 N5 ha (by (try dsimp only); omega)
  · intro y ty hg h' tk' htk F2 N2
    obtain ⟨GL, hGL, N3⟩ := book_front N2
    clear N9 N8 F9 N2
    dsimp only
    walk_at "steps"
    rw [getLow hi]
    have hcmp : S y = Txt.slice (Str.ofString "abcdefgh") none (some (((ms.map low).idxOf (low ms[i]) : Nat) : Int)) := by rw [g2 y ty hg, abc_slice (by omega)]
    have N7 := (by assumption : News h₀ L _ (_ :: _ :: _ :: _ :: GL))
    refine index_strs (N7.get (by k_mem)) hy (List.mem_map.mpr ⟨_, List.getElem_mem hi, rfl⟩) (by rw [List.length_map]; omega) ?_
    walk_at "steps"
    have N6 := (by assumption : News h₀ L _ (_ :: _ :: _ :: _ :: GL))
    have N5 := News.sub N6 (fun p hp => List.mem_cons_of_mem _ (List.mem_cons_of_mem _ (List.mem_cons_of_mem _ (List.mem_cons_of_mem _ hp))) : ∀ p ∈ GL, p ∈ _)
    rw [hGL] at N5
    have F5 := (by assumption : Fr h₀ L _ _)
    exact ret2 (by rw [hg]; intro e; cases e) _ _ F5 N5 (by (try dsimp only); omega)
end
section
theorem wTop_Bok : True ∧ True := by
  w_top off
  (try (walk1; fail))
  exact ⟨trivial, trivial⟩
/-- the places of those that come for the first time -/
noncomputable def fst1 (xs : List (List Nat)) : List Nat := (List.range xs.length).filter fun k => decide (xs.idxOf (xs.getD k []) = k)
theorem mem_fst1 {xs : List (List Nat)} {k : Nat} : k ∈ fst1 xs ↔ k < xs.length ∧ xs.idxOf (xs.getD k []) = k := by
  simp [fst1]
theorem getD_mem {xs : List (List Nat)} {k : Nat} (h : k < xs.length) : xs.getD k [] ∈ xs := by
  rw [List.getD_eq_getElem?_getD, List.getElem?_eq_getElem h]; exact List.getElem_mem h
theorem getD_idx {xs : List (List Nat)} {x : List Nat} (h : x ∈ xs) : xs.getD (xs.idxOf x) [] = x := by
  have hl := List.idxOf_lt_length_of_mem h
  rw [List.getD_eq_getElem?_getD, List.getElem?_eq_getElem hl]
  exact List.getElem_idxOf hl
theorem fst1_snoc (xs : List (List Nat)) (x : List Nat) : fst1 (xs ++ [x]) = fst1 xs ++ (if x ∈ xs then [] else [xs.length]) := by
  unfold fst1
  rw [List.length_append, List.length_singleton, List.range_succ, List.filter_append]
  congr 1
  · apply List.filter_congr
    intro k hk
    have hk' : k < xs.length := List.mem_range.mp hk
    have e : (xs ++ [x]).getD k [] = xs.getD k [] := by
      rw [List.getD_eq_getElem?_getD, List.getD_eq_getElem?_getD, List.getElem?_append_left hk']
    rw [e, List.idxOf_append, if_pos (getD_mem hk')]
  · have e : (xs ++ [x]).getD xs.length [] = x := by simp [List.getD]
    by_cases h : x ∈ xs
    · have := List.idxOf_lt_length_of_mem h
      simp only [List.filter_cons, List.filter_nil, e, List.idxOf_append, if_pos h]
      rw [if_neg]
      simp; omega
    · simp only [List.filter_cons, List.filter_nil, e, List.idxOf_append, if_neg h]
      rw [if_pos]
      simp
theorem low_getD (ms : List (List Nat)) (k : Nat) : (ms.map low).getD k [] = low (ms.getD k []) := by
  rw [List.getD_eq_getElem?_getD, List.getD_eq_getElem?_getD, List.getElem?_map]
  cases ms[k]? <;> rfl
/-- the table's rows are the first ones, as they were laid -/
noncomputable def RowsOk (rs : List Rw) (ms : List (List Nat)) : Prop := rs.map (fun r => (r.k, r.v)) = (fst1 (ms.map low)).map fun k => (ms.getD k [], abc.take k)
theorem RowsOk.nil : RowsOk [] [] := rfl
theorem RowsOk.row {rs : List Rw} {ms : List (List Nat)} (h : RowsOk rs ms) {r : Rw} (hr : r ∈ rs) : ∃ k, k < ms.length ∧ (ms.map low).idxOf (low r.k) = k ∧ low r.k ∈ ms.map low ∧ r.v = abc.take k ∧ r.k = ms.getD k [] := by
  have h1 : (r.k, r.v) ∈ rs.map (fun r => (r.k, r.v)) := List.mem_map.mpr ⟨r, hr, rfl⟩
  rw [h] at h1
  obtain ⟨k, hk, e⟩ := List.mem_map.mp h1
  obtain ⟨e1, e2⟩ := Prod.mk.inj e
  obtain ⟨h2, h3⟩ := mem_fst1.mp hk
  have h4 : (ms.map low).getD k [] = low r.k := by rw [low_getD, e1]
  rw [h4] at h3
  refine ⟨k, by simpa using h2, h3, ?_, e2.symm, e1.symm⟩
  rw [← h4]; exact getD_mem h2
theorem getV_none {rs : List Rw} {l : List Nat} (h : getV rs l = .none) : ∀ r ∈ rs, low r.k ≠ low l := by
  unfold getV at h
  cases e : rs.find? (fun r => decide (low r.k = low l)) with
  | some r => rw [e] at h; cases h
  | none =>
    intro r hr
    have := List.find?_eq_none.mp e r hr
    simpa using this
theorem getV_some {rs : List Rw} {l : List Nat} (h : getV rs l ≠ .none) : ∃ r ∈ rs, low r.k = low l ∧ getV rs l = .str (S r.v) r.tv := by
  unfold getV at h ⊢
  cases e : rs.find? (fun r => decide (low r.k = low l)) with
  | none => rw [e] at h; exact absurd rfl h
  | some r =>
    have h1 := List.mem_of_find?_eq_some e
    have h2 := List.find?_some e
    exact ⟨r, h1, by simpa using h2, rfl⟩
theorem S_inj {a b : List Nat} (h : S a = S b) : a = b := by
  have h1 : (S a).cps.toList = (S b).cps.toList := by rw [h]
  rwa [S_toList, S_toList] at h1
theorem rows_new {rs : List Rw} {ms : List (List Nat)} {l : List Nat} (h : RowsOk rs ms) (hv : getV rs l = .none) : low l ∉ ms.map low := by
  intro hm
  have hl := List.idxOf_lt_length_of_mem hm
  have h1 : (ms.map low).idxOf (low l) ∈ fst1 (ms.map low) := mem_fst1.mpr ⟨hl, by rw [getD_idx hm]⟩
  have h2 : (ms.getD ((ms.map low).idxOf (low l)) [], abc.take ((ms.map low).idxOf (low l))) ∈ rs.map (fun r => (r.k, r.v)) := by
    rw [h]; exact List.mem_map.mpr ⟨_, h1, rfl⟩
  obtain ⟨r, hr, e⟩ := List.mem_map.mp h2
  have e1 := (Prod.mk.inj e).1
  refine getV_none hv r hr ?_
  rw [e1, ← low_getD, getD_idx hm]
theorem rows_old {rs : List Rw} {ms : List (List Nat)} {l : List Nat} (h : RowsOk rs ms) (hv : getV rs l ≠ .none) : low l ∈ ms.map low := by
  obtain ⟨r, hr, e, _⟩ := getV_some hv
  obtain ⟨k, _, _, h3, _⟩ := h.row hr
  rw [← e]; exact h3
theorem rows_g1 {rs : List Rw} {ms : List (List Nat)} {l : List Nat} (h : RowsOk rs ms) (hv : getV rs l = .none) : ((ms ++ [l]).map low).idxOf (low l) = ms.length := by
  have h1 := rows_new h hv
  rw [List.map_append, List.idxOf_append, if_neg h1]
  simp
theorem rows_g2 {rs : List Rw} {ms : List (List Nat)} {l y : List Nat} {ty : Tok} (h : RowsOk rs ms) (hv : getV rs l = .str (S y) ty) : y = abc.take (((ms ++ [l]).map low).idxOf (low l)) := by
  obtain ⟨r, hr, e, e2⟩ := getV_some (rs := rs) (l := l) (by rw [hv]; intro q; cases q)
  obtain ⟨k, _, h2, h3, h4, _⟩ := h.row hr
  rw [hv] at e2
  rw [e] at h2 h3
  rw [List.map_append, List.idxOf_append, if_pos h3, h2, ← h4]
  exact S_inj (Value.str.inj e2).1
theorem getD_app {ms : List (List Nat)} {l : List Nat} {k : Nat} (h : k < ms.length) : (ms ++ [l]).getD k [] = ms.getD k [] := by
  rw [List.getD_eq_getElem?_getD, List.getD_eq_getElem?_getD, List.getElem?_append_left h]
theorem rows_map {ms : List (List Nat)} {l : List Nat} : ((fst1 (ms.map low)).map fun k => ((ms ++ [l]).getD k [], abc.take k)) = (fst1 (ms.map low)).map fun k => (ms.getD k [], abc.take k) := by
  apply List.map_congr_left
  intro k hk
  have := (mem_fst1.mp hk).1
  rw [getD_app (by simpa using this)]
theorem rows_ret1 {rs : List Rw} {ms : List (List Nat)} {l : List Nat} {a : Addr} {tn tv : Tok} (h : RowsOk rs ms) (hv : getV rs l = .none) : RowsOk (rs ++ [⟨a, l, abc.take ms.length, tn, tv⟩]) (ms ++ [l]) := by
  have h1 := rows_new h hv
  unfold RowsOk
  have e1 : (ms ++ [l]).map low = ms.map low ++ [low l] := by simp
  rw [List.map_append, h, e1, fst1_snoc, if_neg h1, List.map_append, rows_map, List.length_map]
  simp [List.getD]
theorem rows_ret2 {rs : List Rw} {ms : List (List Nat)} {l : List Nat} (h : RowsOk rs ms) (hv : getV rs l ≠ .none) : RowsOk rs (ms ++ [l]) := by
  have h1 := rows_old h hv
  unfold RowsOk
  have e1 : (ms ++ [l]).map low = ms.map low ++ [low l] := by simp
  rw [h, e1, fst1_snoc, if_pos h1, List.append_nil, rows_map]
theorem rows_len {rs : List Rw} {ms : List (List Nat)} (h : RowsOk rs ms) : rs.length ≤ ms.length := by
  have e := congrArg List.length h
  rw [List.length_map, List.length_map] at e
  rw [e, fst1]
  refine Nat.le_trans (List.length_filter_le _ _) ?_
  simp
theorem rows_key {rs : List Rw} {ms : List (List Nat)} {P : List Nat → Prop} (h : RowsOk rs ms) (hm : ∀ l ∈ ms, P l) : ∀ r ∈ rs, P r.k := by
  intro r hr
  obtain ⟨k, hk, _, _, _, e⟩ := h.row hr
  rw [e, List.getD_eq_getElem?_getD, List.getElem?_eq_getElem hk]
  exact hm _ (List.getElem_mem hk)
end
section
theorem wTop_TI : True ∧ True := by
  w_top off
  (try (walk1; fail))
  exact ⟨trivial, trivial⟩
/-- the word of a number as the second table has it -/
noncomputable def metN (i : Nat) (z : Int) : List Nat := if i % 2 = 1 then low (apL z.natAbs) else apL z.natAbs
theorem word_strip {z : Int} {mk : Nat} (hk : isMark mk) : rep1 mk [] (wordL z mk) = apL z.natAbs := by
  have h1 : mk ∉ apL z.natAbs := fun h => by have := apL_mem _ _ h; have := hk.off; omega
  unfold wordL
  split
  · show (if mk = mk then [] else [mk]) ++ rep1 mk [] (apL z.natAbs) = _
    rw [if_pos rfl, rep1_free' h1]; rfl
  · exact rep1_free' h1
theorem strip_word {prog : Program} {w : World} {A : Around} {E : Value → Shared → Prop} {s : Shared} {z : Int} {mk : Nat} {t u v : Tok} {Q : Value → Shared → Prop} (hk : isMark mk) (hz : z.natAbs < 16 ^ 7) (hu : u ≠ 0) (hv : v ≠ 0) (huv : u ≠ v) (h : ∀ t' k, s.toks ≤ k → Q (.str (S (apL z.natAbs)) t') { s with toks := k }) :
    wpAny (model prog w) A (call (.builtin "str.replace") [.str (S (wordL z mk)) t, .str (S [mk]) u, .str (Str.ofString "") v]) Q E s := by
  have := word_len (mk := mk) hz
  refine replaceM hu hv huv (by rw [lit_nil, S_beq]; rfl) ?_ fun t' k ht => ?_
  · rw [lit_nil, S_length, S_length]; simp; omega
  · rw [lit_nil, replace1S, word_strip hk]; exact h t' k ht
theorem ap_lt (n : Nat) : ∀ c ∈ apL n, c < 128 := fun c hc => Nat.lt_of_le_of_lt (apL_mem _ _ hc).2 (by decide)
theorem met_a {i : Nat} {z : Int} {t : Tok} (h : ((i : Int).fmod 2 == 1) = true) : Value.str (S (low (apL z.natAbs))) t = .str (S (metN i z)) t := by
  have := eq_of_beq h
  rw [Int.fmod_eq_emod_of_nonneg _ (by decide)] at this
  rw [metN, if_pos (by omega)]
theorem met_b {i : Nat} {z : Int} {t : Tok} (h : ¬ ((i : Int).fmod 2 == 1) = true) : Value.str (S (apL z.natAbs)) t = .str (S (metN i z)) t := by
  have : ¬ (i : Int).fmod 2 = 1 := by simpa using h
  rw [Int.fmod_eq_emod_of_nonneg _ (by decide)] at this
  rw [metN, if_neg (by omega)]
local macro_rules | `(tactic| walk_at "call builtin:str.replace") => `(tactic| (refine strip_word ‹_› ‹_› (by walk_at "ne") (by walk_at "ne") (by walk_at "ne") ?_; intro t9 k9 ht9; try dsimp only))
local macro_rules | `(tactic| walk_at "call builtin:str.lower") => `(tactic| (refine lowerM (ap_lt _) (by omega) ?_; try dsimp only))
set_option maxHeartbeats 2000000 in
theorem turn_met {f : Addr} {cd : Value} {led : List (Addr × Obj)} {oM : Obj} {ml : Addr} {vs : List Value} {n i : Nat} {z : Int} {mk : Nat} {tw tm tt : Tok} {Qb : Flow → Shared → Prop} (F : Fr h₀ L s.heap m) (N : News h₀ L s.heap ((ml, lst vs n) :: (L + 2, oM) :: led)) (hap : ∀ p ∈ (L + 2, oM) :: led, p.1 ≠ ml) (hd2 : oM.data = .cell (some (.ref ml)))
  (X : (KF w.params).In h₀) (T : Top p loose mean mg mb h₀) (r : Room A 15 150) (ht : 0 < s.toks) (h1 : m "word" = some (.str (S (wordL z mk)) tw)) (h2 : m "mark" = some (.str (S [mk]) tm)) (h3 : m "turn" = some (.int (i : Int) tt)) (hk : isMark mk) (hm0 : @LT.lt Nat _ 0 tm) (hm1 : @LT.lt Nat _ tm s.toks) (hz : z.natAbs < 16 ^ 7) (hv : vs.length ≤ 100)
  (ret : ∀ t h' tk', Fr h₀ L h' m → News h₀ L h' ((ml, lst (vs ++ [.str (S (metN i z)) t]) (n + 1)) :: (L + 2, oM) :: led) → Qb .next { s with heap := h', toks := tk' }) :
  wpAny (model prg w) A (exec (turnS 13) (lawEnv L f cd)) Qb (fun _ _ => False) s := by
  obtain ⟨hA, dp, fr, gd, un⟩ := A
  obtain rfl : hA = none := r.hh
  rw [show turnS 13 = Stmt.Expr _ _ from rfl]
  unfold lawEnv
  conv in lawScope => (whnf; dsimp only)
  have hlen := apL_len 7 z.natAbs hz
  walk_at "steps"
  · rw [met_a (by assumption)]
    refine append_led (by assumption) (by assumption) hap (by omega) (fun h9 F9 N9 => ?_)
    refine Wt.intro fun htw => ?_
    walk_at "steps"
    exact ret _ _ _ F9 N9
  · rw [met_b (by assumption)]
    refine append_led (by assumption) (by assumption) hap (by omega) (fun h9 F9 N9 => ?_)
    refine Wt.intro fun htw => ?_
    walk_at "steps"
    exact ret _ _ _ F9 N9
end
section
theorem wTop_TJ : True ∧ True := by
  w_top off
  (try (walk1; fail))
  exact ⟨trivial, trivial⟩
noncomputable def sizesElt : Expr := match turnS 14 with
  | .Assign _ (.ListComp e _ _ _) _ => e
  | _ => .Name (Str.ofString "") ⟨0, 0, 0, 0⟩
noncomputable def sizesScope : Scope := match turnS 14 with
  | .Assign _ (.ListComp _ _ sc _) _ => sc
  | _ => default
local macro_rules | `(tactic| walk_at "call builtin:str.lower") => `(tactic| (refine lowerM ‹_› ‹_› ?_; try dsimp only))
set_option maxHeartbeats 2000000 in
theorem sizes_elt {f C I D : Addr} {cd : Value} {oI oC : Obj} {ys : List Value} {m2 : Str → Option Value} {news : List (Addr × Obj)} {l : List Nat} {t : Tok} {S' : List (Addr × Obj) → Prop} {rest : Value → List (Addr × Obj) → Prop} {E : Value → Shared → Prop} (F : Fr h₀ L s.heap m) (N : News h₀ L s.heap ((I, oI) :: (C, oC) :: (D, LCg.lst ys) :: news)) (off : LCg.Off3 I C D news) (hC : LCg.NsObj oC m2) (h1 : m2 (Str.ofString "name") = some (.str (S l) t)) (hS : S' news)
  (X : (KF w.params).In h₀) (T : Top p loose mean mg mb h₀) (hl : ∀ c ∈ l, c < 128) (hz : l.length ≤ 100000) (hA : A.handled = none)
  (ret : ∀ t', rest (.str (S (low l)) t') news) :
  wpAny (model prg w) A (eval sizesElt (compEnvC sizesScope [] C (lawEnv L f cd))) (LCg.CompEnd h₀ L m s I oI C oC D (LCg.lst ys) S' rest) E s := by
  obtain ⟨hA', dp, fr, gd, un⟩ := A
  obtain rfl : hA' = none := hA
  rw [show sizesElt = Expr.Call _ _ _ _ from rfl]
  unfold lawEnv
  conv in lawScope => (whnf; dsimp only)
  conv in sizesScope => (whnf; dsimp only)
  walk_at "steps"
  exact LCg.CompEnd.intro F N news (fun p hp => hp) off hS (ret _)
theorem strs_get {vs : List Value} {ys : List Str} (h : StrsAre vs ys) : ∀ (i : Nat) (v : Value), vs[i]? = some v → ∃ (y : Str) (t : Tok), ys[i]? = some y ∧ v = Value.str y t := by
  induction h with
  | nil => intro i v hv; simp at hv
  | cons y t _ ih =>
    intro i v hv
    cases i with
    | zero => cases hv; exact ⟨y, t, rfl, rfl⟩
    | succ i => exact ih i v (by simpa using hv)
theorem sizes_rest {f : Addr} {cd : Value} {s₀ : Shared} {vs : List Value} {ms : List (List Nat)} {news : List (Addr × Obj)} {S' : List (Addr × Obj) → Prop} {Fin : List Value → List (Addr × Obj) → Prop} (hS : S' news) (hv : StrsAre vs (ms.map S))
  (X : (KF w.params).In h₀) (T : Top p loose mean mg mb h₀) (hA : A.handled = none) (hm : ∀ l ∈ ms, (∀ c ∈ l, c < 128) ∧ l.length ≤ 100000) (hF : ∀ ys, StrsAre ys ((ms.map low).map S) → Fin ys news) :
    ∀ (k i : Nat) (ys : List Value), i + k = ms.length → StrsAre ys (((ms.map low).take i).map S) → LCg.CompRest prg w A h₀ L m (lawEnv L f cd) sizesElt (Str.ofString "name") sizesScope [] s₀ S' (fun i v => vs.toArray[i]? = some v) Fin k i ys news
  | 0, i, ys, hk, hy => by
    refine LCg.CompRest.zero (hF ys ?_)
    rw [List.take_of_length_le (by simp; omega)] at hy
    exact hy
  | k + 1, i, ys, hk, hy => by
    refine LCg.CompRest.succ ?_
    intro v I oI C oC D m2 h tk E' hP hC hx F N off ne
    have hP' : vs[i]? = some v := by simpa using hP
    obtain ⟨y, t, hy1, rfl⟩ := strs_get hv i v hP'
    rw [List.getElem?_map] at hy1
    have hi : i < ms.length := by omega
    rw [List.getElem?_eq_getElem hi] at hy1
    obtain rfl : S ms[i] = y := by simpa using hy1
    have hmi := hm ms[i] (List.getElem_mem hi)
    refine sizes_elt F N off hC hx hS X T hmi.1 hmi.2 hA (fun t' => ?_)
    refine sizes_rest hS hv X T hA hm hF k (i + 1) _ (by omega) ?_
    rw [List.take_succ_eq_append_getElem (by simpa using hi), List.map_append]
    have := strs_snoc (x := S (low ms[i])) (t := t') hy
    simpa using this
/-- what reading met comes to -/
noncomputable def MetR (h₀ : Heap) (L : Addr) (m : Str → Option Value) (news : List (Addr × Obj)) (s : Shared) (ml : Addr) (v : Value) (s' : Shared) : Prop :=
  ∃ h' k, v = .ref ml ∧ s' = { s with heap := h', toks := k } ∧ Fr h₀ L h' m ∧ News h₀ L h' news
set_option maxHeartbeats 2000000 in
theorem turn_sizes {f : Addr} {cd : Value} {led : List (Addr × Obj)} {oM oS : Obj} {ml : Addr} {vs : List Value} {ms : List (List Nat)} {n : Nat} {v₀ : Option Value} {Qb : Flow → Shared → Prop} (F : Fr h₀ L s.heap m) (N : News h₀ L s.heap ((ml, lst vs n) :: (L + 2, oM) :: (L + 4, oS) :: led)) (hap : ∀ p ∈ led, p.1 ≠ L + 4) (hml : ml ≠ L + 4) (hd2 : oM.data = .cell (some (.ref ml))) (hd4 : oS.data = .cell v₀)
  (X : (KF w.params).In h₀) (T : Top p loose mean mg mb h₀) (r : Room A 15 150) (hv : StrsAre vs (ms.map S)) (hm : ∀ l ∈ ms, (∀ c ∈ l, c < 128) ∧ l.length ≤ 100000) (hz : ms.length ≤ 100)
  (ret : ∀ D ys oS' h' tk', StrsAre ys ((ms.map low).map S) → oS'.data = .cell (some (.ref D)) → Fr h₀ L h' m → News h₀ L h' ((D, LCg.lst ys) :: (ml, lst vs n) :: (L + 2, oM) :: (L + 4, oS') :: led) → (∀ p ∈ (ml, lst vs n) :: (L + 2, oM) :: (L + 4, oS') :: led, p.1 ≠ D) → Qb .next { s with heap := h', toks := tk' }) :
  wpAny (model prg w) A (exec (turnS 14) (lawEnv L f cd)) Qb (fun _ _ => False) s := by
  obtain ⟨hA, dp, fr, gd, un⟩ := A
  obtain rfl : hA = none := r.hh
  have hlen : vs.length = ms.length := by
    have := strs_len hv; simpa using this
  rw [show turnS 14 = Stmt.Assign _ _ _ from rfl]
  unfold lawEnv
  conv in lawScope => (whnf; dsimp only)
  refine wpAny_Assign_Name ?_
  refine LCg.ListComp_U (cl := []) F ?a1 ?a2 ?a3 ?a4 ?a5 ?_
  case a1 => rfl
  case a2 => decide
  case a3 => rfl
  case a4 => decide
  case a5 => rfl
  refine wp_cut (MetR h₀ L m ((ml, lst vs n) :: (L + 2, oM) :: (L + 4, oS) :: led) s ml) ?_ ?_
  · walk_at "steps"
    exact ⟨_, _, rfl, rfl, by assumption, by assumption⟩
  · rintro _ _ ⟨h9, k9, rfl, rfl, F9, N9⟩
    refine LCg.CompSrc.ledger (its := vs.toArray) (k := n) rfl F9 N9 (.head _) (by rw [List.size_toArray, hlen]; exact Nat.le_trans hz (by decide)) ?_
    intro g
    have hS : LCg.SrcAt h₀ ml vs.toArray ((ml, lst vs n) :: (L + 2, oM) :: (L + 4, oS) :: led) := .inr ⟨_, .head _, rfl, _, rfl⟩
    rw [show vs.toArray.size = ms.length by rw [List.size_toArray, hlen]]
    refine sizes_rest (ms := ms) hS hv X T rfl hm (fun ys hy => ?_) ms.length 0 [] (Nat.zero_add _) (by rw [List.take_zero]; exact .nil)
    intro D h8 tk8 F8 N8 off8
    have hoff := off1_mem off8
    refine stCN (c := L + 4) (own := [(D, LCg.lst ys), (ml, lst vs n), (L + 2, oM)]) (rest := led) F8 N8 (by rfl) hd4 ?_ hap (fun h3 oS' F3 N3 e3 => ?_)
    · intro p hp
      simp only [List.mem_cons, List.not_mem_nil, or_false] at hp
      rcases hp with rfl | rfl | rfl
      · exact fun e => hoff (L + 4, oS) (by simp) e.symm
      · exact hml
      · exact fun e => absurd (Nat.add_left_cancel (n := L) (m := 2) (k := 4) e) (by decide)
    · refine ret D ys oS' h3 tk8 hy e3 F3 N3 ?_
      intro p hp
      simp only [List.mem_cons] at hp
      rcases hp with rfl | rfl | rfl | hp
      · exact hoff _ (by simp)
      · exact hoff (L + 2, oM) (by simp)
      · exact hoff (L + 4, oS) (by simp)
      · exact hoff _ (by simp [hp])
end
section
theorem wTop_TN : True ∧ True := by
  w_top off
  (try (walk1; fail))
  exact ⟨trivial, trivial⟩
noncomputable abbrev bookLed (w : World) (x dx hl : Addr) (t0 : Tok) (rs : List Rw) (n : Nat) : List (Addr × Obj) := hdLed w x dx hl t0 (refL rs) n ++ rowL rs
theorem mv1 {B R : List (Addr × Obj)} {a b c : Addr × Obj} : ∀ q ∈ a :: b :: c :: (B ++ R), q ∈ B ++ (a :: b :: c :: R) := by
  walk_at "subs"
theorem mv2 {B R : List (Addr × Obj)} {a b c d : Addr × Obj} : ∀ q ∈ B ++ (a :: d :: b :: c :: R), q ∈ d :: a :: b :: c :: (B ++ R) := by
  walk_at "subs"
set_option maxHeartbeats 2000000 in
theorem turn_end3 {f : Addr} {cd : Value} {R : List (Addr × Obj)} {oM oS : Obj} {v₀ : Option Value} {ml x dx hl : Addr} {vs : List Value} {ms : List (List Nat)} {rs : List Rw} {n nm i mk : Nat} {z : Int} {t0 tt tw tm : Tok} {rest : List Stmt} {Qb : Flow → Shared → Prop}
  (F : Fr h₀ L s.heap m) (N : News h₀ L s.heap (bookLed w x dx hl t0 rs n ++ ((ml, lst vs nm) :: (L + 2, oM) :: (L + 4, oS) :: R)))
  (apB : Apart (bookLed w x dx hl t0 rs n) ((ml, lst vs nm) :: (L + 2, oM) :: (L + 4, oS) :: R)) (apM : ∀ p ∈ (L + 2, oM) :: (L + 4, oS) :: R, p.1 ≠ ml) (c4 : ∀ p ∈ R, p.1 ≠ L + 4) (hd2 : oM.data = .cell (some (.ref ml))) (hd4 : oS.data = .cell v₀)
  (X : (KF w.params).In h₀) (T : Top p loose mean mg mb h₀) (r : Room A 15 150) (ht : 0 < s.toks) (h1 : m "word" = some (.str (S (wordL z mk)) tw)) (h2 : m "mark" = some (.str (S [mk]) tm)) (h3 : m "turn" = some (.int (i : Int) tt)) (h4 : m "book" = some (.ref x)) (hk : isMark mk) (hm0 : @LT.lt Nat _ 0 tm) (hm1 : @LT.lt Nat _ tm s.toks) (hz : z.natAbs < 16 ^ 7)
  (hv : StrsAre vs (ms.map S)) (hi : ms.length = i) (hi8 : i ≤ 8) (hok : ∀ l ∈ ms, (∀ c ∈ l, ok c) ∧ l.length ≤ 100) (hokz : (∀ c ∈ metN i z, ok c) ∧ (metN i z).length ≤ 100) (hrs : RowsOk rs ms)
  (ret : ∀ rs' n' vs' D ys oS' h' tk', s.toks ≤ tk' → RowsOk rs' (ms ++ [metN i z]) → StrsAre vs' ((ms ++ [metN i z]).map S) → StrsAre ys (((ms ++ [metN i z]).map low).map S) → oS'.data = .cell (some (.ref D)) → Fr h₀ L h' m →
    News h₀ L h' (bookLed w x dx hl t0 rs' n' ++ ((ml, lst vs' (nm + 1)) :: (D, LCg.lst ys) :: (L + 2, oM) :: (L + 4, oS') :: R)) → Apart (bookLed w x dx hl t0 rs' n') ((ml, lst vs' (nm + 1)) :: (L + 2, oM) :: (L + 4, oS') :: R) → Qb .next { s with heap := h', toks := tk' }) :
  wpAny (model prg w) A (execs [turnS 13, turnS 14, turnS 15] (lawEnv L f cd)) Qb (fun _ _ => False) s := by
  have hlen := strs_length hv
  rw [List.length_map] at hlen
  -- 13
  refine wpAny_execs_cons (withT ?_)
  refine turn_met (led := (L + 4, oS) :: (bookLed w x dx hl t0 rs n ++ R)) (n := nm) (vs := vs) F (News.sub N ?s1) ?ap1 hd2 X T r ht h1 h2 h3 hk hm0 hm1 hz (by omega) (fun t hA tkA FA NA => ?_)
  case s1 => exact mv1
  case ap1 =>
    intro q hq
    rcases List.mem_cons.mp hq with rfl | hq
    · exact apM _ (.head _)
    rcases List.mem_cons.mp hq with rfl | hq
    · exact apM _ (.tail _ (.head _))
    rcases List.mem_append.mp hq with hq | hq
    · exact (apB _ (.head _) q hq).symm
    · exact apM _ (.tail _ (.tail _ hq))
  refine Wt.intro fun ht1 => ?_
  dsimp only at ht1 ⊢
  have hv' : StrsAre (vs ++ [.str (S (metN i z)) t]) ((ms ++ [metN i z]).map S) := by
    rw [List.map_append]; exact strs_snoc hv
  have hok' : ∀ l ∈ ms ++ [metN i z], (∀ c ∈ l, ok c) ∧ l.length ≤ 100 := by
    intro l hl
    rcases List.mem_append.mp hl with hl | hl
    · exact hok l hl
    · rw [List.mem_singleton.mp hl]; exact hokz
  -- 14
  refine wpAny_execs_cons (withT ?_)
  refine turn_sizes (s := { s with heap := hA, toks := tkA }) (led := bookLed w x dx hl t0 rs n ++ R) (n := nm + 1) FA NA ?ap2 (fun e => apM _ (.tail _ (.head _)) e.symm) hd2 hd4 X T r hv' (fun l hl => ⟨fun c hc => by have := (hok' l hl).1 c hc; unfold ok at this; omega, by have := (hok' l hl).2; omega⟩) (by simp; omega) (fun D ys oS' hB tkB hy hoS FB NB apD => ?_)
  case ap2 =>
    intro q hq
    rcases List.mem_append.mp hq with hq | hq
    · exact (apB _ (.tail _ (.tail _ (.head _))) q hq).symm
    · exact c4 q hq
  refine Wt.intro fun ht2 => ?_
  dsimp only at ht2 ⊢
  have hi' : i < (ms ++ [metN i z]).length := by simp; omega
  have hget : (ms ++ [metN i z])[i] = metN i z := by subst hi; simp
  have apB2 : Apart (bookLed w x dx hl t0 rs n) ((ml, lst (vs ++ [.str (S (metN i z)) t]) (nm + 1)) :: (D, LCg.lst ys) :: (L + 2, oM) :: (L + 4, oS') :: R) := by
    intro q hq y hy'
    rcases List.mem_cons.mp hq with rfl | hq
    · exact apB _ (.head _) y hy'
    rcases List.mem_cons.mp hq with rfl | hq
    · exact (apD y (List.mem_cons_of_mem _ (List.mem_cons_of_mem _ (List.mem_cons_of_mem _ (List.mem_append_left _ hy'))))).symm
    rcases List.mem_cons.mp hq with rfl | hq
    · exact apB _ (.tail _ (.head _)) y hy'
    rcases List.mem_cons.mp hq with rfl | hq
    · exact apB _ (.tail _ (.tail _ (.head _))) y hy'
    · exact apB _ (.tail _ (.tail _ (.tail _ hq))) y hy'
  -- 15
  have hkeys := rows_key hrs hok
  have hl8 := rows_len hrs
  refine turn_book (s := { s with heap := hB, toks := tkB }) (led := R) (i := i) (ms := ms ++ [metN i z]) (rs := rs) FB (News.sub NB ?s3) apB2 X T r (by show 0 < tkB; omega) hd2 hoS h4 h3 hv' hy hi' (by simp; omega) hok' hkeys (by omega) ?g1 ?g2 (fun hg a tn tv n' hC tkC FC NC apC htC => ?_) (fun hg hC tkC FC NC htC => ?_)
  case s3 => exact mv2
  case g1 =>
    rw [hget]
    intro hg
    rw [rows_g1 hrs hg, hi]
  case g2 =>
    rw [hget]
    intro y ty hg
    exact rows_g2 hrs hg
  · rw [hget] at hg NC
    refine wpAny_execs_nil ?_
    have ro := rows_ret1 (a := a) (tn := tn) (tv := tv) hrs hg
    rw [hi] at ro
    refine ret _ n' _ D ys oS' hC tkC (by dsimp only at htC; omega) ro hv' hy hoS FC NC ?_
    intro q hq y hy'
    have hq2 : q ∈ (ml, lst (vs ++ [.str (S (metN i z)) t]) (nm + 1)) :: (D, LCg.lst ys) :: (L + 2, oM) :: (L + 4, oS') :: R := by
      rcases List.mem_cons.mp hq with rfl | hq
      · exact .head _
      · exact .tail _ (.tail _ hq)
    rcases List.mem_append.mp hy' with hy' | hy'
    · simp only [List.mem_cons, List.not_mem_nil, or_false] at hy'
      rcases hy' with rfl | rfl | rfl
      · exact apB2 q hq2 (x, instObj 250 dx) (List.mem_append_left _ (.head _))
      · exact apB2 q hq2 (dx, hdDict w t0 hl) (List.mem_append_left _ (.tail _ (.head _)))
      · exact apB2 q hq2 (hl, lst (refL rs) n) (List.mem_append_left _ (.tail _ (.tail _ (.head _))))
    · rw [rowL, List.map_append] at hy'
      rcases List.mem_append.mp hy' with hy' | hy'
      · exact apB2 q hq2 y (List.mem_append_right _ hy')
      · obtain rfl := List.mem_singleton.mp hy'
        exact apC q hq2
  · rw [hget] at hg
    refine wpAny_execs_nil ?_
    refine ret rs n _ D ys oS' hC tkC (by dsimp only at htC; omega) (rows_ret2 hrs hg) hv' hy hoS FC NC (fun q hq => ?_)
    rcases List.mem_cons.mp hq with rfl | hq
    · exact apB2 _ (.head _)
    · exact apB2 q (.tail _ (.tail _ hq))
end
section
theorem wTop_TO : True ∧ True := by
  w_top off
  (try (walk1; fail))
  exact ⟨trivial, trivial⟩
/-- what stands at a turn's head -/
structure TD where
  (x dx hl ta tb : Addr)
  (t0 t1 t2 t3 t4 : Tok)
  (n : Nat)
  (bx bdx bhl : Addr)
  (bt : Tok)
  (rs : List Rw)
  (bn : Nat)
  (XB : List (Addr × Obj))
  (ml : Addr)
  (vs : List Value)
  (nm : Nat)
  (oM oL oS : Obj)
noncomputable abbrev TD.H (d : TD) (w : World) (na wa nb wb : List Nat) : List (Addr × Obj) := headLed w d.x d.dx d.hl d.ta d.tb d.t0 d.n na (valL wa) nb (valL wb) d.t1 d.t2 d.t3 d.t4
noncomputable abbrev TD.B (d : TD) (w : World) : List (Addr × Obj) := bookLed w d.bx d.bdx d.bhl d.bt d.rs d.bn
noncomputable abbrev TD.C (d : TD) (L : Addr) : List (Addr × Obj) := [(d.ml, lst d.vs d.nm), (L + 2, d.oM), (L + 3, d.oL), (L + 4, d.oS)]
noncomputable def Cof (L ml : Addr) (A : List (Addr × Obj)) : Prop := ∀ q ∈ A, q.1 ≠ ml ∧ q.1 ≠ L + 2 ∧ q.1 ≠ L + 3 ∧ q.1 ≠ L + 4
structure TInv (w : World) (L : Addr) (d : TD) (KL : List (Addr × Obj)) (na wa nb wb : List Nat) (ms : List (List Nat)) : Prop where
  xb : XBok d.XB
  hB : Apart (d.H w na wa nb wb) (d.B w)
  hX : Apart (d.H w na wa nb wb) d.XB
  hK : Apart (d.H w na wa nb wb) KL
  hC : Cof L d.ml (d.H w na wa nb wb)
  bX : Apart (d.B w) d.XB
  bK : Apart (d.B w) KL
  bC : Cof L d.ml (d.B w)
  xK : Apart d.XB KL
  xC : Cof L d.ml d.XB
  kC : Cof L d.ml KL
  mC : d.ml ≠ L + 2 ∧ d.ml ≠ L + 3 ∧ d.ml ≠ L + 4
  d2 : d.oM.data = .cell (some (.ref d.ml))
  d3 : ∃ v, d.oL.data = .cell v
  d4 : ∃ v, d.oS.data = .cell v
  hv : StrsAre d.vs (ms.map S)
  rows : RowsOk d.rs ms
noncomputable abbrev TD.led (d : TD) (w : World) (L : Addr) (KL : List (Addr × Obj)) (na wa nb wb : List Nat) : List (Addr × Obj) := d.H w na wa nb wb ++ (d.B w ++ (d.XB ++ (d.C L ++ KL)))
theorem L32 {L : Addr} {a b : Nat} (h : a ≠ b) : (L + a : Nat) ≠ L + b := fun e => h (Nat.add_left_cancel e)
theorem mvA {H B X K : List (Addr × Obj)} {a b c d : Addr × Obj} : ∀ q ∈ H ++ (X ++ (c :: (B ++ (a :: b :: d :: K)))), q ∈ H ++ (B ++ (X ++ ([a, b, c, d] ++ K))) := by
  walk_at "subs"
theorem mvB {H B X K : List (Addr × Obj)} {a b c d : Addr × Obj} : ∀ q ∈ B ++ (a :: b :: d :: (H ++ (X ++ (c :: K)))), q ∈ H ++ (X ++ (c :: (B ++ (a :: b :: d :: K)))) :=
  have R : ∀ q ∈ B ++ (a :: b :: d :: K), q ∈ H ++ (X ++ (c :: (B ++ (a :: b :: d :: K)))) := sub_ar (sub_ar (sub_ac sub_self))
  sub_app (fun q h => R q (List.mem_append_left _ h)) (sub_cons (R _ (List.mem_append_right _ (.head _))) (sub_cons (R _ (List.mem_append_right _ (.tail _ (.head _)))) (sub_cons (R _ (List.mem_append_right _ (.tail _ (.tail _ (.head _))))) (sub_app sub_al (sub_app (sub_ar sub_al) (sub_cons (List.mem_append_right _ (List.mem_append_right _ (.head _))) (fun q h => R q (List.mem_append_right _ (.tail _ (.tail _ (.tail _ h)))))))))))
theorem mvC {H B X K : List (Addr × Obj)} {a b c d e : Addr × Obj} : ∀ q ∈ e :: (H ++ (B ++ (X ++ ([a, b, c, d] ++ K)))), q ∈ B ++ (a :: e :: b :: d :: (H ++ (X ++ (c :: K)))) :=
  have R : ∀ q ∈ a :: e :: b :: d :: (H ++ (X ++ (c :: K))), q ∈ B ++ (a :: e :: b :: d :: (H ++ (X ++ (c :: K)))) := sub_ar sub_self
  have R4 : ∀ q ∈ H ++ (X ++ (c :: K)), q ∈ B ++ (a :: e :: b :: d :: (H ++ (X ++ (c :: K)))) := fun q h => R q (.tail _ (.tail _ (.tail _ (.tail _ h))))
  sub_cons (R _ (.tail _ (.head _))) (sub_app (fun q h => R4 q (List.mem_append_left _ h)) (sub_app sub_al (sub_app (fun q h => R4 q (List.mem_append_right _ (List.mem_append_left _ h))) (sub_cons (R _ (.head _)) (sub_cons (R _ (.tail _ (.tail _ (.head _)))) (sub_cons (R4 _ (List.mem_append_right _ (List.mem_append_right _ (.head _)))) (sub_cons (R _ (.tail _ (.tail _ (.tail _ (.head _))))) (fun q h => R4 q (List.mem_append_right _ (List.mem_append_right _ (.tail _ h)))))))))))
theorem turn16 : turnBody = [turnS 0, turnS 1, turnS 2, turnS 3, turnS 4, turnS 5, turnS 6, turnS 7, turnS 8, turnS 9, turnS 10, turnS 11, turnS 12, turnS 13, turnS 14, turnS 15] := by
  kernel_rfl
set_option maxHeartbeats 4000000 in
theorem turn_all {f : Addr} {cd : Value} {KL : List (Addr × Obj)} {d : TD} {a wr : Addr} {c0 c1 c2 c3 : Int} {u0 u1 u2 u3 tt tm tk ta tb : Tok} {nc i kn mk : Nat} {na nb : List Nat} {P q : Int} {ms : List (List Nat)} {Qb : Flow → Shared → Prop}
  (I : TInv w L d KL na (wordL P mk) nb (wordL q mk) ms) (F : Fr h₀ L s.heap m) (N : News h₀ L s.heap (d.led w L KL na (wordL P mk) nb (wordL q mk)))
  (hca : (a, lst [.int c0 u0, .int c1 u1, .int c2 u2, .int c3 u3] nc) ∈ KL) (hwr : (wr, tup [.int ((wtN kn).1 : Int) ta, .int ((wtN kn).2 : Int) tb]) ∈ KL)
  (X : (KF w.params).In h₀) (T : Top p loose mean mg mb h₀) (r : Room A 15 150) (ht : 0 < s.toks) (h1 : m "cells" = some (.ref a)) (h2 : m "mark" = some (.str (S [mk]) tm)) (h3 : m "kind" = some (.int (kn : Int) tk)) (h4 : m "weights" = some (.ref wr)) (h5 : m "turn" = some (.int (i : Int) tt)) (h6 : m "head" = some (.ref d.x)) (h7 : m "book" = some (.ref d.bx))
  (hk : isMark mk) (hm0 : @LT.lt Nat _ 0 tm) (hm1 : @LT.lt Nat _ tm s.toks) (hkn : kn < 6) (hi : i ≤ 8) (hms : ms.length = i)
  (zp : P.natAbs < 16 ^ 7) (zq : q.natAbs < 16 ^ 7) (zz : (numN kn i q - P).natAbs < 16 ^ 7)
  (o1 : ∀ c ∈ na, ok c) (b1 : na.length ≤ 90) (o2 : ∀ c ∈ nb, ok c) (b2 : nb.length ≤ 90) (g1 : GoodName na) (g2 : GoodName nb)
  (hW : ∀ z : Int, z.natAbs < 16 ^ 7 → (∀ c ∈ wordL z mk, ok c) ∧ (wordL z mk).length ≤ 20 ∧ ∀ c ∈ wordL z mk, ¬ ws c)
  (hM : (∀ c ∈ metN i (numN kn i q - P), ok c) ∧ (metN i (numN kn i q - P)).length ≤ 100) (hms2 : ∀ l ∈ ms, (∀ c ∈ l, ok c) ∧ l.length ≤ 100)
  (ret : ∀ (d' : TD) D ys h' tk' m', s.toks ≤ tk' → TInv w L d' KL (dn nb) (wordL q mk) (dn na) (wordL (numN kn i q - P) mk) (ms ++ [metN i (numN kn i q - P)]) → d'.oS.data = .cell (some (.ref D)) → StrsAre ys (((ms ++ [metN i (numN kn i q - P)]).map low).map S) → Fr h₀ L h' m' →
    News h₀ L h' ((D, LCg.lst ys) :: d'.led w L KL (dn nb) (wordL q mk) (dn na) (wordL (numN kn i q - P) mk)) → Agree ["end", "text", "sent", "told", "later", "number", "word", "head"] m m' → m' "head" = some (.ref d'.x) → d'.bx = d.bx → Qb .next { s with heap := h', toks := tk' }) :
  wpAny (model prg w) A (execs turnBody (lawEnv L f cd)) Qb (fun _ _ => False) s := by
  rw [turn16]
  obtain ⟨v3, hv3⟩ := I.d3
  obtain ⟨v4, hv4⟩ := I.d4
  obtain ⟨oP, bP, wP⟩ := hW P zp
  obtain ⟨oq, bq, wq⟩ := hW q zq
  obtain ⟨oz, bz, wz⟩ := hW _ zz
  have dnl : ∀ l : List Nat, (dn l).length ≤ l.length + 1 := fun l => by have := dotL_len l; simp only [dn, List.length_append]; omega
  have dno : ∀ l : List Nat, (∀ c ∈ l, ok c) → ∀ c ∈ dn l, ok c := fun l h c hc => by
    rcases List.mem_append.mp hc with hc | hc
    · rw [dotL_mem hc]; exact ⟨by decide, by decide⟩
    · exact h c hc
  have dL1 := dnl na
  have dL2 := dnl nb
  refine turn_front (tm := tm) (R := d.B w ++ ((d.ml, lst d.vs d.nm) :: (L + 2, d.oM) :: (L + 4, d.oS) :: KL)) (oL := d.oL) I.xb F (News.sub N mvA) ?p1 ?p2 ?p3 hv3 (List.mem_append_right _ (.tail _ (.tail _ (.tail _ hca)))) X T r ht h1 h5 (by omega) h6 o1 oP o2 oq (by omega) bP (by omega) bq g1 g2 wP wq
    (fun D k1 k2 k3 k4 k5 k6 k7 k8 XB' oL' vv hA tkA mA ht1 agA hmA xb' hoL' FA NA apX' => ?_)
  case p1 => exact apart_app.mpr ⟨I.hX, apart_kons.mpr ⟨fun z hz => (I.hC z hz).2.2.1.symm, apart_app.mpr ⟨I.hB, apart_kons.mpr ⟨fun z hz => (I.hC z hz).1.symm, apart_kons.mpr ⟨fun z hz => (I.hC z hz).2.1.symm, apart_kons.mpr ⟨fun z hz => (I.hC z hz).2.2.2.symm, I.hK⟩⟩⟩⟩⟩⟩
  case p2 => exact apart_kons.mpr ⟨fun z hz => (I.xC z hz).2.2.1.symm, apart_app.mpr ⟨I.bX.symm, apart_kons.mpr ⟨fun z hz => (I.xC z hz).1.symm, apart_kons.mpr ⟨fun z hz => (I.xC z hz).2.1.symm, apart_kons.mpr ⟨fun z hz => (I.xC z hz).2.2.2.symm, I.xK⟩⟩⟩⟩⟩
  case p3 =>
    intro z hz
    rcases List.mem_append.mp hz with hz | hz
    · exact (I.bC z hz).2.2.1
    rcases List.mem_cons.mp hz with rfl | hz
    · exact I.mC.2.1
    rcases List.mem_cons.mp hz with rfl | hz
    · exact L32 (by decide)
    rcases List.mem_cons.mp hz with rfl | hz
    · exact L32 (by decide)
    · exact (I.kC z hz).2.2.1
  refine turn_mid (s := { s with heap := hA, toks := tkA }) (R := XB' ++ ((L + 3, oL') :: (d.B w ++ ((d.ml, lst d.vs d.nm) :: (L + 2, d.oM) :: (L + 4, d.oS) :: KL)))) (wr := wr) (ta := ta) (tb := tb) (kn := kn) (i := i) FA NA (List.mem_append_right _ (.tail _ (List.mem_append_right _ (.tail _ (.tail _ (.tail _ hwr)))))) X T r (by show 0 < tkA; omega) hmA (agA.get h2) hk hm0 (by show @LT.lt Nat _ tm tkA; omega)
    (agA.get h3) (agA.get h4) (agA.get h5) hkn (by omega) zp zq zz (dno _ o1) (by omega) (dno _ o2) (by omega) oq bq oz bz (fun x dx hl ra rb t0 t1 t2 t3 t4 n' tw hB tkB mB ht2 agB hmB hwB FB NB apB => ?_)
  dsimp only at ht2
  obtain ⟨e1, e2⟩ := apart_app.mp apB
  obtain ⟨e3, e4⟩ := apart_kons.mp e2
  obtain ⟨e5, e6⟩ := apart_app.mp e4
  obtain ⟨e7, e8⟩ := apart_kons.mp e6
  obtain ⟨e9, e10⟩ := apart_kons.mp e8
  obtain ⟨e11, e12⟩ := apart_kons.mp e10
  obtain ⟨x3, x4⟩ := apart_kons.mp apX'
  obtain ⟨x5, x6⟩ := apart_app.mp x4
  obtain ⟨x7, x8⟩ := apart_kons.mp x6
  obtain ⟨x9, x10⟩ := apart_kons.mp x8
  obtain ⟨x11, x12⟩ := apart_kons.mp x10
  refine turn_end3 (rest := []) (s := { s with heap := hB, toks := tkB }) (R := headLed w x dx hl ra rb t0 n' (dn nb) (valL (wordL q mk)) (dn na) (valL (wordL (numN kn i q - P) mk)) t1 t2 t3 t4 ++ (XB' ++ ((L + 3, oL') :: KL))) (rs := d.rs) (ms := ms) (i := i) (nm := d.nm) FB (News.sub NB mvB) ?q1 ?q2 ?q3 I.d2 hv4 X T r (by show 0 < tkB; omega) hwB (agB.get (agA.get h2)) (agB.get (agA.get h5)) (agB.get (agA.get h7)) hk hm0 (by show @LT.lt Nat _ tm tkB; omega) zz I.hv hms hi hms2 hM I.rows
    (fun rs' bn' vs' D' ys oS' hC tkC ht3 ro' hv' hy hoS FC NC apC => ?_)
  case q1 => exact apart_kons.mpr ⟨fun z hz => (I.bC z hz).1.symm, apart_kons.mpr ⟨fun z hz => (I.bC z hz).2.1.symm, apart_kons.mpr ⟨fun z hz => (I.bC z hz).2.2.2.symm, apart_app.mpr ⟨e5.symm, apart_app.mpr ⟨x5.symm, apart_kons.mpr ⟨fun z hz => (I.bC z hz).2.2.1.symm, I.bK⟩⟩⟩⟩⟩⟩
  case q2 =>
    intro z hz
    rcases List.mem_cons.mp hz with rfl | hz
    · exact I.mC.1.symm
    rcases List.mem_cons.mp hz with rfl | hz
    · exact I.mC.2.2.symm
    rcases List.mem_append.mp hz with hz | hz
    · exact (e7 z hz).symm
    rcases List.mem_append.mp hz with hz | hz
    · exact (x7 z hz).symm
    rcases List.mem_cons.mp hz with rfl | hz
    · exact I.mC.2.1.symm
    · exact (I.kC z hz).1
  case q3 =>
    intro z hz
    rcases List.mem_append.mp hz with hz | hz
    · exact (e11 z hz).symm
    rcases List.mem_append.mp hz with hz | hz
    · exact (x11 z hz).symm
    rcases List.mem_cons.mp hz with rfl | hz
    · exact L32 (by decide)
    · exact (I.kC z hz).2.2.2
  dsimp only at ht3
  obtain ⟨y1, y2⟩ := apart_kons.mp apC
  obtain ⟨y3, y4⟩ := apart_kons.mp y2
  obtain ⟨y5, y6⟩ := apart_kons.mp y4
  obtain ⟨y7, y8⟩ := apart_app.mp y6
  obtain ⟨y9, y10⟩ := apart_app.mp y8
  obtain ⟨y11, y12⟩ := apart_kons.mp y10
  refine ret ⟨x, dx, hl, ra, rb, t0, t1, t2, t3, t4, n', d.bx, d.bdx, d.bhl, d.bt, rs', bn', XB', d.ml, vs', d.nm + 1, d.oM, oL', oS'⟩ D' ys hC tkC mB (by omega)
    { xb := xb', hB := y7.symm, hX := e1, hK := e12, hC := fun z hz => ⟨(e7 z hz).symm, (e9 z hz).symm, (e3 z hz).symm, (e11 z hz).symm⟩, bX := y9, bK := y12, bC := fun z hz => ⟨(y1 z hz).symm, (y3 z hz).symm, (y11 z hz).symm, (y5 z hz).symm⟩, xK := x12, xC := fun z hz => ⟨(x7 z hz).symm, (x9 z hz).symm, (x3 z hz).symm, (x11 z hz).symm⟩, kC := I.kC, mC := I.mC, d2 := I.d2, d3 := ⟨_, hoL'⟩, d4 := ⟨_, hoS⟩, hv := hv', rows := ro' } hoS hy FC (News.sub NC mvC) (agA.trans agB) hmB rfl
end
section
theorem wTop_Orb : True ∧ True := by
  w_top off
  (try (walk1; fail))
  exact ⟨trivial, trivial⟩
/-- the numbers as the turns tell them -/
noncomputable def orb (kn : Nat) (a b : Int) : Nat → Int
  | 0 => a
  | 1 => b
  | i + 2 => numN kn i (orb kn a b (i + 1)) - orb kn a b i
theorem lin_up {w s t x y : Int} : w * (s * x + t * y) = s * (w * x) + t * (w * y) := by
  rw [Int.mul_add, Int.mul_left_comm, Int.mul_left_comm w t]
theorem nonpos_cut {q : Int} (h : q ≤ 0) : (if q < 0 then 0 else q) = 0 := by
  by_cases g : q < 0
  · rw [if_pos g]
  · rw [if_neg g]; exact Int.le_antisymm h (Int.not_lt.mp g)
theorem nonneg_cut {q : Int} (h : 0 ≤ q) : (if q < 0 then 0 else q) = q := if_neg (Int.not_lt.mpr h)
/-- on two numbers of one sign a turn's rule is linear -/
theorem numN_lin (kn i : Nat) {s t x y : Int} (hs : 0 ≤ s) (ht : 0 ≤ t) (h : (0 ≤ x ∧ 0 ≤ y) ∨ (x ≤ 0 ∧ y ≤ 0)) : numN kn i (s * x + t * y) = s * numN kn i x + t * numN kn i y := by
  unfold numN
  rcases h with ⟨hx, hy⟩ | ⟨hx, hy⟩
  · have hz : 0 ≤ s * x + t * y := Int.add_nonneg (Int.mul_nonneg hs hx) (Int.mul_nonneg ht hy)
    split
    · rw [Int.natAbs_of_nonneg hz, Int.natAbs_of_nonneg hx, Int.natAbs_of_nonneg hy]
    · rw [nonneg_cut hz, nonneg_cut hx, nonneg_cut hy, lin_up]
  · have hz : s * x + t * y ≤ 0 := Int.add_nonpos (Int.mul_nonpos_of_nonneg_of_nonpos hs hx) (Int.mul_nonpos_of_nonneg_of_nonpos ht hy)
    split
    · rw [Int.ofNat_natAbs_of_nonpos hz, Int.ofNat_natAbs_of_nonpos hx, Int.ofNat_natAbs_of_nonpos hy, Int.neg_add, Int.mul_neg, Int.mul_neg]
    · rw [nonpos_cut hz, nonpos_cut hx, nonpos_cut hy, Int.mul_zero, Int.mul_zero, Int.mul_zero]; rfl
noncomputable def sg (x y : Int) : Bool := (decide (0 ≤ x) && decide (0 ≤ y)) || (decide (x ≤ 0) && decide (y ≤ 0))
theorem sg_of {x y : Int} (h : sg x y = true) : (0 ≤ x ∧ 0 ≤ y) ∨ (x ≤ 0 ∧ y ≤ 0) := by simpa [sg] using h
theorem orb_lin {kn n : Nat} {s t u1 u2 v1 v2 : Int} (hs : 0 ≤ s) (ht : 0 ≤ t) (h : ∀ j < n, sg (orb kn u1 u2 (j + 1)) (orb kn v1 v2 (j + 1)) = true) :
    ∀ i ≤ n + 1, orb kn (s * u1 + t * v1) (s * u2 + t * v2) i = s * orb kn u1 u2 i + t * orb kn v1 v2 i
  | 0, _ => rfl
  | 1, _ => rfl
  | i + 2, hi => by
    have hin : i < n := Nat.lt_of_succ_le (Nat.le_of_succ_le_succ hi)
    rw [orb, orb_lin hs ht h (i + 1) (Nat.le_of_lt hi), orb_lin hs ht h i (Nat.le_of_succ_le (Nat.le_of_lt hi)), numN_lin kn i hs ht (sg_of (h i hin)), orb, orb, Int.mul_sub, Int.mul_sub]
    generalize s * numN kn i _ = A; generalize t * numN kn i _ = B; generalize s * _ = C; generalize t * _ = D
    rw [Int.sub_eq_add_neg, Int.sub_eq_add_neg, Int.sub_eq_add_neg, Int.neg_add, Int.add_assoc, Int.add_assoc, Int.add_left_comm B]
noncomputable def dt (u : Int × Int) (a b : Int) : Int := u.1 * b - u.2 * a
/-- what is asked of two neighbouring rays -/
noncomputable def ckc (kn n : Nat) (u v : Int × Int) : Bool :=
  (List.range n).all (fun j => sg (orb kn u.1 u.2 (j + 1)) (orb kn v.1 v.2 (j + 1))) && (List.range (n + 2)).all (fun i => Nat.ble (orb kn u.1 u.2 i).natAbs 5 && Nat.ble (orb kn v.1 v.2 i).natAbs 5) &&
  (decide (orb kn u.1 u.2 n = u.1) && decide (orb kn u.1 u.2 (n + 1) = u.2) && decide (orb kn v.1 v.2 n = v.1) && decide (orb kn v.1 v.2 (n + 1) = v.2)) && decide (dt u v.1 v.2 = 1) && (Nat.ble u.1.natAbs 3 && Nat.ble u.2.natAbs 3 && Nat.ble v.1.natAbs 3 && Nat.ble v.2.natAbs 3)
noncomputable def chain (f : Int × Int → Int × Int → Bool) : List (Int × Int) → Bool
  | [] => true
  | u :: l => match l with
    | [] => true
    | v :: _ => f u v && chain f l
/-- from a ray on the one side to a ray on the other: two neighbours have the point between them -/
theorem between {f : Int × Int → Int × Int → Bool} {a b : Int} : ∀ (l : List (Int × Int)) (u e : Int × Int), chain f (u :: (l ++ [e])) = true → 0 ≤ dt u a b → dt e a b ≤ 0 → ∃ p q, f p q = true ∧ 0 ≤ dt p a b ∧ dt q a b ≤ 0
  | [], u, e, h, hu, he => by
    have h' : (f u e && true) = true := h
    exact ⟨u, e, by simpa using h', hu, he⟩
  | v :: l, u, e, h, hu, he => by
    have h' : (f u v && chain f (v :: (l ++ [e]))) = true := h
    obtain ⟨h1, h2⟩ := Bool.and_eq_true_iff.mp h'
    by_cases hv : dt v a b ≤ 0
    · exact ⟨u, v, h1, hu, hv⟩
    · exact between l v e h2 (Int.le_of_lt (Int.not_le.mp hv)) he
theorem dt_e1 {a b : Int} : dt (1, 0) a b = b := by simp [dt]
theorem dt_e2 {a b : Int} : dt (-1, 0) a b = -b := by simp [dt]
theorem split1 {a b u1 u2 v1 v2 : Int} (h : u1 * v2 - u2 * v1 = 1) : a = -(v1 * b - v2 * a) * u1 + (u1 * b - u2 * a) * v1 := by grind
theorem split2 {a b u1 u2 v1 v2 : Int} (h : u1 * v2 - u2 * v1 = 1) : b = -(v1 * b - v2 * a) * u2 + (u1 * b - u2 * a) * v2 := by grind
theorem dt_le {u : Int × Int} {a b : Int} (h1 : u.1.natAbs ≤ 3) (h2 : u.2.natAbs ≤ 3) (ha : a.natAbs ≤ 1000000) (hb : b.natAbs ≤ 1000000) : (dt u a b).natAbs ≤ 6000000 := by
  unfold dt
  refine Nat.le_trans (Int.natAbs_sub_le _ _) ?_
  rw [Int.natAbs_mul, Int.natAbs_mul]
  exact Nat.add_le_add (Nat.mul_le_mul h1 hb) (Nat.mul_le_mul h2 ha)
theorem orb_near {kn n : Nat} {p q : Int × Int} (h : ckc kn n p q = true) {a b : Int} (ha : a.natAbs ≤ 1000000) (hb : b.natAbs ≤ 1000000) (h1 : 0 ≤ dt p a b) (h2 : dt q a b ≤ 0) :
    (∀ i ≤ n + 1, (orb kn a b i).natAbs < 16 ^ 7) ∧ orb kn a b n = a ∧ orb kn a b (n + 1) = b := by
  obtain ⟨u1, u2⟩ := p
  obtain ⟨v1, v2⟩ := q
  simp only [ckc, Bool.and_eq_true, List.all_eq_true, List.mem_range, decide_eq_true_eq, Nat.ble_eq] at h
  obtain ⟨⟨⟨⟨c1, c2⟩, ⟨⟨c3, c4⟩, c5⟩, c6⟩, c7⟩, ⟨⟨c8, c9⟩, c10⟩, c11⟩ := h
  have e1 := split1 (a := a) (b := b) c7
  have e2 := split2 (a := a) (b := b) c7
  have hs : 0 ≤ -dt (v1, v2) a b := Int.neg_nonneg_of_nonpos h2
  have L := orb_lin (kn := kn) hs h1 c1
  have E : orb kn a b = orb kn (-dt (v1, v2) a b * u1 + dt (u1, u2) a b * v1) (-dt (v1, v2) a b * u2 + dt (u1, u2) a b * v2) := congr (congrArg (orb kn) e1) e2
  refine ⟨fun i hi => ?_, ?_, ?_⟩
  · rw [E, L i hi]
    refine Nat.lt_of_le_of_lt (Int.natAbs_add_le _ _) ?_
    rw [Int.natAbs_mul, Int.natAbs_mul, Int.natAbs_neg]
    have c := c2 i (Nat.lt_succ_of_le hi)
    exact Nat.lt_of_le_of_lt (Nat.add_le_add (Nat.mul_le_mul (dt_le c10 c11 ha hb) c.1) (Nat.mul_le_mul (dt_le c8 c9 ha hb) c.2)) (by decide)
  · rw [E, L n (Nat.le_succ n), c3, c5]; exact e1.symm
  · rw [E, L (n + 1) (Nat.le_refl _), c4, c6]; exact e2.symm
/-- the rays between which the turns are linear: the upper half, the lower half -/
noncomputable def raysU (kn : Nat) : List (Int × Int) := [[(1, 1), (0, 1)], [(1, 1), (1, 2), (0, 1)], [(2, 1), (1, 1), (0, 1)], [(1, 1), (2, 3), (1, 2), (1, 3), (0, 1)], [(3, 1), (2, 1), (3, 2), (1, 1), (0, 1)], [(2, 1), (1, 1), (1, 2), (0, 1), (-1, 1)]].getD kn []
noncomputable def raysL (kn : Nat) : List (Int × Int) := [[(0, -1)], [(0, -1)], [(0, -1)], [(0, -1)], [(0, -1)], [(0, -1), (1, -1)]].getD kn []
theorem rays_ok : ∀ kn < 6, (chain (ckc kn (turnsN kn)) ((1, 0) :: (raysU kn ++ [(-1, 0)])) && chain (ckc kn (turnsN kn)) ((-1, 0) :: (raysL kn ++ [(1, 0)]))) = true := by decide +kernel
theorem orb_fine {kn : Nat} (h : kn < 6) {a b : Int} (ha : a.natAbs ≤ 1000000) (hb : b.natAbs ≤ 1000000) : (∀ i ≤ turnsN kn + 1, (orb kn a b i).natAbs < 16 ^ 7) ∧ orb kn a b (turnsN kn) = a ∧ orb kn a b (turnsN kn + 1) = b := by
  obtain ⟨r1, r2⟩ := Bool.and_eq_true_iff.mp (rays_ok kn h)
  rcases Int.le_total 0 b with hb0 | hb0
  · obtain ⟨p, q, hf, hp, hq⟩ := between _ _ _ r1 (a := a) (b := b) (by rw [dt_e1]; exact hb0) (by rw [dt_e2]; exact Int.neg_nonpos_of_nonneg hb0)
    exact orb_near hf ha hb hp hq
  · obtain ⟨p, q, hf, hp, hq⟩ := between _ _ _ r2 (a := a) (b := b) (by rw [dt_e2]; exact Int.neg_nonneg_of_nonpos hb0) (by rw [dt_e1]; exact hb0)
    exact orb_near hf ha hb hp hq
end
section
theorem wTop_TP : True ∧ True := by
  w_top off
  (try (walk1; fail))
  exact ⟨trivial, trivial⟩
/-- a name of d dots and a letter, i turns on -/
noncomputable def nmD (d c i : Nat) : List Nat := List.replicate (if d = 0 then 0 else d + i) 46 ++ [c]
noncomputable def nmA (d0 d1 i : Nat) : List Nat := if i % 2 = 0 then nmD d0 97 i else nmD d1 98 i
noncomputable def nmB (d0 d1 i : Nat) : List Nat := if i % 2 = 0 then nmD d1 98 i else nmD d0 97 i
theorem dn_nmD {d c i : Nat} (hc : c ≠ 46) : dn (nmD d c i) = nmD d c (i + 1) := by
  unfold dn nmD
  by_cases h : d = 0
  · subst h
    simp [dotL, hc]
  · rw [if_neg h, if_neg h, show d + (i + 1) = (d + i) + 1 from rfl, List.replicate_succ]
    obtain ⟨k, hk⟩ : ∃ k, d + i = k + 1 := ⟨d + i - 1, by omega⟩
    rw [hk, List.replicate_succ]
    simp [dotL]
theorem dn_nmA {d0 d1 i : Nat} : dn (nmA d0 d1 i) = nmB d0 d1 (i + 1) := by
  unfold nmA nmB
  by_cases h : i % 2 = 0
  · rw [if_pos h, if_neg (by omega), dn_nmD (by decide)]
  · rw [if_neg h, if_pos (by omega), dn_nmD (by decide)]
theorem dn_nmB {d0 d1 i : Nat} : dn (nmB d0 d1 i) = nmA d0 d1 (i + 1) := by
  unfold nmA nmB
  by_cases h : i % 2 = 0
  · rw [if_pos h, if_neg (by omega), dn_nmD (by decide)]
  · rw [if_neg h, if_pos (by omega), dn_nmD (by decide)]
structure NameOk (l : List Nat) : Prop where
  o : ∀ c ∈ l, ok c
  b : l.length ≤ 90
  g : GoodName l
theorem nmD_ok {d c i : Nat} (hd : d < 3) (hi : i ≤ 20) (hc : c = 97 ∨ c = 98) : NameOk (nmD d c i) := by
  have hm : ∀ a ∈ nmD d c i, a = 46 ∨ a = 97 ∨ a = 98 := by
    intro a ha
    rcases List.mem_append.mp ha with ha | ha
    · exact .inl (List.eq_of_mem_replicate ha)
    · rw [List.mem_singleton.mp ha]; exact .inr hc
  refine ⟨fun a ha => ?_, ?_, ⟨by simp [nmD], fun a ha => ?_⟩⟩
  · rcases hm a ha with rfl | rfl | rfl <;> exact ⟨by decide, by decide⟩
  · simp only [nmD, List.length_append, List.length_replicate, List.length_singleton]
    split <;> omega
  · rcases hm a ha with rfl | rfl | rfl <;> decide
theorem nmA_ok {d0 d1 i : Nat} (h0 : d0 < 3) (h1 : d1 < 3) (hi : i ≤ 20) : NameOk (nmA d0 d1 i) := by
  unfold nmA; split
  · exact nmD_ok h0 hi (.inl rfl)
  · exact nmD_ok h1 hi (.inr rfl)
theorem nmB_ok {d0 d1 i : Nat} (h0 : d0 < 3) (h1 : d1 < 3) (hi : i ≤ 20) : NameOk (nmB d0 d1 i) := by
  unfold nmB; split
  · exact nmD_ok h1 hi (.inr rfl)
  · exact nmD_ok h0 hi (.inl rfl)
/-- what the book was asked for, i turns on -/
noncomputable def msN (kn : Nat) (a b : Int) (i : Nat) : List (List Nat) := (List.range i).map fun j => metN j (orb kn a b (j + 2))
theorem msN_succ {kn : Nat} {a b : Int} {i : Nat} : msN kn a b (i + 1) = msN kn a b i ++ [metN i (numN kn i (orb kn a b (i + 1)) - orb kn a b i)] := by
  unfold msN
  rw [List.range_succ, List.map_append]
  rfl
theorem msN_len {kn : Nat} {a b : Int} {i : Nat} : (msN kn a b i).length = i := by simp [msN]
theorem word_fine {mk : Nat} (hk : isMark mk) (z : Int) (hz : z.natAbs < 16 ^ 7) : (∀ c ∈ wordL z mk, ok c) ∧ (wordL z mk).length ≤ 20 ∧ ∀ c ∈ wordL z mk, ¬ ws c := by
  have h1 := apL_len 7 z.natAbs hz
  have h2 : ∀ c ∈ wordL z mk, c = mk ∨ (65 ≤ c ∧ c ≤ 80) := by
    intro c hc
    unfold wordL at hc
    split at hc
    · rcases List.mem_cons.mp hc with rfl | hc
      · exact .inl rfl
      · exact .inr (apL_mem _ _ hc)
    · exact .inr (apL_mem _ _ hc)
  have hk' : mk = 34 ∨ mk = 92 ∨ mk = 40 ∨ mk = 39 := hk
  refine ⟨fun c hc => ?_, ?_, fun c hc => ?_⟩
  · have := h2 c hc; unfold ok; omega
  · unfold wordL; split
    · simp only [List.length_cons]; omega
    · omega
  · have := h2 c hc; unfold ws; omega
theorem met_fine (i : Nat) (z : Int) (hz : z.natAbs < 16 ^ 7) : (∀ c ∈ metN i z, ok c) ∧ (metN i z).length ≤ 100 := by
  have h1 := apL_len 7 z.natAbs hz
  have h2 : ∀ c ∈ apL z.natAbs, ok c := fun c hc => by have := apL_mem _ _ hc; unfold ok; omega
  unfold metN
  split
  · exact ⟨low_ok h2, by rw [low_len]; omega⟩
  · exact ⟨h2, by omega⟩
theorem turns_le {kn : Nat} (h : kn < 6) : 5 ≤ turnsN kn ∧ turnsN kn ≤ 9 := by
  have : kn = 0 ∨ kn = 1 ∨ kn = 2 ∨ kn = 3 ∨ kn = 4 ∨ kn = 5 := lt6 kn (by assumption)
  rcases this with rfl | rfl | rfl | rfl | rfl | rfl <;> decide
theorem store_turn {f : Addr} {cd v : Value} {Q : Unit → Shared → Prop} (F : Fr h₀ L s.heap m) (N : News h₀ L s.heap news) (hA : A.handled = none) (X : (KF w.params).In h₀) (T : Top p loose mean mg mb h₀)
  (h : ∀ h' tk', s.toks ≤ tk' → Fr h₀ L h' (fun z => if z = Str.ofString "turn" then some v else m z) → News h₀ L h' news → Q () { s with heap := h', toks := tk' }) : wpAny (model prg w) A (storeName (lawEnv L f cd) (Str.ofString "turn") v) Q E s := by
  unfold lawEnv
  conv in lawScope => (whnf; dsimp only)
  obtain ⟨hA', dp, fr, gd, un⟩ := A
  obtain rfl : hA' = none := hA
  walk_at "steps"
  exact h _ _ (by omega) (by assumption) (by assumption)
theorem apart_swap {A K : List (Addr × Obj)} {I : Addr} {o o' : Obj} (h : Apart A ((I, o) :: K)) : Apart A ((I, o') :: K) := by
  have h2 := apart_kons.mp h
  exact apart_kons.mpr ⟨h2.1, h2.2⟩
theorem cof_swap {L ml : Addr} {K : List (Addr × Obj)} {I : Addr} {o o' : Obj} (h : Cof L ml ((I, o) :: K)) : Cof L ml ((I, o') :: K) := fun q hq => by
  rcases List.mem_cons.mp hq with rfl | hq
  · exact h (I, o) (.head _)
  · exact h q (.tail _ hq)
theorem TInv.swap {d : TD} {K : List (Addr × Obj)} {I : Addr} {o o' : Obj} {na wa nb wb : List Nat} {ms : List (List Nat)} (h : TInv w L d ((I, o) :: K) na wa nb wb ms) : TInv w L d ((I, o') :: K) na wa nb wb ms :=
  { h with hK := apart_swap h.hK, bK := apart_swap h.bK, xK := apart_swap h.xK, kC := cof_swap h.kC }
theorem TInv.drop {d : TD} {K : List (Addr × Obj)} {I : Addr} {o : Obj} {na wa nb wb : List Nat} {ms : List (List Nat)} (h : TInv w L d ((I, o) :: K) na wa nb wb ms) : TInv w L d K na wa nb wb ms :=
  { h with hK := (apart_kons.mp h.hK).2, bK := (apart_kons.mp h.bK).2, xK := (apart_kons.mp h.xK).2, kC := fun q hq => h.kC q (.tail _ hq) }
theorem TInv.cons {d : TD} {K : List (Addr × Obj)} {I : Addr} {o : Obj} {na wa nb wb : List Nat} {ms : List (List Nat)} (h : TInv w L d K na wa nb wb ms) (hI : ∀ p ∈ d.led w L K na wa nb wb, p.1 ≠ I) : TInv w L d ((I, o) :: K) na wa nb wb ms :=
  { h with
    hK := apart_kons.mpr ⟨fun q hq => (hI q (List.mem_append_left _ hq)).symm, h.hK⟩
    bK := apart_kons.mpr ⟨fun q hq => (hI q (List.mem_append_right _ (List.mem_append_left _ hq))).symm, h.bK⟩
    xK := apart_kons.mpr ⟨fun q hq => (hI q (List.mem_append_right _ (List.mem_append_right _ (List.mem_append_left _ hq)))).symm, h.xK⟩
    kC := fun q hq => by
      rcases List.mem_cons.mp hq with rfl | hq
      · have hc : ∀ z ∈ d.C L, z.1 ≠ I := fun z hz => hI z (List.mem_append_right _ (List.mem_append_right _ (List.mem_append_right _ (List.mem_append_left _ hz))))
        exact ⟨(hc _ (.head _)).symm, (hc _ (.tail _ (.head _))).symm, (hc _ (.tail _ (.tail _ (.head _)))).symm, (hc _ (.tail _ (.tail _ (.tail _ (.head _))))).symm⟩
      · exact h.kC q hq }
theorem TInv.off {d : TD} {K : List (Addr × Obj)} {I : Addr} {o : Obj} {na wa nb wb : List Nat} {ms : List (List Nat)} (h : TInv w L d ((I, o) :: K) na wa nb wb ms) (hK : ∀ p ∈ K, p.1 ≠ I) : ∀ p ∈ d.led w L K na wa nb wb, p.1 ≠ I := by
  intro q hq
  rcases List.mem_append.mp hq with hq | hq
  · exact ((apart_kons.mp h.hK).1 q hq).symm
  rcases List.mem_append.mp hq with hq | hq
  · exact ((apart_kons.mp h.bK).1 q hq).symm
  rcases List.mem_append.mp hq with hq | hq
  · exact ((apart_kons.mp h.xK).1 q hq).symm
  rcases List.mem_append.mp hq with hq | hq
  · have c := h.kC _ (.head _)
    apply all_by hq
    exact all_cons (c.1.symm) (all_cons (c.2.1.symm) (all_cons (c.2.2.1.symm) (all_cons (c.2.2.2.symm) (all_nil))))
  · exact hK q hq
theorem mvI {H B X C K : List (Addr × Obj)} {e : Addr × Obj} : ∀ q ∈ e :: (H ++ (B ++ (X ++ (C ++ K)))), q ∈ H ++ (B ++ (X ++ (C ++ (e :: K)))) := by
  walk_at "subs"
theorem mvJ {H B X C K : List (Addr × Obj)} {e : Addr × Obj} : ∀ q ∈ H ++ (B ++ (X ++ (C ++ (e :: K)))), q ∈ e :: (H ++ (B ++ (X ++ (C ++ K)))) := by
  walk_at "subs"
/-- the last sizes, if any -/
noncomputable def SzOk (i : Nat) (d : TD) (SZ : List (Addr × Obj)) (ms : List (List Nat)) : Prop := i = 0 ∧ SZ = [] ∨ ∃ D ys, SZ = [(D, LCg.lst ys)] ∧ d.oS.data = .cell (some (.ref D)) ∧ StrsAre ys ((ms.map low).map S)
structure Names (m : Str → Option Value) (a wr bx : Addr) (mk kn : Nat) (tm tk : Tok) : Prop where
  h1 : m "cells" = some (.ref a)
  h2 : m "mark" = some (.str (S [mk]) tm)
  h3 : m "kind" = some (.int (kn : Int) tk)
  h4 : m "weights" = some (.ref wr)
  h7 : m "book" = some (.ref bx)
noncomputable abbrev chgL : List Str := ["end", "text", "sent", "told", "later", "number", "word", "head", "turn"]
theorem Names.agree {m m' : Str → Option Value} {a wr bx : Addr} {mk kn : Nat} {tm tk : Tok} (h : Names m a wr bx mk kn tm tk) (g : Agree chgL m m') : Names m' a wr bx mk kn tm tk := ⟨g.get h.h1, g.get h.h2, g.get h.h3, g.get h.h4, g.get h.h7⟩
inductive LInv (w : World) (h₀ : Heap) (L : Addr) (s : Shared) (m : Str → Option Value) (K : List (Addr × Obj)) (bx : Addr) (kn mk d0 d1 : Nat) (z0 z1 : Int) (I : Addr) (k : Nat) (s' : Shared) : Prop
  | mk (i : _) (o : _) (d : _) (SZ : _) (m' : _) (h' : _) (tk' : _)
    (c0 : s' = { s with heap := h', toks := tk' }) (c1 : s.toks ≤ tk') (c2 : i ≤ turnsN kn) (c3 : turnsN kn - i < k) (c4 : RgObj o (turnsN kn) i) (c5 : TInv w L d ((I, o) :: K) (nmA d0 d1 i) (wordL (orb kn z0 z1 i) mk) (nmB d0 d1 i) (wordL (orb kn z0 z1 (i + 1)) mk) (msN kn z0 z1 i)) (c6 : Fr h₀ L h' m') (c7 : News h₀ L h' (SZ ++ d.led w L ((I, o) :: K) (nmA d0 d1 i) (wordL (orb kn z0 z1 i) mk) (nmB d0 d1 i) (wordL (orb kn z0 z1 (i + 1)) mk))) (c8 : Agree chgL m m') (c9 : m' "head" = some (.ref d.x)) (c10 : d.bx = bx) (c11 : SzOk i d SZ (msN kn z0 z1 i)) (c12 : (∀ p ∈ K, p.1 ≠ I)) : LInv w h₀ L s m K bx kn mk d0 d1 z0 z1 I k s'
set_option maxHeartbeats 4000000 in
theorem law_loop {f : Addr} {cd : Value} {K : List (Addr × Obj)} {d : TD} {a wr : Addr} {c0 c1 c2 c3 z0 z1 : Int} {u0 u1 u2 u3 tm tk ta tb t5 : Tok} {nc kn mk d0 d1 : Nat} {Qb : Flow → Shared → Prop}
  (I : TInv w L d K (nmA d0 d1 0) (wordL z0 mk) (nmB d0 d1 0) (wordL z1 mk) []) (F : Fr h₀ L s.heap m) (N : News h₀ L s.heap (d.led w L K (nmA d0 d1 0) (wordL z0 mk) (nmB d0 d1 0) (wordL z1 mk)))
  (hca : (a, lst [.int c0 u0, .int c1 u1, .int c2 u2, .int c3 u3] nc) ∈ K) (hwr : (wr, tup [.int ((wtN kn).1 : Int) ta, .int ((wtN kn).2 : Int) tb]) ∈ K)
  (X : (KF w.params).In h₀) (T : Top p loose mean mg mb h₀) (r : Room A 15 150) (ht : 0 < s.toks) (hn : Names m a wr d.bx mk kn tm tk) (h5 : m "turns" = some (.int (turnsN kn : Int) t5)) (h6 : m "head" = some (.ref d.x))
  (hk : isMark mk) (hm0 : @LT.lt Nat _ 0 tm) (hm1 : @LT.lt Nat _ tm s.toks) (hkn : kn < 6) (g0 : d0 < 3) (g1 : d1 < 3) (y0 : z0.natAbs ≤ 1000000) (y1 : z1.natAbs ≤ 1000000)
  (ret : ∀ (d' : TD) D ys h' tk' m', s.toks ≤ tk' → TInv w L d' K (nmA d0 d1 (turnsN kn)) (wordL z0 mk) (nmB d0 d1 (turnsN kn)) (wordL z1 mk) (msN kn z0 z1 (turnsN kn)) → d'.oS.data = .cell (some (.ref D)) → StrsAre ys (((msN kn z0 z1 (turnsN kn)).map low).map S) → Fr h₀ L h' m' →
    News h₀ L h' ((D, LCg.lst ys) :: d'.led w L K (nmA d0 d1 (turnsN kn)) (wordL z0 mk) (nmB d0 d1 (turnsN kn)) (wordL z1 mk)) → Agree chgL m m' → m' "head" = some (.ref d'.x) → d'.bx = d.bx → Qb .next { s with heap := h', toks := tk' }) :
  wpAny (model prg w) A (exec (lawS 11) (lawEnv L f cd)) Qb (fun _ _ => False) s := by
  have hT := turns_le hkn
  obtain ⟨hb, ho0, ho1⟩ := orb_fine hkn y0 y1
  rw [show lawS 11 = Stmt.For (.Name (Str.ofString "turn") _) _ turnBody [] _ from rfl]
  refine For_own2 (LInv w h₀ L s m K d.bx kn mk d0 d1 z0 z1) (turnsN kn + 1) ?src ?turn
  case src =>
    unfold lawEnv
    conv in lawScope => (whnf; dsimp only)
    obtain ⟨hA', dp, fr, gd, un⟩ := A
    obtain rfl : hA' = none := r.hh
    have hx : True → TInv w L d K (nmA d0 d1 0) (wordL z0 mk) (nmB d0 d1 0) (wordL z1 mk) [] := fun _ => I
    clear I
    obtain ⟨G, hG⟩ : ∃ G, G = d.led w L K (nmA d0 d1 0) (wordL z0 mk) (nmB d0 d1 0) (wordL z1 mk) := ⟨_, rfl⟩
    rw [← hG] at N
    walk_at "steps"
    have F9 := (by assumption : Fr h₀ L _ _)
    have N9 := (by assumption : News h₀ L _ G)
    refine rgl_iter (n := turnsN kn) F9 N9 (by assumption) (by omega) (fun I9 o9 h9 ho9 F2 N2 lt => ⟨I9, rfl, 0, o9, d, [], _, h9, _, rfl, ?tk, Nat.zero_le _, by omega, ho9, ?ti, F2, News.sub N2 ?mv, fun _ _ => rfl, h6, rfl, .inl ⟨rfl, rfl⟩, ?off⟩)
    case tk => (try dsimp only); omega
    case ti => exact (hx trivial).cons (fun q hq => Nat.ne_of_lt (lt q (hG ▸ hq)))
    case mv => rw [hG]; exact fun q hq => mvJ (H := d.H w (nmA d0 d1 0) (wordL z0 mk) (nmB d0 d1 0) (wordL z1 mk)) (B := d.B w) (X := d.XB) (C := d.C L) (K := K) (e := (I9, o9)) q hq
    case off => exact fun q hq => Nat.ne_of_lt (lt q (hG ▸ (List.mem_append_right _ (List.mem_append_right _ (List.mem_append_right _ (List.mem_append_right _ hq))))))
  case turn =>
    intro I9 k s' hk9
    obtain ⟨i, o, d9, SZ, m9, h9, tk9, rfl, htk9, hi9, hik, ho9, I10, F9, N9, ag9, hd9, hb9, hsz9, off9⟩ := hk9
    have N8 : News h₀ L h9 ((I9, o) :: (SZ ++ d9.led w L K (nmA d0 d1 i) (wordL (orb kn z0 z1 i) mk) (nmB d0 d1 i) (wordL (orb kn z0 z1 (i + 1)) mk))) := News.sub N9 (fun q hq => by
      rcases List.mem_cons.mp hq with rfl | hq
      · exact List.mem_append_right _ (mvI _ (.head _))
      rcases List.mem_append.mp hq with hq | hq
      · exact List.mem_append_left _ hq
      · exact List.mem_append_right _ (mvI _ (.tail _ hq)))
    have hoff := I10.off off9
    refine rgl_next (s := { s with heap := h9, toks := tk9 }) r.hh F9 N8 ?off ho9 (fun hle h10 F10 N10 => ?_) (fun hlt o10 h10 ho10 F10 N10 => ?_) hi9
    case off =>
      intro q hq
      rcases List.mem_append.mp hq with hq | hq
      · rcases hsz9 with ⟨_, e⟩ | ⟨D9, ys9, e, _, _⟩
        · rw [e] at hq; cases hq
        · rw [e] at hq
          obtain rfl := List.mem_singleton.mp hq
          refine news_ne N8 (List.mem_cons_of_mem _ (List.mem_append_left _ (by rw [e]; exact .head _))) (.head _) (fun e2 => ?_)
          rw [ho9] at e2
          exact absurd (show Value.type "list" = Value.type "range_iterator" from congrArg Obj.cls e2) (by simp)
      · exact hoff q hq
    · obtain rfl : i = turnsN kn := by omega
      show Qb .next _
      rcases hsz9 with ⟨e, _⟩ | ⟨D9, ys9, e, hD9, hy9⟩
      · omega
      · subst e
        rw [ho0, ho1] at I10 N10
        exact ret d9 D9 ys9 h10 tk9 m9 htk9 I10.drop hD9 hy9 F10 N10 ag9 hd9 hb9
    · show wpAny _ _ (storeName _ _ _) _ _ _
      have hn9 := hn.agree ag9
      refine store_turn (s := { s with heap := h10, toks := tk9 + 1 }) F10 N10 r.hh X T (fun h11 tk11 ht11 F11 N11 => ?_)
      dsimp only at ht11
      have e2 : orb kn z0 z1 (i + 2) = numN kn i (orb kn z0 z1 (i + 1)) - orb kn z0 z1 i := rfl
      have b2 := hb (i + 2) (by omega)
      have o1 := nmA_ok (d0 := d0) (d1 := d1) (i := i) g0 g1 (by omega)
      have o2 := nmB_ok (d0 := d0) (d1 := d1) (i := i) g0 g1 (by omega)
      refine turn_all (s := { s with heap := h11, toks := tk11 }) (d := d9) (KL := (I9, o10) :: K) (tk := tk) (tt := tk9) (P := orb kn z0 z1 i) (q := orb kn z0 z1 (i + 1)) (ms := msN kn z0 z1 i) (i := i) I10.swap F11 (News.sub N11 ?mv2) (.tail _ hca) (.tail _ hwr) X T r (by show 0 < tk11; omega) ?n1 ?n2 ?n3 ?n4 ?n5 ?n6 ?n7 hk hm0 (by show @LT.lt Nat _ tm tk11; omega) hkn (by omega) msN_len (hb i (by omega)) (hb (i + 1) (by omega)) (by rw [← e2]; exact b2)
        o1.o o1.b o2.o o2.b o1.g o2.g (word_fine hk) (met_fine i _ (by rw [← e2]; exact b2)) ?hms (fun d' D ys h' tk' m' hle' I' hD' hy' F' N' ag' hh' hbx' => ?_)
      case mv2 =>
        intro q hq
        have := mvJ q hq
        rcases List.mem_cons.mp this with rfl | hq
        · exact .head _
        · exact .tail _ (List.mem_append_right _ hq)
      case n1 => exact hn9.h1
      case n2 => exact hn9.h2
      case n3 => exact hn9.h3
      case n4 => exact hn9.h4
      case n5 => exact if_pos rfl
      case n6 => exact hd9
      case n7 => rw [hb9]; exact hn9.h7
      case hms =>
        intro l hl
        obtain ⟨j, hj, rfl⟩ := List.mem_map.mp hl
        exact met_fine j _ (hb _ (by have := List.mem_range.mp hj; omega))
      dsimp only at hle'
      rw [dn_nmB, dn_nmA, ← msN_succ] at I'
      rw [dn_nmB, dn_nmA] at N'
      rw [← msN_succ] at hy'
      refine ⟨turnsN kn - i, by omega, i + 1, o10, d', [(D, LCg.lst ys)], m', h', tk', rfl, by omega, by omega, by omega, ho10, I', F', N', ?ag, hh', by rw [hbx', hb9], .inr ⟨D, ys, rfl, hD', hy'⟩, off9⟩
      case ag =>
        intro y hy
        have e1 := ag' y (fun h => hy (show y ∈ (["end", "text", "sent", "told", "later", "number", "word", "head"] : List Str) ++ (["turn"] : List Str) from List.mem_append_left _ h))
        have e3 := ag9 y hy
        rw [e1]
        show (if y = Str.ofString "turn" then _ else m9 y) = m y
        rw [if_neg (fun h => hy (by simp [h])), e3]
end
section
theorem wTop_UA : True ∧ True := by
  w_top off
  (try (walk1; fail))
  exact ⟨trivial, trivial⟩
theorem law_met {f : Addr} {cd : Value} {led : List (Addr × Obj)} {oM : Obj} {v₀ : Option Value} {Qb : Flow → Shared → Prop} (F : Fr h₀ L s.heap m) (N : News h₀ L s.heap ((L + 2, oM) :: led)) (hcl : ∀ p ∈ led, p.1 ≠ L + 2) (hd2 : oM.data = .cell v₀)
  (X : (KF w.params).In h₀) (T : Top p loose mean mg mb h₀) (r : Room A 15 150) (ht : 0 < s.toks)
  (ret : ∀ ml oM' h' tk', oM'.data = .cell (some (.ref ml)) → Fr h₀ L h' m → News h₀ L h' ((ml, lst [] 0) :: (L + 2, oM') :: led) → (∀ p ∈ (L + 2, oM') :: led, p.1 ≠ ml) → Qb .next { s with heap := h', toks := tk' }) :
  wpAny (model prg w) A (exec (lawS 10) (lawEnv L f cd)) Qb (fun _ _ => False) s := by
  rw [show lawS 10 = Stmt.Assign _ _ _ from rfl]
  unfold lawEnv
  conv in lawScope => (whnf; dsimp only)
  obtain ⟨hA, dp, fr, gd, un⟩ := A
  obtain rfl : hA = none := r.hh
  walk_at "steps"
  rename_i l9 h9 F9 N9 lt9
  have lt : ∀ p ∈ led, @LT.lt Nat _ p.1 l9 := ktn_ltOf lt9.2
  refine stCN (c := L + 2) (own := [(l9, lst [] 0)]) (rest := led) F9 N9 (by rfl) hd2 (fun p hp => ?_) hcl (fun h3 oM' F3 N3 e3 => ?_)
  · obtain rfl := List.mem_singleton.mp hp
    exact Nat.ne_of_gt lt9.1
  · refine ret l9 oM' h3 _ e3 F3 N3 (fun p hp => ?_)
    rcases List.mem_cons.mp hp with rfl | hp
    · exact Nat.ne_of_lt lt9.1
    · exact Nat.ne_of_lt (lt p hp)
theorem law_due {f : Addr} {cd : Value} {led : List (Addr × Obj)} {Qb : Flow → Shared → Prop} (F : Fr h₀ L s.heap m) (N : News h₀ L s.heap led)
  (X : (KF w.params).In h₀) (T : Top p loose mean mg mb h₀) (r : Room A 15 150) (ht : 0 < s.toks)
  (ret : ∀ D h' tk', Fr h₀ L h' (fun z => if z = "due" then some (.ref D) else m z) → News h₀ L h' ((D, lst [] 0) :: led) → (∀ p ∈ led, p.1 ≠ D) → Qb .next { s with heap := h', toks := tk' }) :
  wpAny (model prg w) A (exec (lawS 12) (lawEnv L f cd)) Qb (fun _ _ => False) s := by
  rw [show lawS 12 = Stmt.Assign _ _ _ from rfl]
  unfold lawEnv
  conv in lawScope => (whnf; dsimp only)
  obtain ⟨hA, dp, fr, gd, un⟩ := A
  obtain rfl : hA = none := r.hh
  walk_at "steps"
  rename_i l9 h9 lt9 h10 F9 N9
  exact ret l9 h10 _ F9 N9 (fun p hp => Nat.ne_of_lt (lt9 p hp))
end
section
theorem wTop_Row : True ∧ True := by
  w_top off
  (try (walk1; fail))
  exact ⟨trivial, trivial⟩
theorem lit_nowp : Str.ofString "x; n-o-w=\"" = S [120, 59, 32, 110, 45, 111, 45, 119, 61, 34] := by decide +kernel
theorem lit_now0 : Str.ofString "x; n-o-w" = S [120, 59, 32, 110, 45, 111, 45, 119] := by decide +kernel
local macro_rules | `(tactic| walk_at "eval ListComp") => `(tactic| (k_dflt (refine ListComp_D [4, 3, 2, 1, 0] (by k_asm) (by rfl) (by decide) (by rfl) (by decide) (by rfl) ?_)))
local macro_rules | `(tactic| walk_at "SrcD") => `(tactic| (refine SrcD.of (by rfl) ‹_› ‹_› ‹_› (by decide +kernel) (by decide +kernel) (by decide +kernel) (by decide +kernel) ?_; intro g'))
local macro_rules | `(tactic| walk_at "CompRest") => `(tactic| (with_unfolding_all
  (refine LCg.CompRest.succ ?_; intro v' I' oI' C' oC' D' m' h' tk' E' hv' hC' hx' F' N' off' ne'; obtain ⟨k9', t9', e9', hv9'⟩ := hv'; (simp only [List.getElem?_cons_zero, List.getElem?_cons_succ, Option.some.injEq] at e9'); subst e9'; subst hv9'; (have off2' := off'); (try simp only [LCg.Off3, and_true] at off'))))
local macro_rules | `(tactic| walk_at "subscriptTail") => `(tactic| ((with_reducible show wpAny _ _ (subscriptTail _ _ (Value.str _ _) (Value.int _ _)) _ _ _); refine item_apI ?_))
local macro_rules | `(tactic| walk_at "texts") => `(tactic| rw [lit_nil, join5])
local macro_rules | `(tactic| walk_at "call builtin:str.lstrip") => `(tactic| (refine lstrip5 ‹_› ?_; intro t9 k9 ht9; try dsimp only))
local macro_rules | `(tactic| walk_at "compareOp In str str") => `(tactic| (refine in_mark (isMark.lt ‹_›) ?_))
local macro_rules | `(tactic| walk_at "lits") => `(tactic| with_reducible first | exact rfl | exact lit_bs | exact lit_q | exact lit_nowp)
theorem esc_ap (n : Nat) : esc (apL n) = apL n := by
  unfold esc
  have h1 : 92 ∉ apL n := fun h => absurd (apL_mem _ _ h).2 (by decide)
  have h2 : 34 ∉ apL n := fun h => absurd (apL_mem _ _ h).1 (by decide)
  rw [rep1_free' h1, rep1_free' h2]
theorem esc_mark (c : Nat) (l : List Nat) : esc (c :: l) = escM c ++ esc l := by
  have e : esc [c] = escM c := by
    unfold escM
    by_cases h1 : c = 92
    · subst h1; decide
    · by_cases h2 : c = 34
      · subst h2; decide
      · simp [esc, rep1, h1, h2]
  have : esc ([c] ++ l) = esc [c] ++ esc l := by unfold esc; rw [rep1_append, rep1_append]
  rw [← e, ← this]; rfl
theorem row_neg {z : Int} {mk : Nat} (h : z < 0) : [120, 59, 32, 110, 45, 111, 45, 119, 61, 34] ++ (escM mk ++ apL z.natAbs) ++ [34] = [120] ++ [59, 32] ++ fmt [110, 45, 111, 45, 119] (wordL z mk) := by
  rw [wordL_pos h, fmt, if_neg (by simp), esc_mark, esc_ap]; simp
theorem row_pos {z : Int} {mk : Nat} (h : ¬ z < 0) (h0 : z ≠ 0) : [120, 59, 32, 110, 45, 111, 45, 119, 61, 34] ++ apL z.natAbs ++ [34] = [120] ++ [59, 32] ++ fmt [110, 45, 111, 45, 119] (wordL z mk) := by
  have : apL z.natAbs ≠ [] := by rw [apL_step (by omega)]; simp
  rw [wordL_neg h, fmt, if_neg this, esc_ap]; simp
theorem row_zero {mk : Nat} : S ([120] ++ [59, 32] ++ fmt [110, 45, 111, 45, 119] (wordL 0 mk)) = Str.ofString "x; n-o-w" := by
  rw [wordL_neg (by decide), lit_now0, show (0 : Int).natAbs = 0 from rfl, apL_zero, fmt, if_pos rfl]; rfl
theorem escM_pos {mk : Nat} {t : Tok} (h : mk = 34 ∨ mk = 92) : Value.str (S ([92] ++ [mk])) t = .str (S (escM mk)) t := by rw [escM, if_pos h]; rfl
theorem escM_neg {mk : Nat} {t : Tok} (h : ¬ (mk = 34 ∨ mk = 92)) : Value.str (S [mk]) t = .str (S (escM mk)) t := by rw [escM, if_neg h]
theorem escM_len (mk : Nat) : (escM mk).length ≤ 2 := by unfold escM; split <;> simp
theorem tup_eq {x : Value} {a b : List Nat} {t : Tok} (h : a = b) : tup [x, .str (S a) t] = tup [x, .str (S b) t] := by rw [h]
theorem tup_eq0 {x : Value} {z : Int} {mk : Nat} {t : Tok} (h : z = 0) : tup [x, .str (Str.ofString "x; n-o-w") t] = tup [x, .str (S ([120] ++ [59, 32] ++ fmt [110, 45, 111, 45, 119] (wordL z mk))) t] := by subst h; rw [row_zero]
theorem ret_row {h₀ h' : Heap} {L a : Addr} {o o' : Obj} {l : List (Addr × Obj)} (N : News h₀ L h' ((a, o) :: l)) (e : o = o') : News h₀ L h' ((a, o') :: l) := e ▸ N
set_option maxHeartbeats 4000000 in
theorem row_spec (F : Fr h₀ L s.heap m) (N : News h₀ L s.heap news) (X : (KF w.params).In h₀) (T : Top p loose mean mg mb h₀) (r : Room A 5 40) (ht : 0 < s.toks)
  {na : List Nat} {z : Int} {mk : Nat} {tn tz tm : Tok} (hz : z.natAbs < 16 ^ 5) (hk : isMark mk) (hn : na.length ≤ 100)
  (ret : ∀ a t1 t2 h' tk', s.toks ≤ tk' → Fr h₀ L h' m → News h₀ L h' ((a, tup [.str (S na) t1, .str (S ([120] ++ [59, 32] ++ fmt [110, 45, 111, 45, 119] (wordL z mk))) t2]) :: news) → (∀ p ∈ news, p.1 ≠ a) → Q (.ref a) { s with heap := h', toks := tk' }) :
  wpAny (model prg w) A (call (.ref 280) [.str (S na) tn, .int z tz, .str (S [mk]) tm] []) Q E s := by
  refine' enterC (led := []) (rest := news) (binds := [("name", .str (S na) tn), ("number", .int z tz), ("mark", .str (S [mk]) tm)]) F N Apart.nil X T r ht ?k6 ?k7 ?k9 ?kB ?kN ?_ ?c2 ?c3 ?c4
  case k6 => k_is
  case k7 => k_is
  case k9 => exact BindsTo.of_eq rfl
  case kB =>
    intro n x hx
    rcases List.mem_cons.mp hx with rfl | hx
    · exact .inl rfl
    rcases List.mem_cons.mp hx with rfl | hx
    · exact .inr ⟨rfl, rfl⟩
    obtain rfl := List.mem_singleton.mp hx
    exact .inl rfl
  case kN => decide
  case c2 => rfl
  case c3 => rfl
  case c4 => rfl
  intro g' L' h' tk' cells dp fr gd un Qb F' N' Y X' T' r' l1 ht' htt' back backN
  obtain ⟨oC, rfl, hC⟩ := CellsAre.one' Y
  clear F N X T
  simp only [List.cons_append, List.nil_append] at N'
  have hlen := apL_len 5 z.natAbs hz
  have hesc := escM_len mk
  walk_at "stepsI"
  · refine text_cut (escM mk) (by assumption) (by assumption) ?_ ?_
    · refine IfExp_ ?_
      walk_at "steps"
      · exact TextR.of (by assumption) (by assumption) (escM_pos (by assumption)) (by dsimp only at *; omega)
      · exact TextR.of (by assumption) (by assumption) (escM_neg (by assumption)) (by dsimp only at *; omega)
    intro t9 h9 k9 ht9 F9 N9; try dsimp only
    walk_at "steps"
    all_goals (refine back _ _ _ _ _ (by assumption) (by assumption) (fun F N ap9 ht => ?_))
    · refine ret _ _ _ _ _ ht F (ret_row (News.sub N (by walk_at "sub")) (tup_eq (row_neg (by assumption)))) (fun p hp => ap9 p hp (_, _) (by k_mem))
  · walk_at "steps"
    all_goals (refine back _ _ _ _ _ (by assumption) (by assumption) (fun F N ap9 ht => ?_))
    · refine ret _ _ _ _ _ ht F (ret_row (News.sub N (by walk_at "sub")) (tup_eq (row_pos (by assumption) (by simp at *; omega)))) (fun p hp => ap9 p hp (_, _) (by k_mem))
    · refine ret _ _ _ _ _ ht F (ret_row (News.sub N (by walk_at "sub")) (tup_eq0 (by simp at *; omega))) (fun p hp => ap9 p hp (_, _) (by k_mem))
end
section
theorem wTop_UB : True ∧ True := by
  w_top off
  (try (walk1; fail))
  exact ⟨trivial, trivial⟩
noncomputable def dueBody : List Stmt := match lawS 13 with
  | .For _ _ body _ _ => body
  | _ => []
noncomputable def dueS (i : Nat) : Stmt := dueBody.getD i (.Pass ⟨0, 0, 0, 0⟩)
theorem due2 : dueBody = [dueS 0, dueS 1] := by
  have h : dueBody.length = 2 := by decide +kernel
  unfold dueS
  generalize dueBody = l at h ⊢
  match l, h with
  | [a, b], _ => rfl
theorem due_place {f : Addr} {cd : Value} {led : List (Addr × Obj)} {k n : Nat} {tk tt : Tok} {Qb : Flow → Shared → Prop} (F : Fr h₀ L s.heap m) (N : News h₀ L s.heap led)
  (X : (KF w.params).In h₀) (T : Top p loose mean mg mb h₀) (r : Room A 15 150) (ht : 0 < s.toks) (h1 : m "turns" = some (.int (n : Int) tt)) (h2 : m "k" = some (.int (k : Int) tk))
  (ret : ∀ tp h' tk' m', Agree ["place"] m m' → m' "place" = some (.int (((n + k) % 2 : Nat) : Int) tp) → Fr h₀ L h' m' → News h₀ L h' led → Qb .next { s with heap := h', toks := tk' }) :
  wpAny (model prg w) A (exec (dueS 0) (lawEnv L f cd)) Qb (fun _ _ => False) s := by
  rw [show dueS 0 = Stmt.Assign _ _ _ from rfl]
  unfold lawEnv
  conv in lawScope => (whnf; dsimp only)
  obtain ⟨hA, dp, fr, gd, un⟩ := A
  obtain rfl : hA = none := r.hh
  walk_at "steps"
  have e : ((n : Int) + (k : Int)).fmod 2 = (((n + k) % 2 : Nat) : Int) := by
    rw [show ((n : Int) + (k : Int)) = ((n + k : Nat) : Int) from rfl]
    rw [Int.fmod_eq_emod_of_nonneg _ (by decide)]; rfl
  refine' ret _ _ _ _ ?ag ?m1 ?F ?N
  case F => assumption
  case m1 =>
    show some (Value.int (((n : Int) + (k : Int)).fmod 2) _) = _
    rw [e]
  case N => assumption
  case ag =>
    intro x hx
    simp only [List.mem_cons, List.not_mem_nil, or_false] at hx
    simp only [hx, if_false]
theorem it_ab0 : Txt.item (Str.ofString "ab") ((0 : Nat) : Int) = S [97] := by decide +kernel
theorem it_ab1 : Txt.item (Str.ofString "ab") ((1 : Nat) : Int) = S [98] := by decide +kernel
theorem dotsI {prog : Program} {i : Int} {t u : Tok} (h0 : 0 ≤ i) (h1 : i < 20) (h : ∀ t' k, s.toks ≤ k → Q (.str (S (List.replicate i.toNat 46)) t') { s with toks := k }) :
    wpAny (model prog w) A (binaryOp .Mult (.str (Str.ofString ".") t) (.int i u)) Q E s := dotsM (d := i.toNat) (by omega) (by omega) h
theorem add_ab0 {prog : Program} {a : List Nat} {t u : Tok} (hz : a.length ≤ 100) (h : ∀ t' k, s.toks ≤ k → Q (.str (S (a ++ [97])) t') { s with toks := k }) :
    wpAny (model prog w) A (binaryOp .Add (.str (S a) t) (.str (Txt.item (Str.ofString "ab") ((0 : Nat) : Int)) u)) Q E s := by
  rw [it_ab0]
  exact add_S rfl rfl (by simp; omega) h
theorem add_ab1 {prog : Program} {a : List Nat} {t u : Tok} (hz : a.length ≤ 100) (h : ∀ t' k, s.toks ≤ k → Q (.str (S (a ++ [98])) t') { s with toks := k }) :
    wpAny (model prog w) A (binaryOp .Add (.str (S a) t) (.str (Txt.item (Str.ofString "ab") ((1 : Nat) : Int)) u)) Q E s := by
  rw [it_ab1]
  exact add_S rfl rfl (by simp; omega) h
theorem nmX_pos {d c n : Nat} (h : (0 : Int) < (d : Int)) : S (List.replicate ((d : Int) + (n : Int)).toNat 46 ++ [c]) = S (nmD d c n) := by
  rw [nmD, if_neg (by omega), show ((d : Int) + (n : Int)).toNat = d + n by omega]
theorem nmX_zero {d c n : Nat} (h : ¬ (0 : Int) < (d : Int)) : S (List.replicate (0 : Int).toNat 46 ++ [c]) = S (nmD d c n) := by
  rw [nmD, if_pos (by omega)]; rfl
local macro_rules | `(tactic| walk_at "binaryOp Mult str int") => `(tactic| (refine dotsI (by first | decide | omega) (by first | decide | omega) ?_; intro t9 k9 hk9; try dsimp only))
local macro_rules | `(tactic| walk_at "binaryOp Add str str") => `(tactic| (first | (refine add_ab0 (by rw [List.length_replicate]; omega) ?_; intro t9 k9 hk9; try dsimp only) | (refine add_ab1 (by rw [List.length_replicate]; omega) ?_; intro t9 k9 hk9; try dsimp only)))
theorem due_rot {a b : Addr × Obj} {l : List (Addr × Obj)} : ∀ q ∈ b :: a :: l, q ∈ a :: b :: l := by
  (try simp only [List.cons_append, List.nil_append])
  walk_at "subs"
theorem row_at {tk0 : Nat} (F : Fr h₀ L s.heap m) (N : News h₀ L s.heap news) (X : (KF w.params).In h₀) (T : Top p loose mean mg mb h₀) (r : Room A 5 40) (ht : 0 < tk0)
  {na : List Nat} {z : Int} {mk : Nat} {tn tz tm : Tok} (hz : z.natAbs < 16 ^ 5) (hk : isMark mk) (hn : na.length ≤ 100)
  (ret : ∀ a t1 t2 h' tk', tk0 ≤ tk' → Fr h₀ L h' m → News h₀ L h' ((a, tup [.str (S na) t1, .str (S (valL (wordL z mk))) t2]) :: news) → (∀ p ∈ news, p.1 ≠ a) → Q (.ref a) { s with heap := h', toks := tk' }) :
  wpAny (model prg w) A (call (.ref 280) [.str (S na) tn, .int z tz, .str (S [mk]) tm] []) Q E { s with toks := tk0 } :=
  row_spec (s := { s with toks := tk0 }) F N X T r ht hz hk hn ret
set_option maxHeartbeats 2000000 in
theorem due_add {f : Addr} {cd : Value} {led : List (Addr × Obj)} {D dd NN : Addr} {vs : List Value} {n nd nn pl k Tn d0 d1 mk : Nat} {z0 z1 : Int} {tk tt tp tm ta tb tc td tD : Tok} {Qb : Flow → Shared → Prop}
  (F : Fr h₀ L s.heap m) (N : News h₀ L s.heap ((D, lst vs n) :: (dd, lst [.int (d0 : Int) ta, .int (d1 : Int) tb] nd) :: (NN, lst [.int z0 tc, .int z1 td] nn) :: led)) (hap : ∀ p ∈ (dd, lst [.int (d0 : Int) ta, .int (d1 : Int) tb] nd) :: (NN, lst [.int z0 tc, .int z1 td] nn) :: led, p.1 ≠ D) (hvs : vs.length ≤ 100)
  (X : (KF w.params).In h₀) (T : Top p loose mean mg mb h₀) (r : Room A 15 150) (ht : 0 < s.toks) (h1 : m "turns" = some (.int (Tn : Int) tt)) (h2 : m "k" = some (.int (k : Int) tk)) (h3 : m "place" = some (.int (pl : Int) tp)) (h4 : m "dots" = some (.ref dd)) (h5 : m "numbers" = some (.ref NN)) (h6 : m "mark" = some (.str (S [mk]) tm)) (h7 : m "due" = some (.ref D))
  (hpl : pl < 2) (hkk : k < 2) (g0 : d0 < 3) (g1 : d1 < 3) (hT : Tn < 10) (hmk : isMark mk) (hz0 : z0.natAbs ≤ 1000000) (hz1 : z1.natAbs ≤ 1000000)
  (ret : ∀ a t1 t2 h' tk', Fr h₀ L h' m → News h₀ L h' ((D, lst (vs ++ [.ref a]) (n + 1)) :: (a, tup [.str (S (if pl = 0 then nmD d0 97 Tn else nmD d1 98 Tn)) t1, .str (S (valL (wordL (if k = 0 then z0 else z1) mk))) t2]) :: (dd, lst [.int (d0 : Int) ta, .int (d1 : Int) tb] nd) :: (NN, lst [.int z0 tc, .int z1 td] nn) :: led) →
    (∀ p ∈ (D, lst vs n) :: (dd, lst [.int (d0 : Int) ta, .int (d1 : Int) tb] nd) :: (NN, lst [.int z0 tc, .int z1 td] nn) :: led, p.1 ≠ a) → Qb .next { s with heap := h', toks := tk' }) :
  wpAny (model prg w) A (exec (dueS 1) (lawEnv L f cd)) Qb (fun _ _ => False) s := by
  rw [show dueS 1 = Stmt.Expr _ _ from rfl]
  unfold lawEnv
  conv in lawScope => (whnf; dsimp only)
  obtain ⟨hA, dp, fr, gd, un⟩ := A
  obtain rfl : hA = none := r.hh
  have ek : [z0, z1].getD ((k : Int)).toNat 0 = if k = 0 then z0 else z1 := by
    obtain rfl | rfl : k = 0 ∨ k = 1 := by omega
    · rfl
    · rfl
  have hzz : (if k = 0 then z0 else z1).natAbs < 16 ^ 5 := by split <;> omega
  have n0 := (nmD_ok (d := d0) (c := 97) (i := Tn) g0 (by omega) (.inl rfl)).b
  have n1 := (nmD_ok (d := d1) (c := 98) (i := Tn) g1 (by omega) (.inr rfl)).b
  iterate 10 (walk_at "one")
  have F9 := (by assumption : Fr h₀ L _ _)
  have N9 := (by assumption : News h₀ L _ _)
  have hgA : 0 ≤ [(d0 : Int), (d1 : Int)].getD ((pl : Int)).toNat 0 := by
    obtain rfl | rfl : pl = 0 ∨ pl = 1 := by omega
    · exact Int.ofNat_nonneg d0
    · exact Int.ofNat_nonneg d1
  have hgB : [(d0 : Int), (d1 : Int)].getD ((pl : Int)).toNat 0 < 3 := by
    obtain rfl | rfl : pl = 0 ∨ pl = 1 := by omega
    · exact Int.ofNat_lt.mpr g0
    · exact Int.ofNat_lt.mpr g1
  refine text_cut (if pl = 0 then nmD d0 97 Tn else nmD d1 98 Tn) F9 N9 ?_ (fun tt9 h9 k9 hk9 F8 N8 => ?_)
  · clear ret
    obtain rfl | rfl : pl = 0 ∨ pl = 1 := by omega
    · walk_at "steps"
      · exact TextR.of F9 N9 (congrArg (fun z => Value.str z _) ((nmX_pos (d := d0) ‹(0 : Int) < [(d0 : Int), (d1 : Int)].getD (((0 : Nat) : Int)).toNat 0›).trans (by rw [if_pos rfl]))) (by (try dsimp only at *); omega)
      · exact TextR.of F9 N9 (congrArg (fun z => Value.str z _) ((nmX_zero (d := d0) ‹¬ (0 : Int) < [(d0 : Int), (d1 : Int)].getD (((0 : Nat) : Int)).toNat 0›).trans (by rw [if_pos rfl]))) (by (try dsimp only at *); omega)
    · walk_at "steps"
      · exact TextR.of F9 N9 (congrArg (fun z => Value.str z _) ((nmX_pos (d := d1) ‹(0 : Int) < [(d0 : Int), (d1 : Int)].getD (((1 : Nat) : Int)).toNat 0›).trans (by rw [if_neg (by decide)]))) (by (try dsimp only at *); omega)
      · exact TextR.of F9 N9 (congrArg (fun z => Value.str z _) ((nmX_zero (d := d1) ‹¬ (0 : Int) < [(d0 : Int), (d1 : Int)].getD (((1 : Nat) : Int)).toNat 0›).trans (by rw [if_neg (by decide)]))) (by (try dsimp only at *); omega)
  · dsimp only at hk9 ⊢
    walk_at "steps"
    rw [ek]
    have F7 := (by assumption : Fr h₀ L _ _)
    have N7 := (by assumption : News h₀ L _ _)
    have hnl : (if pl = 0 then nmD d0 97 Tn else nmD d1 98 Tn).length ≤ 100 := by split <;> omega
    refine row_spec F7 N7 X T (Room.less r (by omega) (by omega)) ?htk hzz hmk hnl (fun a8 t6 t7 h7 tk7 ht7 F6 N6 ap7 => ?_)
    case htk => (try dsimp only); omega
    refine Wt.intro fun htw7 => ?_
    dsimp only at htw7 ⊢
    walk_at "steps"
    have N5 := News.sub N6 due_rot
    refine append_led F6 N5 ?ap (by omega) (fun h5 F5 N5 => ?_)
    case ap =>
      intro q hq
      rcases List.mem_cons.mp hq with rfl | hq
      · exact (ap7 _ (.head _)).symm
      · exact hap q hq
    refine Wt.intro fun htw9 => ?_
    walk_at "steps"
    exact ret a8 t6 t7 h5 _ F5 N5 ap7
end
section
theorem wTop_UC : True ∧ True := by
  w_top off
  (try (walk1; fail))
  exact ⟨trivial, trivial⟩
theorem store_k {f : Addr} {cd v : Value} {Q : Unit → Shared → Prop} (F : Fr h₀ L s.heap m) (N : News h₀ L s.heap news) (hA : A.handled = none) (X : (KF w.params).In h₀) (T : Top p loose mean mg mb h₀)
  (h : ∀ h' tk', s.toks ≤ tk' → Fr h₀ L h' (fun z => if z = Str.ofString "k" then some v else m z) → News h₀ L h' news → Q () { s with heap := h', toks := tk' }) : wpAny (model prg w) A (storeName (lawEnv L f cd) (Str.ofString "k") v) Q E s := by
  unfold lawEnv
  conv in lawScope => (whnf; dsimp only)
  obtain ⟨hA', dp, fr, gd, un⟩ := A
  obtain rfl : hA' = none := hA
  walk_at "steps"
  exact h _ _ (by omega) (by assumption) (by assumption)
noncomputable abbrev dueRow (d0 d1 Tn mk : Nat) (z0 z1 : Int) (k : Nat) (t1 t2 : Tok) : Obj := tup [.str (S (if (Tn + k) % 2 = 0 then nmD d0 97 Tn else nmD d1 98 Tn)) t1, .str (S (valL (wordL (if k = 0 then z0 else z1) mk))) t2]
/-- the due list, i rows on -/
noncomputable def DueP (row : Nat → Tok → Tok → Obj) (base : List (Addr × Obj)) (i : Nat) (vs : List Value) (B : List (Addr × Obj)) : Prop :=
  (i = 0 ∧ vs = [] ∧ B = base) ∨ (i = 1 ∧ ∃ a t1 t2, vs = [.ref a] ∧ B = (a, row 0 t1 t2) :: base) ∨ (i = 2 ∧ ∃ a b t1 t2 t3 t4, vs = [.ref a, .ref b] ∧ B = (b, row 1 t3 t4) :: (a, row 0 t1 t2) :: base)
theorem DueP.base {row : Nat → Tok → Tok → Obj} {base B : List (Addr × Obj)} {i : Nat} {vs : List Value} (h : DueP row base i vs B) : ∀ q ∈ base, q ∈ B := by
  intro q hq
  rcases h with ⟨_, _, rfl⟩ | ⟨_, a, t1, t2, _, rfl⟩ | ⟨_, a, b, t1, t2, t3, t4, _, rfl⟩
  · exact hq
  · exact .tail _ hq
  · exact .tail _ (.tail _ hq)
theorem DueP.len {row : Nat → Tok → Tok → Obj} {base B : List (Addr × Obj)} {i : Nat} {vs : List Value} (h : DueP row base i vs B) : vs.length ≤ 2 := by
  rcases h with ⟨_, rfl, rfl⟩ | ⟨_, a, t1, t2, rfl, rfl⟩ | ⟨_, a, b, t1, t2, t3, t4, rfl, rfl⟩ <;> simp
theorem DueP.step {row : Nat → Tok → Tok → Obj} {base B : List (Addr × Obj)} {i : Nat} {vs : List Value} {a : Addr} {t1 t2 : Tok} (h : DueP row base i vs B) (hi : i < 2) : DueP row base (i + 1) (vs ++ [.ref a]) ((a, row i t1 t2) :: B) := by
  rcases h with ⟨rfl, rfl, rfl⟩ | ⟨rfl, b, t3, t4, rfl, rfl⟩ | ⟨rfl, _⟩
  · exact .inr (.inl ⟨rfl, a, t1, t2, rfl, rfl⟩)
  · exact .inr (.inr ⟨rfl, b, a, t3, t4, t1, t2, rfl, rfl⟩)
  · omega
inductive DInv (h₀ : Heap) (L : Addr) (s : Shared) (m : Str → Option Value) (row : Nat → Tok → Tok → Obj) (base : List (Addr × Obj)) (D I : Addr) (k : Nat) (s' : Shared) : Prop
  | mk (i : _) (o : _) (vs : _) (B : _) (m' : _) (h' : _) (tk' : _)
    (c0 : s' = { s with heap := h', toks := tk' }) (c1 : s.toks ≤ tk') (c2 : i ≤ 2) (c3 : 2 - i < k) (c4 : RgObj o 2 i) (c5 : DueP row base i vs B) (c6 : Fr h₀ L h' m') (c7 : News h₀ L h' ((I, o) :: (D, lst vs i) :: B)) (c8 : Agree ["k", "place"] m m') (c9 : (∀ p ∈ (D, lst vs i) :: B, p.1 ≠ I)) (c10 : (∀ p ∈ B, p.1 ≠ D)) : DInv h₀ L s m row base D I k s'
set_option maxHeartbeats 2000000 in
theorem law_dues {f : Addr} {cd : Value} {led : List (Addr × Obj)} {D dd NN : Addr} {nd nn Tn d0 d1 mk : Nat} {z0 z1 : Int} {tt tm ta tb tc td : Tok} {Qb : Flow → Shared → Prop}
  (F : Fr h₀ L s.heap m) (N : News h₀ L s.heap ((D, lst [] 0) :: (dd, lst [.int (d0 : Int) ta, .int (d1 : Int) tb] nd) :: (NN, lst [.int z0 tc, .int z1 td] nn) :: led)) (hap : ∀ p ∈ (dd, lst [.int (d0 : Int) ta, .int (d1 : Int) tb] nd) :: (NN, lst [.int z0 tc, .int z1 td] nn) :: led, p.1 ≠ D)
  (X : (KF w.params).In h₀) (T : Top p loose mean mg mb h₀) (r : Room A 15 150) (ht : 0 < s.toks) (h1 : m "turns" = some (.int (Tn : Int) tt)) (h4 : m "dots" = some (.ref dd)) (h5 : m "numbers" = some (.ref NN)) (h6 : m "mark" = some (.str (S [mk]) tm)) (h7 : m "due" = some (.ref D))
  (g0 : d0 < 3) (g1 : d1 < 3) (hT : Tn < 10) (hmk : isMark mk) (hz0 : z0.natAbs ≤ 1000000) (hz1 : z1.natAbs ≤ 1000000)
  (ret : ∀ a b t1 t2 t3 t4 m' h' tk', s.toks ≤ tk' → Agree ["k", "place"] m m' → Fr h₀ L h' m' → News h₀ L h' ((D, lst [.ref a, .ref b] 2) :: (b, dueRow d0 d1 Tn mk z0 z1 1 t3 t4) :: (a, dueRow d0 d1 Tn mk z0 z1 0 t1 t2) :: (dd, lst [.int (d0 : Int) ta, .int (d1 : Int) tb] nd) :: (NN, lst [.int z0 tc, .int z1 td] nn) :: led) → Qb .next { s with heap := h', toks := tk' }) :
  wpAny (model prg w) A (exec (lawS 13) (lawEnv L f cd)) Qb (fun _ _ => False) s := by
  rw [show lawS 13 = Stmt.For (.Name (Str.ofString "k") _) _ dueBody [] _ from rfl]
  refine For_own2 (DInv h₀ L s m (dueRow d0 d1 Tn mk z0 z1) ((dd, lst [.int (d0 : Int) ta, .int (d1 : Int) tb] nd) :: (NN, lst [.int z0 tc, .int z1 td] nn) :: led) D) 3 ?src ?turn
  case src =>
    unfold lawEnv
    conv in lawScope => (whnf; dsimp only)
    obtain ⟨hA', dp, fr, gd, un⟩ := A
    obtain rfl : hA' = none := r.hh
    walk_at "steps"
    have F9 := (by assumption : Fr h₀ L _ _)
    have N9 := (by assumption : News h₀ L _ ((D, lst [] 0) :: _))
    refine rgl_iter (n := 2) F9 N9 (by assumption) (by omega) (fun I9 o9 h9 ho9 F2 N2 lt => ⟨I9, rfl, 0, o9, [], _, _, h9, _, rfl, ?tk, by omega, by omega, ho9, .inl ⟨rfl, rfl, rfl⟩, F2, N2, fun _ _ => rfl, fun q hq => Nat.ne_of_lt (lt q hq), hap⟩)
    case tk => (try dsimp only); omega
  case turn =>
    intro I9 k s' hk9
    obtain ⟨i, o, vs, B, m9, h9, tk9, rfl, htk9, hi9, hik, ho9, hB9, F9, N9, ag9, off9, ap9⟩ := hk9
    refine rgl_next (s := { s with heap := h9, toks := tk9 }) r.hh F9 N9 off9 ho9 (fun hle h10 F10 N10 => ?_) (fun hlt o10 h10 ho10 F10 N10 => ?_) hi9
    · obtain rfl : i = 2 := by omega
      show Qb .next _
      rcases hB9 with ⟨e, _⟩ | ⟨e, _⟩ | ⟨_, a, b, t1, t2, t3, t4, rfl, rfl⟩
      · omega
      · omega
      · exact ret a b t1 t2 t3 t4 m9 h10 tk9 htk9 ag9 F10 N10
    · show wpAny _ _ (storeName _ _ _) _ _ _
      refine store_k (s := { s with heap := h10, toks := tk9 + 1 }) F10 N10 r.hh X T (fun h11 tk11 ht11 F11 N11 => ?_)
      dsimp only at ht11
      rw [due2]
      refine wpAny_execs_cons (withT ?_)
      refine due_place (s := { s with heap := h11, toks := tk11 }) (n := Tn) (k := i) (tk := tk9) F11 N11 X T r (by show 0 < tk11; omega) (tt := tt) ?m1 (if_pos rfl) (fun tp h12 tk12 m12 ag12 hm12 F12 N12 => ?_)
      case m1 => exact (if_neg (by decide)).trans (ag9.get h1)
      refine Wt.intro fun htw => ?_
      dsimp only at htw ⊢
      refine wpAny_execs_cons (withT ?_)
      have hbs := hB9.base
      have g12 : ∀ {x : Str} {v : Option Value}, m x = v → x ∉ (["k", "place"] : List Str) → m12 x = v := fun {x v} hx hn => by
        have e1 : x ∉ (["place"] : List Str) := fun q => hn (List.mem_cons_of_mem _ q)
        rw [ag12 x e1]
        show (if x = Str.ofString "k" then _ else m9 x) = v
        rw [if_neg (fun e => hn (by rw [e]; exact .head _)), ag9 x hn, hx]
      refine due_add (s := { s with heap := h12, toks := tk12 }) (D := D) (dd := dd) (NN := NN) (vs := vs) (n := i) (nd := nd) (nn := nn) (pl := (Tn + i) % 2) (k := i) (Tn := Tn) (d0 := d0) (d1 := d1) (mk := mk) (z0 := z0) (z1 := z1) (tk := tk9) (tt := tt) (tp := tp) (tm := tm) (ta := ta) (tb := tb) (tc := tc) (td := td) (tD := tt) (led := (I9, o10) :: B) F12 (News.sub N12 ?mv) ?ap (by have := hB9.len; omega) X T r (by show 0 < tk12; omega) (g12 h1 (by decide)) ?mk hm12 (g12 h4 (by decide)) (g12 h5 (by decide)) (g12 h6 (by decide)) (g12 h7 (by decide)) (Nat.mod_lt _ (by decide)) hlt g0 g1 hT hmk hz0 hz1 (fun a t1 t2 h' tk' F' N' ap' => ?_)
      case mv =>
        intro q hq
        simp only [List.mem_cons] at hq
        rcases hq with rfl | rfl | rfl | rfl | hq
        · exact .tail _ (.head _)
        · exact .tail _ (.tail _ (hbs _ (.head _)))
        · exact .tail _ (.tail _ (hbs _ (.tail _ (.head _))))
        · exact .head _
        · exact .tail _ (.tail _ hq)
      case ap =>
        intro q hq
        simp only [List.mem_cons] at hq
        rcases hq with rfl | rfl | rfl | hq
        · exact hap _ (.head _)
        · exact hap _ (.tail _ (.head _))
        · exact (off9 (D, lst vs i) (.head _)).symm
        · exact ap9 q hq
      case mk =>
        rw [ag12 _ (by decide)]
        exact if_pos rfl
      refine Wt.intro fun htw2 => ?_
      refine wpAny_execs_nil ?_
      dsimp only at htw2
      refine ⟨2 - i, by omega, i + 1, o10, vs ++ [.ref a], (a, dueRow d0 d1 Tn mk z0 z1 i t1 t2) :: B, m12, h', tk', rfl, by omega, by omega, by omega, ho10, hB9.step hlt, F', News.sub N' ?mv2, ?ag, ?off, ?apD⟩
      case mv2 =>
        intro q hq
        simp only [List.mem_cons] at hq
        rcases hq with rfl | rfl | rfl | hq
        · exact .tail _ (.tail _ (.tail _ (.tail _ (.head _))))
        · exact .head _
        · exact .tail _ (.head _)
        · exact .tail _ (.tail _ (.tail _ (.tail _ (.tail _ hq))))
      case ag => exact fun x hx => g12 rfl hx
      case off =>
        intro q hq
        simp only [List.mem_cons] at hq
        rcases hq with rfl | rfl | hq
        · exact off9 (D, lst vs i) (.head _)
        · exact (ap' (I9, o10) (.tail _ (.tail _ (.tail _ (.head _))))).symm
        · exact off9 q (.tail _ hq)
      case apD =>
        intro q hq
        rcases List.mem_cons.mp hq with rfl | hq
        · exact (ap' (D, lst vs i) (.head _)).symm
        · exact ap9 q hq
end
section
theorem wTop_UD : True ∧ True := by
  w_top off
  (try (walk1; fail))
  exact ⟨trivial, trivial⟩
noncomputable def firstsCt : Expr := match lawS 14 with
  | .Assign _ (.ListComp _ [⟨_, _, [c], _⟩] _ _) _ => c
  | _ => .Name (Str.ofString "") ⟨0, 0, 0, 0⟩
noncomputable def firstsElt : Expr := match lawS 14 with
  | .Assign _ (.ListComp e _ _ _) _ => e
  | _ => .Name (Str.ofString "") ⟨0, 0, 0, 0⟩
noncomputable def firstsScope : Scope := match lawS 14 with
  | .Assign _ (.ListComp _ _ sc _) _ => sc
  | _ => default
theorem getX {ls : List (List Nat)} {i : Nat} (h : i < ls.length) : (ls.map S).getD ((i : Int)).toNat Str.empty = S ls[i] := by
  simp [List.getD, List.getElem?_eq_getElem h]
set_option maxHeartbeats 2000000 in
theorem firsts_ct {f C I D Dz : Addr} {cd : Value} {oI oC oS : Obj} {ys zs : List Value} {m2 : Str → Option Value} {news : List (Addr × Obj)} {xs : List (List Nat)} {i : Nat} {t : Tok} {Q : Bool → Shared → Prop} {E : Value → Shared → Prop} (F : Fr h₀ L s.heap m) (N : News h₀ L s.heap ((I, oI) :: (C, oC) :: (D, LCg.lst ys) :: (Dz, LCg.lst zs) :: (L + 4, oS) :: news)) (hd4 : oS.data = .cell (some (.ref Dz))) (hy : StrsAre zs (xs.map S)) (hC : LCg.NsObj oC m2) (h1 : m2 (Str.ofString "k") = some (.int (i : Int) t))
  (X : (KF w.params).In h₀) (T : Top p loose mean mg mb h₀) (hi : i < xs.length) (hz : xs.length ≤ 100) (hA : A.handled = none)
  (h : ∀ h' tk', Fr h₀ L h' m → News h₀ L h' ((I, oI) :: (C, oC) :: (D, LCg.lst ys) :: (Dz, LCg.lst zs) :: (L + 4, oS) :: news) → Q (decide (xs.idxOf xs[i] = i)) { s with heap := h', toks := tk' }) :
  wpAny (model prg w) A (isTrue firstsCt (compEnvC firstsScope [(Str.ofString "sizes", L + 4)] C (lawEnv L f cd)) (eval firstsCt (compEnvC firstsScope [(Str.ofString "sizes", L + 4)] C (lawEnv L f cd)))) Q E s := by
  obtain ⟨hA', dp, fr, gd, un⟩ := A
  obtain rfl : hA' = none := hA
  rw [show firstsCt = Expr.Compare _ _ _ _ from rfl]
  unfold lawEnv
  conv in lawScope => (whnf; dsimp only)
  conv in firstsScope => (whnf; dsimp only)
  walk_at "steps"
  rw [getX hi]
  have N9 := (by assumption : News h₀ L _ (_ :: _ :: _ :: (Dz, LCg.lst zs) :: _))
  refine index_strs (N9.get (by k_mem)) hy (List.getElem_mem hi) (by omega) ?_
  refine Wt.intro fun htw => ?_
  dsimp only at htw ⊢
  walk_at "steps"
  have e : (((xs.idxOf xs[i] : Nat) : Int) == (i : Int)) = decide (xs.idxOf xs[i] = i) := by
    by_cases q : xs.idxOf xs[i] = i
    · simp [q]
    · simp [q]; omega
  rw [e]
  exact h _ _ (by assumption) N9
theorem firsts_elt {f C I D : Addr} {cd : Value} {oI oC : Obj} {ys : List Value} {m2 : Str → Option Value} {news : List (Addr × Obj)} {i : Nat} {t : Tok} {s₁ : Shared} {rest : Value → List (Addr × Obj) → Prop} {E : Value → Shared → Prop} {h' : Heap} {tk' : Nat} (F : Fr h₀ L h' m) (N : News h₀ L h' ((I, oI) :: (C, oC) :: (D, LCg.lst ys) :: news)) (off : LCg.Off3 I C D news) (hC : LCg.NsObj oC m2) (h1 : m2 (Str.ofString "k") = some (.int (i : Int) t))
  (X : (KF w.params).In h₀) (T : Top p loose mean mg mb h₀) (hA : A.handled = none)
  (ret : rest (.int (i : Int) t) news) :
  wpAny (model prg w) A (eval firstsElt (compEnvC firstsScope [(Str.ofString "sizes", L + 4)] C (lawEnv L f cd))) (LCg.CompEnd h₀ L m s₁ I oI C oC D (LCg.lst ys) (fun _ => True) rest) E { s₁ with heap := h', toks := tk' } := by
  obtain ⟨hA', dp, fr, gd, un⟩ := A
  obtain rfl : hA' = none := hA
  rw [show firstsElt = Expr.Name _ _ from rfl]
  unfold lawEnv
  conv in lawScope => (whnf; dsimp only)
  conv in firstsScope => (whnf; dsimp only)
  walk_at "steps"
  exact ret
/-- the values are these whole numbers -/
noncomputable def NatsAre (vs : List Value) (ks : List Nat) : Prop := vs.length = ks.length ∧ ∀ (j : Nat) (v : Value), vs[j]? = some v → ∃ (k : Nat) (t : Tok), ks[j]? = some k ∧ v = Value.int ((k : Nat) : Int) t
theorem NatsAre.nil : NatsAre [] [] := ⟨rfl, fun j v h => by simp at h⟩
theorem NatsAre.snoc {vs : List Value} {ks : List Nat} {k : Nat} {t : Tok} (h : NatsAre vs ks) : NatsAre (vs ++ [Value.int (k : Int) t]) (ks ++ [k]) := by
  refine ⟨by simp [h.1], fun j v hv => ?_⟩
  by_cases hj : j < vs.length
  · rw [List.getElem?_append_left hj] at hv
    obtain ⟨k', t', h1, h2⟩ := h.2 j v hv
    exact ⟨k', t', by rw [List.getElem?_append_left (by rw [← h.1]; exact hj)]; exact h1, h2⟩
  · have hj2 : j < (vs ++ [Value.int (k : Int) t]).length := by
      by_cases q : j < (vs ++ [Value.int (k : Int) t]).length
      · exact q
      · rw [List.getElem?_eq_none (by omega)] at hv; cases hv
    have hj3 : j = vs.length := by simp at hj2; omega
    subst hj3
    rw [List.getElem?_append_right (Nat.le_refl _)] at hv
    simp at hv
    subst hv
    refine ⟨k, t, ?_, rfl⟩
    rw [h.1, List.getElem?_append_right (Nat.le_refl _)]
    simp
noncomputable def fstT (xs : List (List Nat)) (i : Nat) : List Nat := (List.range i).filter fun k => decide (xs.idxOf (xs.getD k []) = k)
theorem fstT_succ {xs : List (List Nat)} {i : Nat} (hi : i < xs.length) : fstT xs (i + 1) = if xs.idxOf xs[i] = i then fstT xs i ++ [i] else fstT xs i := by
  have e : xs.getD i [] = xs[i] := by rw [List.getD_eq_getElem?_getD, List.getElem?_eq_getElem hi]; rfl
  unfold fstT
  rw [List.range_succ, List.filter_append, List.filter_cons, List.filter_nil, e]
  by_cases h : xs.idxOf xs[i] = i
  · rw [if_pos h, if_pos (by simpa using h)]
  · rw [if_neg h, if_neg (by simpa using h), List.append_nil]
theorem firsts_rest {f Dz : Addr} {cd : Value} {s₀ : Shared} {oS : Obj} {zs : List Value} {xs : List (List Nat)} {led : List (Addr × Obj)} {Fin : List Value → List (Addr × Obj) → Prop} (hd4 : oS.data = .cell (some (.ref Dz))) (hy : StrsAre zs (xs.map S)) (hz : xs.length ≤ 100)
  (X : (KF w.params).In h₀) (T : Top p loose mean mg mb h₀) (hA : A.handled = none) (hF : ∀ ys, NatsAre ys (fstT xs xs.length) → Fin ys ((Dz, LCg.lst zs) :: (L + 4, oS) :: led)) :
    ∀ (k i : Nat) (ys : List Value), i + k = xs.length → NatsAre ys (fstT xs i) → LCt.CompRestT prg w A h₀ L m (lawEnv L f cd) firstsCt firstsElt (Str.ofString "k") firstsScope [(Str.ofString "sizes", L + 4)] s₀ (fun _ => True) (fun i v => ∃ t, v = .int (0 + (i : Int)) t) Fin k i ys ((Dz, LCg.lst zs) :: (L + 4, oS) :: led)
  | 0, i, ys, hk, hn => by
    obtain rfl : i = xs.length := by omega
    exact LCt.CompRestT.zero (hF ys hn)
  | k + 1, i, ys, hk, hn => by
    refine LCt.CompRestT.succ ?_
    rintro v I oI C oC D m2 h tk E' ⟨t, rfl⟩ hC hx F N off ne
    have hi : i < xs.length := by omega
    rw [Int.zero_add] at hx
    have hs := fstT_succ hi
    refine firsts_ct F N hd4 hy hC hx X T hi hz hA (fun h' tk' F' N' => ?_)
    by_cases q : xs.idxOf xs[i] = i
    · rw [if_pos q] at hs
      rw [if_pos (by simpa using q)]
      refine firsts_elt F' N' off hC hx X T hA ?_
      exact firsts_rest hd4 hy hz X T hA hF k (i + 1) _ (by omega) (by rw [hs]; exact hn.snoc)
    · rw [if_neg q] at hs
      rw [if_neg (by simpa using q)]
      exact LCg.CompEnd.intro F' N' _ (fun p hp => hp) off trivial (firsts_rest hd4 hy hz X T hA hF k (i + 1) _ (by omega) (by rw [hs]; exact hn))
set_option maxHeartbeats 2000000 in
theorem law_firsts {f Dz : Addr} {cd : Value} {oS : Obj} {zs : List Value} {xs : List (List Nat)} {led : List (Addr × Obj)} {tt : Tok} {Qb : Flow → Shared → Prop} (F : Fr h₀ L s.heap m) (N : News h₀ L s.heap ((Dz, LCg.lst zs) :: (L + 4, oS) :: led)) (hd4 : oS.data = .cell (some (.ref Dz))) (hy : StrsAre zs (xs.map S)) (hz : xs.length < 20)
  (X : (KF w.params).In h₀) (T : Top p loose mean mg mb h₀) (r : Room A 15 150) (ht : 0 < s.toks) (h1 : m "turns" = some (.int (xs.length : Int) tt))
  (ret : ∀ D ys h' tk', NatsAre ys (fst1 xs) → Fr h₀ L h' (fun z => if z = "firsts" then some (.ref D) else m z) → News h₀ L h' ((D, LCg.lst ys) :: (Dz, LCg.lst zs) :: (L + 4, oS) :: led) → (∀ p ∈ (Dz, LCg.lst zs) :: (L + 4, oS) :: led, p.1 ≠ D) → Qb .next { s with heap := h', toks := tk' }) :
  wpAny (model prg w) A (exec (lawS 14) (lawEnv L f cd)) Qb (fun _ _ => False) s := by
  obtain ⟨hA, dp, fr, gd, un⟩ := A
  obtain rfl : hA = none := r.hh
  rw [show lawS 14 = Stmt.Assign _ _ _ from rfl]
  unfold lawEnv
  conv in lawScope => (whnf; dsimp only)
  refine LCt.Assign_ListComp_T (cl := [(Str.ofString "sizes", L + 4)]) F (by rfl) (by rfl) (by rfl) (by decide) (by rfl) (by decide) (by rfl) (by rfl) (by rfl) ?_
  refine wp_cut (RangeR h₀ L m ((Dz, LCg.lst zs) :: (L + 4, oS) :: led) s (xs.length : Int)) ?_ ?_
  · walk_at "steps"
    exact ⟨_, _, _, _, _, _, rfl, rfl, by assumption, by assumption, by assumption⟩
  · rintro _ _ ⟨r9, t9, u9, q9, h9, k9, rfl, rfl, hr9, F9, N9⟩
    refine LCt.CompSrcT.range (n := xs.length) rfl F9 N9 hr9 ((by decide +kernel : ∀ k : Nat, k < 20 → Builtin.Range.small 0 (k : Int) 1 = true) _ hz) ((by decide +kernel : ∀ k : Nat, k < 20 → Builtin.Range.rangeSize 0 (k : Int) 1 = (k : Int)) _ hz) (Nat.le_trans (Nat.le_of_lt hz) (by decide)) ?_
    intro g
    refine firsts_rest hd4 hy (by omega) X T rfl (fun ys hn => ?_) xs.length 0 [] (Nat.zero_add _) NatsAre.nil
    intro D h8 tk8 F8 N8 off8
    exact ret D ys h8 tk8 hn F8 N8 (off1_mem off8)
end
section
theorem wTop_UE : True ∧ True := by
  w_top off
  (try (walk1; fail))
  exact ⟨trivial, trivial⟩
/-- a value is a pair of texts, told by a ledger -/
noncomputable def TupIn (G : List (Addr × Obj)) (v : Value) (q : List Nat × List Nat) : Prop := ∃ a t1 t2, v = .ref a ∧ (a, tup [.str (S q.1) t1, .str (S q.2) t2]) ∈ G
inductive RowsIn (G : List (Addr × Obj)) : List Value → List (List Nat × List Nat) → Prop
  | nil : RowsIn G [] []
  | cons {v : Value} {q : List Nat × List Nat} {vs : List Value} {qs : List (List Nat × List Nat)} : TupIn G v q → RowsIn G vs qs → RowsIn G (v :: vs) (q :: qs)
theorem TupIn.mono {G G' : List (Addr × Obj)} {v : Value} {q : List Nat × List Nat} (h : TupIn G v q) (hs : ∀ p ∈ G, p ∈ G') : TupIn G' v q := by
  obtain ⟨a, t1, t2, e, hm⟩ := h
  exact ⟨a, t1, t2, e, hs _ hm⟩
theorem RowsIn.mono {G G' : List (Addr × Obj)} {vs : List Value} {qs : List (List Nat × List Nat)} (h : RowsIn G vs qs) (hs : ∀ p ∈ G, p ∈ G') : RowsIn G' vs qs := by
  induction h with
  | nil => exact .nil
  | cons h1 _ ih => exact .cons (h1.mono hs) ih
theorem RowsIn.snoc {G : List (Addr × Obj)} {v : Value} {q : List Nat × List Nat} {vs : List Value} {qs : List (List Nat × List Nat)} (h : RowsIn G vs qs) (h1 : TupIn G v q) : RowsIn G (vs ++ [v]) (qs ++ [q]) := by
  induction h with
  | nil => exact .cons h1 .nil
  | cons h2 _ ih => exact .cons h2 ih
theorem rows_in {rs : List Rw} {G : List (Addr × Obj)} (h : ∀ r ∈ rs, rowO r ∈ G) : RowsIn G (refL rs) (rs.map fun r => (r.k, r.v)) := by
  induction rs with
  | nil => exact .nil
  | cons r rs ih => exact .cons ⟨r.a, r.tk, r.tv, rfl, h r (.head _)⟩ (ih fun r' hr => h r' (.tail _ hr))
noncomputable abbrev tupD (q : List Nat × List Nat) : PyData := .tuple [.str (S q.1), .str (S q.2)]
theorem reads_rows {h₀ h : Heap} {L : Addr} {G : List (Addr × Obj)} {vs : List Value} {qs : List (List Nat × List Nat)} (N : News h₀ L h G) (hr : RowsIn G vs qs) : ReadsAll h vs (qs.map tupD) [] := by
  induction hr with
  | nil => exact .nil
  | cons h1 _ ih =>
    obtain ⟨a, t1, t2, rfl, hm⟩ := h1
    exact .cons (bs := []) (.tuple (N.get hm) rfl rfl (.cons (.str _ _) (.cons (.str _ _) .nil))) ih
theorem reads_list {h₀ h : Heap} {L D : Addr} {G : List (Addr × Obj)} {vs : List Value} {qs : List (List Nat × List Nat)} {n : Nat} (N : News h₀ L h G) (hr : RowsIn G vs qs) (hD : (D, lst vs n) ∈ G) : Reads h (.ref D) (.list (qs.map tupD)) [D] :=
  .list (N.get hD) rfl rfl (reads_rows N hr)
theorem rows_lay {qs : List (List Nat × List Nat)} (hq : ∀ q ∈ qs, (∀ c ∈ q.1, c < 128) ∧ ∀ c ∈ q.2, c < 128) : PyData.canLayAll0 (qs.map tupD) = true := by
  induction qs with
  | nil => rfl
  | cons q qs ih =>
    have h1 := hq q (.head _)
    simp [PyData.canLayAll0, PyData.canLay0, strOk_S h1.1, strOk_S h1.2, ih fun r hr => hq r (.tail _ hr)]
theorem rows_depth (qs : List (List Nat × List Nat)) : PyData.depthAll (qs.map tupD) ≤ 10 := by
  induction qs with
  | nil => simp [PyData.depthAll]
  | cons q qs ih =>
    simp [PyData.depthAll, PyData.depth]
    omega
theorem rows_shaped {qs : List (List Nat × List Nat)} (hq : ∀ q ∈ qs, (∀ c ∈ q.1, c < 128) ∧ ∀ c ∈ q.2, c < 128) : SeqAt.shaped (.list (qs.map tupD)) = true := by
  have h1 := rows_lay hq
  have h2 := rows_depth qs
  simp only [SeqAt.shaped, PyData.canLay0, PyData.depth, h1, Bool.true_and]
  exact decide_eq_true (by omega)
theorem eq_rows {prog : Program} {D D' : Addr} {G : List (Addr × Obj)} {vs vs' : List Value} {qs : List (List Nat × List Nat)} {n n' : Nat} (N : News h₀ L s.heap G) (h1 : RowsIn G vs qs) (h2 : RowsIn G vs' qs) (hD : (D, lst vs n) ∈ G) (hD' : (D', lst vs' n') ∈ G) (hq : ∀ q ∈ qs, (∀ c ∈ q.1, c < 128) ∧ ∀ c ∈ q.2, c < 128) (hu : A.units + 64 < cLine) (h : Q (.bool true) s) :
    wpAny (model prog w) A (compareOp .Eq (.ref D) (.ref D')) Q E s := by
  have sh := rows_shaped hq
  refine eq_dataH (reads_list N h1 hD) (reads_list N h2 hD') sh sh hu ?_
  rw [SeqAt.eqv_refl _ (SeqAt.canLay_of_shaped sh)]
  exact h
noncomputable def lastE : Expr := match lawS 15 with
  | .Return (some e) _ => e
  | _ => .Name (Str.ofString "") ⟨0, 0, 0, 0⟩
noncomputable def lastComp : Expr := match lastE with
  | .BoolOp _ [_, .Compare _ _ [c] _] _ => c
  | _ => .Name (Str.ofString "") ⟨0, 0, 0, 0⟩
noncomputable def lastElt : Expr := match lastComp with
  | .ListComp e _ _ _ => e
  | _ => .Name (Str.ofString "") ⟨0, 0, 0, 0⟩
noncomputable def lastScope : Scope := match lastComp with
  | .ListComp _ _ sc _ => sc
  | _ => default
theorem getY {ls : List (List Nat)} {i : Nat} (h : i < ls.length) : (ls.map S).getD ((i : Int)).toNat Str.empty = S (ls.getD i []) := by
  simp [List.getD, List.getElem?_eq_getElem h]
theorem last_end {I C D D9 : Addr} {oI oC oD o : Obj} {p1 p2 : Addr × Obj} {news : List (Addr × Obj)} {S' : List (Addr × Obj) → Prop} {rest : Value → List (Addr × Obj) → Prop} {h' : Heap} {tk' : Nat} (F : Fr h₀ L h' m) (N : News h₀ L h' ((D9, o) :: (I, oI) :: (C, oC) :: (D, oD) :: p1 :: p2 :: news)) (lt : D9 ≠ I ∧ D9 ≠ C ∧ D9 ≠ D) (off : LCg.Off3 I C D (p1 :: p2 :: news)) (hS : S' (p1 :: p2 :: (D9, o) :: news)) (r : rest (.ref D9) (p1 :: p2 :: (D9, o) :: news)) :
  LCg.CompEnd h₀ L m s I oI C oC D oD S' rest (.ref D9) { s with heap := h', toks := tk' } :=
  LCg.CompEnd.intro F N (p1 :: p2 :: (D9, o) :: news) (by
    (try simp only [List.cons_append, List.nil_append])
    walk_at "subs") ⟨off.1, off.2.1, lt, off.2.2⟩ hS r
set_option maxHeartbeats 2000000 in
theorem last_elt {f C I D ml : Addr} {cd : Value} {oI oC oM : Obj} {ys vs : List Value} {m2 : Str → Option Value} {news : List (Addr × Obj)} {ms : List (List Nat)} {n i : Nat} {t : Tok} {S' : List (Addr × Obj) → Prop} {rest : Value → List (Addr × Obj) → Prop} {E : Value → Shared → Prop} (F : Fr h₀ L s.heap m) (N : News h₀ L s.heap ((I, oI) :: (C, oC) :: (D, LCg.lst ys) :: (ml, lst vs n) :: (L + 2, oM) :: news)) (hd2 : oM.data = .cell (some (.ref ml))) (hv : StrsAre vs (ms.map S)) (off : LCg.Off3 I C D ((ml, lst vs n) :: (L + 2, oM) :: news)) (hC : LCg.NsObj oC m2) (h1 : m2 (Str.ofString "k") = some (.int (i : Int) t))
  (hS : ∀ a o, S' ((ml, lst vs n) :: (L + 2, oM) :: (a, o) :: news))
  (X : (KF w.params).In h₀) (T : Top p loose mean mg mb h₀) (hi : i < ms.length) (hz : ms.length ≤ 9) (hA : A.handled = none)
  (ret : ∀ a t1 t2, rest (.ref a) ((ml, lst vs n) :: (L + 2, oM) :: (a, tup [.str (S (ms.getD i [])) t1, .str (S (abc.take i)) t2]) :: news)) :
  wpAny (model prg w) A (eval lastElt (compEnvC lastScope [(Str.ofString "met", L + 2)] C (lawEnv L f cd))) (LCg.CompEnd h₀ L m s I oI C oC D (LCg.lst ys) S' rest) E s := by
  obtain ⟨hA', dp, fr, gd, un⟩ := A
  obtain rfl : hA' = none := hA
  rw [show lastElt = Expr.Tuple _ _ _ from rfl]
  unfold lawEnv
  conv in lawScope => (whnf; dsimp only)
  conv in lastScope => (whnf; dsimp only)
  walk_at "steps"
  rename_i D9 h9 F9 N9 lt9
  rw [getY hi, abc_slice (by omega)] at N9
  exact last_end F9 N9 ⟨Nat.ne_of_gt lt9.1, Nat.ne_of_gt lt9.2.1, Nat.ne_of_gt lt9.2.2.1⟩ off (hS _ _) (ret D9 _ _)
theorem last_rest {f ml Fi : Addr} {cd : Value} {s₀ : Shared} {oM : Obj} {vs fs : List Value} {ms : List (List Nat)} {ks : List Nat} {n : Nat} {B₀ : List (Addr × Obj)} {Fin : List Value → List (Addr × Obj) → Prop} (hd2 : oM.data = .cell (some (.ref ml))) (hv : StrsAre vs (ms.map S)) (hn : NatsAre fs ks) (hks : ∀ k ∈ ks, k < ms.length) (hz : ms.length ≤ 9) (hFi : (Fi, LCg.lst fs) ∈ B₀)
  (X : (KF w.params).In h₀) (T : Top p loose mean mg mb h₀) (hA : A.handled = none) (hF : ∀ ys B, (∀ q ∈ B₀, q ∈ B) → RowsIn B ys (ks.map fun k => (ms.getD k [], abc.take k)) → Fin ys ((ml, lst vs n) :: (L + 2, oM) :: B)) :
    ∀ (k i : Nat) (ys : List Value) (B : List (Addr × Obj)), i + k = ks.length → (∀ q ∈ B₀, q ∈ B) → RowsIn B ys ((ks.take i).map fun k => (ms.getD k [], abc.take k)) → LCg.CompRest prg w A h₀ L m (lawEnv L f cd) lastElt (Str.ofString "k") lastScope [(Str.ofString "met", L + 2)] s₀ (LCg.SrcAt h₀ Fi fs.toArray) (fun i v => fs.toArray[i]? = some v) Fin k i ys ((ml, lst vs n) :: (L + 2, oM) :: B)
  | 0, i, ys, B, hk, hB, hr => by
    rw [List.take_of_length_le (by omega)] at hr
    exact LCg.CompRest.zero (hF ys B hB hr)
  | k + 1, i, ys, B, hk, hB, hr => by
    refine LCg.CompRest.succ ?_
    intro v I oI C oC D m2 h tk E' hP hC hx F N off ne
    have hP' : fs[i]? = some v := by simpa using hP
    obtain ⟨k', t, hk1, rfl⟩ := hn.2 i v hP'
    have hi : i < ks.length := by omega
    have hkm : k' ∈ ks := List.mem_of_getElem? hk1
    refine last_elt F N hd2 hv off hC hx (fun a o => .inr ⟨_, .tail _ (.tail _ (.tail _ (hB _ hFi))), rfl, _, rfl⟩) X T (hks k' hkm) hz hA (fun a t1 t2 => ?_)
    refine last_rest hd2 hv hn hks hz hFi X T hA hF k (i + 1) _ _ (by omega) (fun q hq => .tail _ (hB q hq)) ?_
    have e : (ks.take (i + 1)).map (fun k => (ms.getD k [], abc.take k)) = (ks.take i).map (fun k => (ms.getD k [], abc.take k)) ++ [(ms.getD k' [], abc.take k')] := by
      rw [List.getElem?_eq_getElem hi] at hk1
      rw [List.take_succ_eq_append_getElem hi, List.map_append, Option.some.inj hk1]; rfl
    rw [e]
    exact (hr.mono fun q hq => .tail _ hq).snoc ⟨a, t1, t2, rfl, .head _⟩
end
section
theorem wTop_UF : True ∧ True := by
  w_top off
  (try (walk1; fail))
  exact ⟨trivial, trivial⟩
set_option maxHeartbeats 2000000 in
theorem law_last {f : Addr} {cd : Value} {R : List (Addr × Obj)} {x dx hl bx bdx bhl D ml Fi : Addr} {t0 bt : Tok} {n bn nD nm : Nat} {hv0 due vs fs : List Value} {rs : List Rw} {oM : Obj} {ms : List (List Nat)} {ks : List Nat} {qs : List (List Nat × List Nat)} {Qb : Flow → Shared → Prop}
  (F : Fr h₀ L s.heap m) (N : News h₀ L s.heap (hdLed w x dx hl t0 hv0 n ++ (hdLed w bx bdx bhl bt (refL rs) bn ++ R)))
  (apH : Apart (hdLed w x dx hl t0 hv0 n) (hdLed w bx bdx bhl bt (refL rs) bn ++ R)) (apB : Apart (hdLed w bx bdx bhl bt (refL rs) bn) R)
  (r1 : RowsIn R hv0 qs) (r2 : RowsIn R due qs) (r3 : RowsIn R (refL rs) (ks.map fun k => (ms.getD k [], abc.take k))) (mD : (D, lst due nD) ∈ R) (mm : (ml, lst vs nm) ∈ R) (mM : (L + 2, oM) ∈ R) (mF : (Fi, LCg.lst fs) ∈ R) {ps : Array Value} (mT : (256, tabObj ps) ∈ R)
  (hd2 : oM.data = .cell (some (.ref ml))) (hv : StrsAre vs (ms.map S)) (hn : NatsAre fs ks) (hks : ∀ k ∈ ks, k < ms.length) (hz : ms.length ≤ 9) (hkl : ks.length ≤ 100) (hq : ∀ q ∈ qs, (∀ c ∈ q.1, c < 128) ∧ ∀ c ∈ q.2, c < 128) (hm : ∀ l ∈ ms, ∀ c ∈ l, c < 128) (b1 : hv0.length ≤ 100) (b2 : rs.length ≤ 100)
  (X : (KF w.params).In h₀) (T : Top p loose mean mg mb h₀) (r : Room A 15 150) (ht : 0 < s.toks) (h1 : m "head" = some (.ref x)) (h2 : m "book" = some (.ref bx)) (h3 : m "due" = some (.ref D)) (h4 : m "firsts" = some (.ref Fi))
  (ret : ∀ h' tk', Fr h₀ L h' m → News h₀ L h' [(256, tabObj ps)] → Qb (.ret (.bool true)) { s with heap := h', toks := tk' }) :
  wpAny (model prg w) A (exec (lawS 15) (lawEnv L f cd)) Qb (fun _ _ => False) s := by
  obtain ⟨hA, dp, fr, gd, un⟩ := A
  obtain rfl : hA = none := r.hh
  rw [show lawS 15 = Stmt.Return _ _ from rfl]
  unfold lawEnv
  conv in lawScope => (whnf; dsimp only)
  simp only [List.cons_append, List.nil_append] at N
  walk_at "steps"
  have F9 := (by assumption : Fr h₀ L _ _)
  have N9 := (by assumption : News h₀ L _ ((x, instObj 250 dx) :: _))
  refine items_spec (rest := hdLed w bx bdx bhl bt (refL rs) bn ++ R) F9 N9 apH X T (Room.less r (by omega) (by omega)) (by (try dsimp only); omega) b1 (fun a1 h9 tk9 ht9 F8 N8 lt8 ap8 => ?_)
  clear N N9 F9
  simp only [List.cons_append, List.nil_append] at N8
  refine Wt.intro fun htw => ?_
  dsimp only at htw ⊢
  walk_at "one"
  refine eq_rows (n := 0) (n' := nD) (vs := hv0) (vs' := due) (G := (a1, lst hv0 0) :: (hdLed w x dx hl t0 hv0 n ++ (hdLed w bx bdx bhl bt (refL rs) bn ++ R))) N8 (r1.mono ?sR) (r2.mono ?sR) (.head _) ?mD hq (by have := r.hu; dsimp only at this; show un + 64 < cLine; omega) ?_
  case sR => exact fun q hq => .tail _ (List.mem_append_right _ (List.mem_append_right _ hq))
  case mD => exact .tail _ (List.mem_append_right _ (List.mem_append_right _ mD))
  walk_at "steps"
  have N9 := (by assumption : News h₀ L _ ((a1, lst hv0 0) :: _))
  have F9 := (by assumption : Fr h₀ L _ _)
  refine items_spec (x := bx) (dx := bdx) (hl := bhl) (t0 := bt) (vs := refL rs) (n := bn) (rest := (a1, lst hv0 0) :: (hdLed w x dx hl t0 hv0 n ++ R)) F9 (News.sub N9 ?mv) ?ap X T (Room.less r (by omega) (by omega)) (by (try dsimp only); omega) (by simpa using b2) (fun a2 h10 tk10 ht10 F10 N10 lt10 ap10 => ?_)
  case mv =>
    walk_at "subs"
  case ap =>
    intro q hq
    rcases List.mem_cons.mp hq with rfl | hq
    · exact fun z hz => (ap8 z (List.mem_append_left _ hz)).symm
    rcases List.mem_append.mp hq with hq | hq
    · exact fun z hz => (apH z (List.mem_append_left _ hz) q hq).symm
    · exact apB q hq
  clear N8 N9 F8 F9
  refine Wt.intro fun htw2 => ?_
  dsimp only at htw2 ⊢
  refine LCg.ListComp_U (cl := [(Str.ofString "met", L + 2)]) F10 ?a1 ?a2 ?a3 ?a4 ?a5 ?_
  case a1 => rfl
  case a2 => decide
  case a3 => rfl
  case a4 => decide
  case a5 => rfl
  obtain ⟨B0, hB0⟩ : ∃ B0, B0 = (a2, lst (refL rs) 0) :: (hdLed w bx bdx bhl bt (refL rs) bn ++ ((a1, lst hv0 0) :: (hdLed w x dx hl t0 hv0 n ++ R))) := ⟨_, rfl⟩
  have iR : ∀ q ∈ R, q ∈ B0 := fun q hq => by rw [hB0]; exact .tail _ (List.mem_append_right _ (.tail _ (List.mem_append_right _ hq)))
  have iA : (a2, lst (refL rs) 0) ∈ B0 := by rw [hB0]; exact .head _
  rw [← hB0] at N10
  refine wp_cut (MetR h₀ L m B0 { s with heap := h10, toks := tk10 } Fi) ?_ ?_
  · walk_at "steps"
    exact ⟨_, _, rfl, rfl, by assumption, by assumption⟩
  · rintro _ _ ⟨h11, k11, rfl, rfl, F11, N11⟩
    have N12 : News h₀ L h11 ((ml, lst vs nm) :: (L + 2, oM) :: B0) := News.sub N11 (fun q hq => by
      rcases List.mem_cons.mp hq with rfl | hq
      · exact iR _ mm
      rcases List.mem_cons.mp hq with rfl | hq
      · exact iR _ mM
      · exact hq)
    have hfl : fs.length = ks.length := hn.1
    refine LCg.CompSrc.ledger (its := fs.toArray) rfl F11 N12 (.tail _ (.tail _ (iR _ mF))) ?sz ?_
    case sz => rw [List.size_toArray, hfl]; exact Nat.le_trans hkl (by decide)
    intro g
    rw [show fs.toArray.size = ks.length by rw [List.size_toArray, hfl]]
    refine last_rest hd2 hv hn hks hz (iR _ mF) X T rfl (fun ys B hB hr => ?_) ks.length 0 [] B0 (Nat.zero_add _) (fun q hq => hq) .nil
    intro D9 h8 tk8 F8 N8 off8
    have iB : ∀ q ∈ B0, q ∈ (D9, LCg.lst ys) :: (ml, lst vs nm) :: (L + 2, oM) :: B := fun q hq => .tail _ (.tail _ (.tail _ (hB q hq)))
    refine eq_rows (s := { s with heap := h8, toks := tk8 }) (n := 0) (n' := ys.length) (vs := refL rs) (vs' := ys) N8 (r3.mono fun q hq => iB q (iR q hq)) (hr.mono fun q hq => .tail _ (.tail _ (.tail _ hq))) (iB _ iA) (.head _) (fun q hq => ?_) (by have := r.hu; dsimp only at this; show un + 64 < cLine; omega) (ret _ _ F8 (fun q hq => by rw [List.mem_singleton.mp hq]; exact N8 _ (iB _ (iR _ mT))))
    obtain ⟨k, hk, rfl⟩ := List.mem_map.mp hq
    refine ⟨?_, fun c hc => Nat.lt_trans (abc_ok c hc).2 (by decide)⟩
    have hlt := hks k hk
    intro c hc
    rw [List.getD_eq_getElem?_getD, List.getElem?_eq_getElem hlt] at hc
    exact hm _ (List.getElem_mem hlt) c hc
end
section
theorem wTop_UG : True ∧ True := by
  w_top off
  (try (walk1; fail))
  exact ⟨trivial, trivial⟩
theorem nmP1 {d0 d1 n : Nat} : (if (n + 1) % 2 = 0 then nmD d0 97 n else nmD d1 98 n) = nmB d0 d1 n := by
  unfold nmB
  by_cases h : n % 2 = 0
  · rw [if_pos h, if_neg (by omega)]
  · rw [if_neg h, if_pos (by omega)]
theorem XBok.tab {XB : List (Addr × Obj)} (h : XBok XB) : ∃ ps, (256, tabObj ps) ∈ XB := by
  rcases h with rfl | ⟨c0, oc0, vc0, tq0, rfl, _, _⟩
  · exact ⟨_, .head _⟩
  · exact ⟨_, .head _⟩
theorem val_ok {wd : List Nat} (h : ∀ c ∈ wd, ok c) : ∀ c ∈ valL wd, ok c := fun c hc => row_ok (na := []) (fun _ h => nomatch h) h c (List.mem_append_right _ hc)
theorem ok128 {l : List Nat} (h : ∀ c ∈ l, ok c) : ∀ c ∈ l, c < 128 := fun c hc => Nat.lt_trans (h c hc).2 (by decide)
set_option maxHeartbeats 4000000 in
theorem law_tail {f : Addr} {cd : Value} {K : List (Addr × Obj)} {d : TD} {Dz dd NN : Addr} {zs : List Value} {nd nn kn mk d0 d1 : Nat} {z0 z1 : Int} {ta tb tc td tm t5 : Tok} {Qb : Flow → Shared → Prop}
  (I : TInv w L d K (nmA d0 d1 (turnsN kn)) (wordL z0 mk) (nmB d0 d1 (turnsN kn)) (wordL z1 mk) (msN kn z0 z1 (turnsN kn))) (F : Fr h₀ L s.heap m) (N : News h₀ L s.heap ((Dz, LCg.lst zs) :: d.led w L K (nmA d0 d1 (turnsN kn)) (wordL z0 mk) (nmB d0 d1 (turnsN kn)) (wordL z1 mk)))
  (hd4 : d.oS.data = .cell (some (.ref Dz))) (hy : StrsAre zs (((msN kn z0 z1 (turnsN kn)).map low).map S))
  (hdd : (dd, lst [.int (d0 : Int) ta, .int (d1 : Int) tb] nd) ∈ K) (hnn : (NN, lst [.int z0 tc, .int z1 td] nn) ∈ K)
  (X : (KF w.params).In h₀) (T : Top p loose mean mg mb h₀) (r : Room A 15 150) (ht : 0 < s.toks) (h1 : m "turns" = some (.int (turnsN kn : Int) t5)) (h2 : m "dots" = some (.ref dd)) (h3 : m "numbers" = some (.ref NN)) (h4 : m "mark" = some (.str (S [mk]) tm)) (h5 : m "head" = some (.ref d.x)) (h6 : m "book" = some (.ref d.bx))
  (hk : isMark mk) (hkn : kn < 6) (g0 : d0 < 3) (g1 : d1 < 3) (y0 : z0.natAbs ≤ 1000000) (y1 : z1.natAbs ≤ 1000000)
  (ret : ∀ h' tk' m' ps, Fr h₀ L h' m' → News h₀ L h' [(256, tabObj ps)] → Qb (.ret (.bool true)) { s with heap := h', toks := tk' }) :
  wpAny (model prg w) A (execs [lawS 12, lawS 13, lawS 14, lawS 15] (lawEnv L f cd)) Qb (fun _ _ => False) s := by
  have hT := turns_le hkn
  obtain ⟨hb, _, _⟩ := orb_fine hkn y0 y1
  obtain ⟨ps, hps⟩ := I.xb.tab
  obtain ⟨G, hG⟩ : ∃ G, G = d.led w L K (nmA d0 d1 (turnsN kn)) (wordL z0 mk) (nmB d0 d1 (turnsN kn)) (wordL z1 mk) := ⟨_, rfl⟩
  rw [← hG] at N
  have iH : ∀ q ∈ d.H w (nmA d0 d1 (turnsN kn)) (wordL z0 mk) (nmB d0 d1 (turnsN kn)) (wordL z1 mk), q ∈ G := fun q hq => by rw [hG]; exact List.mem_append_left _ hq
  have iB : ∀ q ∈ d.B w, q ∈ G := fun q hq => by rw [hG]; exact List.mem_append_right _ (List.mem_append_left _ hq)
  have iX : ∀ q ∈ d.XB, q ∈ G := fun q hq => by rw [hG]; exact List.mem_append_right _ (List.mem_append_right _ (List.mem_append_left _ hq))
  have iC : ∀ q ∈ d.C L, q ∈ G := fun q hq => by rw [hG]; exact List.mem_append_right _ (List.mem_append_right _ (List.mem_append_right _ (List.mem_append_left _ hq)))
  have iK : ∀ q ∈ K, q ∈ G := fun q hq => by rw [hG]; exact List.mem_append_right _ (List.mem_append_right _ (List.mem_append_right _ (List.mem_append_right _ hq)))
  -- 12
  refine wpAny_execs_cons (withT ?_)
  refine law_due F N X T r ht (fun Du hA tkA FA NA apA => ?_)
  refine Wt.intro fun htA => ?_
  dsimp only at htA ⊢
  -- 13
  refine wpAny_execs_cons (withT ?_)
  refine law_dues (s := { s with heap := hA, toks := tkA }) (D := Du) (dd := dd) (NN := NN) (nd := nd) (nn := nn) (Tn := turnsN kn) (d0 := d0) (d1 := d1) (mk := mk) (z0 := z0) (z1 := z1) (tt := t5) (tm := tm) (ta := ta) (tb := tb) (tc := tc) (td := td) (led := (Dz, LCg.lst zs) :: G) FA (News.sub NA ?s13) ?ap13 X T r (by show 0 < tkA; omega) ?n1 ?n2 ?n3 ?n4 (if_pos rfl) g0 g1 (by omega) hk y0 y1 (fun ra rb t1 t2 t3 t4 mB hB tkB htB agB FB NB => ?_)
  case s13 =>
    intro q hq
    simp only [List.mem_cons] at hq
    rcases hq with rfl | rfl | rfl | rfl | hq
    · exact .head _
    · exact .tail _ (.tail _ (iK _ hdd))
    · exact .tail _ (.tail _ (iK _ hnn))
    · exact .tail _ (.head _)
    · exact .tail _ (.tail _ hq)
  case ap13 =>
    intro q hq
    simp only [List.mem_cons] at hq
    rcases hq with rfl | rfl | rfl | hq
    · exact apA _ (.tail _ (iK _ hdd))
    · exact apA _ (.tail _ (iK _ hnn))
    · exact apA _ (.head _)
    · exact apA _ (.tail _ hq)
  case n1 => exact (if_neg (by decide)).trans h1
  case n2 => exact (if_neg (by decide)).trans h2
  case n3 => exact (if_neg (by decide)).trans h3
  case n4 => exact (if_neg (by decide)).trans h4
  refine Wt.intro fun htB2 => ?_
  dsimp only at htB htB2 ⊢
  -- 14
  have hmB : ∀ {x : Str} {v : Option Value}, m x = v → x ∉ (["due", "k", "place"] : List Str) → mB x = v := fun {x v} hx hn => by
    rw [agB x (fun q => hn (List.mem_cons_of_mem _ q))]
    show (if x = Str.ofString "due" then _ else m x) = v
    rw [if_neg (fun e => hn (by rw [e]; exact .head _)), hx]
  have hlenN : ((msN kn z0 z1 (turnsN kn)).map low).length = turnsN kn := by rw [List.length_map, msN_len]
  refine wpAny_execs_cons (withT ?_)
  refine law_firsts (s := { s with heap := hB, toks := tkB }) (zs := zs) (xs := (msN kn z0 z1 (turnsN kn)).map low) (led := (Du, lst [.ref ra, .ref rb] 2) :: (rb, dueRow d0 d1 (turnsN kn) mk z0 z1 1 t3 t4) :: (ra, dueRow d0 d1 (turnsN kn) mk z0 z1 0 t1 t2) :: G) (tt := t5) FB (News.sub NB ?s14) hd4 hy (by omega) X T r (by show 0 < tkB; omega) ?n5 (fun Fi fs hC tkC hfs FC NC apC => ?_)
  case s14 =>
    intro q hq
    simp only [List.mem_cons] at hq
    rcases hq with rfl | rfl | rfl | rfl | rfl | hq
    · exact .tail _ (.tail _ (.tail _ (.tail _ (.tail _ (.head _)))))
    · exact .tail _ (.tail _ (.tail _ (.tail _ (.tail _ (.tail _ (iC _ (.tail _ (.tail _ (.tail _ (.head _))))))))))
    · exact .head _
    · exact .tail _ (.head _)
    · exact .tail _ (.tail _ (.head _))
    · exact .tail _ (.tail _ (.tail _ (.tail _ (.tail _ (.tail _ hq)))))
  case n5 => rw [hlenN]; exact hmB h1 (by decide)
  refine Wt.intro fun htC => ?_
  dsimp only at htC ⊢
  -- 15
  have hmC : ∀ {x : Str} {v : Option Value}, m x = v → x ∉ (["due", "k", "place", "firsts"] : List Str) → (fun z : Str => if z = Str.ofString "firsts" then some (Value.ref Fi) else mB z) x = v := fun {x v} hx hn => by
    show (if x = Str.ofString "firsts" then _ else mB x) = v
    rw [if_neg (fun e => hn (by rw [e]; exact .tail _ (.tail _ (.tail _ (.head _)))))]
    exact hmB hx (fun q => hn ((by decide : ∀ z ∈ (["due", "k", "place"] : List Str), z ∈ (["due", "k", "place", "firsts"] : List Str)) _ q))
  have nA := nmA_ok (d0 := d0) (d1 := d1) (i := turnsN kn) g0 g1 (by omega)
  have nB := nmB_ok (d0 := d0) (d1 := d1) (i := turnsN kn) g0 g1 (by omega)
  have w0 := word_fine hk z0 (Nat.lt_of_le_of_lt y0 (by decide))
  have w1 := word_fine hk z1 (Nat.lt_of_le_of_lt y1 (by decide))
  have iG : ∀ q ∈ G, q ∈ (Fi, LCg.lst fs) :: (Dz, LCg.lst zs) :: (L + 4, d.oS) :: (Du, lst [.ref ra, .ref rb] 2) :: (rb, dueRow d0 d1 (turnsN kn) mk z0 z1 1 t3 t4) :: (ra, dueRow d0 d1 (turnsN kn) mk z0 z1 0 t1 t2) :: G := fun q hq => .tail _ (.tail _ (.tail _ (.tail _ (.tail _ (.tail _ hq)))))
  refine wpAny_execs_cons ?_
  refine law_last (s := { s with heap := hC, toks := tkC }) (x := d.x) (dx := d.dx) (hl := d.hl) (t0 := d.t0) (hv0 := [.ref d.ta, .ref d.tb]) (n := d.n) (bx := d.bx) (bdx := d.bdx) (bhl := d.bhl) (bt := d.bt) (rs := d.rs) (bn := d.bn) (D := Du) (nD := 2) (ml := d.ml) (nm := d.nm) (Fi := Fi) (due := [.ref ra, .ref rb]) (vs := d.vs) (fs := fs) (oM := d.oM) (ms := msN kn z0 z1 (turnsN kn)) (ks := fst1 ((msN kn z0 z1 (turnsN kn)).map low))
    (qs := [(nmA d0 d1 (turnsN kn), valL (wordL z0 mk)), (nmB d0 d1 (turnsN kn), valL (wordL z1 mk))])
    (R := (d.ta, tup [.str (S (nmA d0 d1 (turnsN kn))) d.t1, .str (S (valL (wordL z0 mk))) d.t2]) :: (d.tb, tup [.str (S (nmB d0 d1 (turnsN kn))) d.t3, .str (S (valL (wordL z1 mk))) d.t4]) :: (Du, lst [.ref ra, .ref rb] 2) :: (rb, dueRow d0 d1 (turnsN kn) mk z0 z1 1 t3 t4) :: (ra, dueRow d0 d1 (turnsN kn) mk z0 z1 0 t1 t2) :: (Fi, LCg.lst fs) :: (rowL d.rs ++ (d.XB ++ (d.C L ++ K))))
    FC (News.sub NC ?s15) ?apH ?apB ?r1 ?r2 ?r3 (.tail _ (.tail _ (.head _))) ?mm ?mM (.tail _ (.tail _ (.tail _ (.tail _ (.tail _ (.head _)))))) (ps := ps) ?mT I.d2 I.hv hfs ?hks (by rw [msN_len]; omega) ?hkl ?hq ?hm (by simp) ?b2 X T r (by show 0 < tkC; omega) (hmC h5 (by decide)) (hmC h6 (by decide)) ?n7 (if_pos rfl) (fun h' tk' F' N' => ret h' tk' _ ps F' N')
  case s15 =>
    intro q hq
    rcases List.mem_append.mp hq with hq | hq
    · exact iG _ (iH _ (List.mem_append_left _ hq))
    rcases List.mem_append.mp hq with hq | hq
    · exact iG _ (iB _ (List.mem_append_left _ hq))
    simp only [List.mem_cons] at hq
    rcases hq with rfl | rfl | rfl | rfl | rfl | rfl | hq
    · exact iG _ (iH _ (List.mem_append_right _ (.head _)))
    · exact iG _ (iH _ (List.mem_append_right _ (.tail _ (.head _))))
    · exact .tail _ (.tail _ (.tail _ (.head _)))
    · exact .tail _ (.tail _ (.tail _ (.tail _ (.head _))))
    · exact .tail _ (.tail _ (.tail _ (.tail _ (.tail _ (.head _)))))
    · exact .head _
    rcases List.mem_append.mp hq with hq | hq
    · exact iG _ (iB _ (List.mem_append_right _ hq))
    rcases List.mem_append.mp hq with hq | hq
    · exact iG _ (iX _ hq)
    rcases List.mem_append.mp hq with hq | hq
    · exact iG _ (iC _ hq)
    · exact iG _ (iK _ hq)
  case r1 => exact .cons ⟨_, _, _, rfl, .head _⟩ (.cons ⟨_, _, _, rfl, .tail _ (.head _)⟩ .nil)
  case r2 =>
    refine .cons ⟨_, t1, t2, rfl, .tail _ (.tail _ (.tail _ (.tail _ (.head _))))⟩ (.cons ⟨_, t3, t4, rfl, .tail _ (.tail _ (.tail _ ?_))⟩ .nil)
    rw [dueRow, nmP1]
    exact .head _
  case r3 =>
    have e := rows_in (rs := d.rs) (G := rowL d.rs) (fun r hr => List.mem_map.mpr ⟨r, hr, rfl⟩)
    rw [I.rows] at e
    exact e.mono fun q hq => .tail _ (.tail _ (.tail _ (.tail _ (.tail _ (.tail _ (List.mem_append_left _ hq))))))
  case mm => exact .tail _ (.tail _ (.tail _ (.tail _ (.tail _ (.tail _ (List.mem_append_right _ (List.mem_append_right _ (List.mem_append_left _ (.head _)))))))))
  case mM => exact .tail _ (.tail _ (.tail _ (.tail _ (.tail _ (.tail _ (List.mem_append_right _ (List.mem_append_right _ (List.mem_append_left _ (.tail _ (.head _))))))))))
  case mT => exact .tail _ (.tail _ (.tail _ (.tail _ (.tail _ (.tail _ (List.mem_append_right _ (List.mem_append_left _ hps)))))))
  case hks =>
    intro k hk
    have := (mem_fst1.mp hk).1
    rwa [List.length_map] at this
  case hkl =>
    refine Nat.le_trans (List.length_filter_le _ _) ?_
    rw [List.length_range, hlenN]; omega
  case hq =>
    intro q hq
    apply all_by hq
    exact all_cons (⟨ok128 nA.o, ok128 (val_ok w0.1)⟩) (all_cons (⟨ok128 nB.o, ok128 (val_ok w1.1)⟩) (all_nil))
  case hm =>
    intro l hl
    obtain ⟨j, hj, rfl⟩ := List.mem_map.mp hl
    exact ok128 (met_fine j _ (hb _ (by have := List.mem_range.mp hj; omega))).1
  case b2 =>
    have := rows_len I.rows
    rw [msN_len] at this
    omega
  case n7 =>
    show (if Str.ofString "due" = Str.ofString "firsts" then _ else mB (Str.ofString "due")) = _
    rw [if_neg (by decide), agB _ (by decide)]
    exact if_pos rfl
  case apH =>
    have iHd : ∀ z ∈ hdLed w d.x d.dx d.hl d.t0 [.ref d.ta, .ref d.tb] d.n, z ∈ d.H w (nmA d0 d1 (turnsN kn)) (wordL z0 mk) (nmB d0 d1 (turnsN kn)) (wordL z1 mk) := fun z hz => List.mem_append_left _ hz
    intro q hq z hz
    rcases List.mem_append.mp hq with hq | hq
    · exact (I.hB.symm) z (iHd z hz) q (List.mem_append_left _ hq) |>.symm
    simp only [List.mem_cons] at hq
    rcases hq with rfl | rfl | rfl | rfl | rfl | rfl | hq
    · exact tup_ne_hd NC (fun y hy => iG _ (iH _ (iHd y hy))) (iG _ (iH _ (List.mem_append_right _ (.head _)))) z hz
    · exact tup_ne_hd NC (fun y hy => iG _ (iH _ (iHd y hy))) (iG _ (iH _ (List.mem_append_right _ (.tail _ (.head _))))) z hz
    · exact (apA z (.tail _ (iH _ (iHd z hz)))).symm
    · exact tup_ne_hd NC (fun y hy => iG _ (iH _ (iHd y hy))) (.tail _ (.tail _ (.tail _ (.tail _ (.head _))))) z hz
    · exact tup_ne_hd NC (fun y hy => iG _ (iH _ (iHd y hy))) (.tail _ (.tail _ (.tail _ (.tail _ (.tail _ (.head _)))))) z hz
    · exact (apC z (.tail _ (.tail _ (.tail _ (.tail _ (.tail _ (iH _ (iHd z hz)))))))).symm
    rcases List.mem_append.mp hq with hq | hq
    · exact I.hB q (List.mem_append_right _ hq) z (iHd z hz)
    rcases List.mem_append.mp hq with hq | hq
    · exact I.hX q hq z (iHd z hz)
    rcases List.mem_append.mp hq with hq | hq
    · have c := I.hC z (iHd z hz)
      apply all_by hq
      exact all_cons (c.1.symm) (all_cons (c.2.1.symm) (all_cons (c.2.2.1.symm) (all_cons (c.2.2.2.symm) (all_nil))))
    · exact I.hK q hq z (iHd z hz)
  case apB =>
    have iHd : ∀ z ∈ hdLed w d.bx d.bdx d.bhl d.bt (refL d.rs) d.bn, z ∈ d.B w := fun z hz => List.mem_append_left _ hz
    intro q hq z hz
    simp only [List.mem_cons] at hq
    rcases hq with rfl | rfl | rfl | rfl | rfl | rfl | hq
    · exact tup_ne_hd NC (fun y hy => iG _ (iB _ (iHd y hy))) (iG _ (iH _ (List.mem_append_right _ (.head _)))) z hz
    · exact tup_ne_hd NC (fun y hy => iG _ (iB _ (iHd y hy))) (iG _ (iH _ (List.mem_append_right _ (.tail _ (.head _))))) z hz
    · exact (apA z (.tail _ (iB _ (iHd z hz)))).symm
    · exact tup_ne_hd NC (fun y hy => iG _ (iB _ (iHd y hy))) (.tail _ (.tail _ (.tail _ (.tail _ (.head _))))) z hz
    · exact tup_ne_hd NC (fun y hy => iG _ (iB _ (iHd y hy))) (.tail _ (.tail _ (.tail _ (.tail _ (.tail _ (.head _)))))) z hz
    · exact (apC z (.tail _ (.tail _ (.tail _ (.tail _ (.tail _ (iB _ (iHd z hz)))))))).symm
    rcases List.mem_append.mp hq with hq | hq
    · obtain ⟨r', hr', rfl⟩ := List.mem_map.mp hq
      exact tup_ne_hd NC (fun y hy => iG _ (iB _ (iHd y hy))) (iG _ (iB _ (List.mem_append_right _ hq))) z hz
    rcases List.mem_append.mp hq with hq | hq
    · exact I.bX q hq z (iHd z hz)
    rcases List.mem_append.mp hq with hq | hq
    · have c := I.bC z (iHd z hz)
      apply all_by hq
      exact all_cons (c.1.symm) (all_cons (c.2.1.symm) (all_cons (c.2.2.1.symm) (all_cons (c.2.2.2.symm) (all_nil))))
    · exact I.bK q hq z (iHd z hz)
end
section
theorem wTop_UH : True ∧ True := by
  w_top off
  (try (walk1; fail))
  exact ⟨trivial, trivial⟩
theorem law16 : lawBody = [lawS 0, lawS 1, lawS 2, lawS 3, lawS 4, lawS 5, lawS 6, lawS 7, lawS 8, lawS 9, lawS 10, lawS 11, lawS 12, lawS 13, lawS 14, lawS 15] := by
  kernel_rfl
theorem Agree.set {m : Str → Option Value} {x : Str} {v : Option Value} : Agree [x] m (fun z => if z = x then v else m z) := fun y hy => if_neg (fun e => hy (by rw [e]; exact .head _))
theorem nmD_0 {d c : Nat} : nmD d c 0 = List.replicate d 46 ++ [c] := by
  unfold nmD
  by_cases h : d = 0
  · subst h; rfl
  · rw [if_neg h]; rfl
theorem ne_cell {h₀ h : Heap} {L a b : Addr} {vs : List Value} {n : Nat} {o : Obj} {v : Option Value} {G : List (Addr × Obj)} (N : News h₀ L h G) (ha : (a, lst vs n) ∈ G) (hb : (b, o) ∈ G) (hd : o.data = .cell v) : a ≠ b := news_ne N ha hb fun e => by rw [← e] at hd; cases hd
theorem ne_cellT {h₀ h : Heap} {L a b : Addr} {vs : List Value} {o : Obj} {v : Option Value} {G : List (Addr × Obj)} (N : News h₀ L h G) (ha : (a, tup vs) ∈ G) (hb : (b, o) ∈ G) (hd : o.data = .cell v) : a ≠ b := news_ne N ha hb fun e => by rw [← e] at hd; cases hd
theorem ne_tab {h₀ h : Heap} {L a : Addr} {vs : List Value} {n : Nat} {ps : Array Value} {G : List (Addr × Obj)} (N : News h₀ L h G) (ha : (a, lst vs n) ∈ G) (hb : (256, tabObj ps) ∈ G) : a ≠ 256 := news_ne N ha hb fun e => by have := congrArg Obj.cls e; cases this
theorem ne_tabT {h₀ h : Heap} {L a : Addr} {vs : List Value} {ps : Array Value} {G : List (Addr × Obj)} (N : News h₀ L h G) (ha : (a, tup vs) ∈ G) (hb : (256, tabObj ps) ∈ G) : a ≠ 256 := news_ne N ha hb fun e => by have := congrArg Obj.cls e; cases this
theorem low256 {L : Addr} {k : Nat} (h : @LT.lt Nat _ 256 L) : @Ne Nat (L + k) 256 := Nat.ne_of_gt (Nat.lt_of_lt_of_le h (Nat.le_add_right L k))
set_option maxHeartbeats 4000000 in
theorem law_body {f a : Addr} {cd : Value} {o1 o2 o3 o4 : Obj} {v2 v3 v4 : Option Value} {vs : List Value} {ns : List Int} {Qb : Flow → Shared → Prop}
  (F : Fr h₀ L s.heap m) (N : News h₀ L s.heap [(L + 4, o4), (L + 3, o3), (L + 2, o2), (L + 1, o1), (256, tabObj #[])]) (e1 : o1.data = .cell (some (.ref a))) (e2 : o2.data = .cell v2) (e3 : o3.data = .cell v3) (e4 : o4.data = .cell v4)
  (X : (KF w.params).In h₀) (T : Top p loose mean mg mb h₀) (r : Room A 15 150) (l0 : @LT.lt Nat _ 256 L) (hl : h₀.IsList a vs.toArray) (hi : IntsAre vs ns) (hn : ns.length ≤ 63)
  (ret : ∀ h' tk' m' ps, Fr h₀ L h' m' → News h₀ L h' [(256, tabObj ps)] → Qb (.ret (.bool true)) { s with heap := h', toks := tk' }) :
  wpAny (model prg w) A (execs lawBody (lawEnv L f cd)) Qb (fun _ _ => False) s := by
  rw [law16]
  -- 0
  refine law_cells (cS := L) (a := a) (vs := vs) (ns := ns) (oS := o1) (led := [(L + 2, o2), (L + 3, o3), (L + 4, o4), (256, tabObj #[])]) F (News.sub N ?s0) e1 X T (Room.less r (by omega) (by omega)) hl hi hn (fun c0 c1 c2 c3 u0 u1 u2 u3 Ca hA tkA htA FA NA => ?_)
  case s0 =>
    walk_at "subs"
  -- 1
  refine wpAny_execs_cons (withT ?_)
  refine law_nums (s := { s with heap := hA, toks := tkA }) FA NA X T (Room.less r (by omega) (by omega)) (if_pos rfl) (fun z0 z1 tc td NN nn hB tkB y0 y1 FB NB => ?_)
  refine Wt.intro fun htB => ?_
  dsimp only at htB ⊢
  -- 2 3 4
  refine law_kind (s := { s with heap := hB, toks := tkB }) (a := Ca) (c0 := c0) (c1 := c1) (c2 := c2) (c3 := c3) (t0 := u0) (t1 := u1) (t2 := u2) (t3 := u3) (n := 4) (led := (NN, lst [.int z0 tc, .int z1 td] nn) :: (L + 1, o1) :: [(L + 2, o2), (L + 3, o3), (L + 4, o4), (256, tabObj #[])]) FB (News.sub NB ?s1) X T (Room.less r (by omega) (by omega)) ?n1 (fun kn mk tk tm t5 hC tkC mC hkn hmk hm0 hm1 htC agC hC1 hC2 hC3 FC NC => ?_)
  case s1 =>
    walk_at "subs"
  case n1 => exact (if_neg (by decide)).trans (if_pos rfl)
  dsimp only at htC
  have gC1 : mC "cells" = some (.ref Ca) := agC.get ((if_neg (by decide)).trans (if_pos rfl))
  have gC2 : mC "numbers" = some (.ref NN) := agC.get (if_pos rfl)
  -- 5
  have hpC : 0 < tkC := by omega
  refine @law_wts _ _ { s with heap := hC, toks := tkC } _ _ _ _ _ _ _ _ _ _ _ kn tk _ _ _ FC NC X T (Room.less r (by omega) (by omega)) hpC hC1 hkn (fun wr ta tb hD tkD mD htD agD hD1 FD ND => ?_)
  dsimp only at htD
  -- 6
  refine law_dots (s := { s with heap := hD, toks := tkD }) (a := Ca) (c0 := c0) (c1 := c1) (c2 := c2) (c3 := c3) (t0 := u0) (t1 := u1) (t2 := u2) (t3 := u3) (n := 4) (led := (wr, tup [.int ((wtN kn).1 : Int) ta, .int ((wtN kn).2 : Int) tb]) :: (NN, lst [.int z0 tc, .int z1 td] nn) :: (L + 1, o1) :: [(L + 2, o2), (L + 3, o3), (L + 4, o4), (256, tabObj #[])]) FD (News.sub ND ?s2) X T (Room.less r (by omega) (by omega)) (by show 0 < tkD; omega) (agD.get gC1) (fun d0 d1 dd ta' tb' nd hE tkE mE g0 g1 htE agE hE1 FE NE => ?_)
  case s2 =>
    walk_at "subs"
  dsimp only at htE
  -- the ledger so far
  obtain ⟨E6, hE6⟩ : ∃ E6 : List (Addr × Obj), E6 = (Ca, lst [.int c0 u0, .int c1 u1, .int c2 u2, .int c3 u3] 4) :: (wr, tup [.int ((wtN kn).1 : Int) ta, .int ((wtN kn).2 : Int) tb]) :: (L + 1, o1) :: [(L + 2, o2), (L + 3, o3), (L + 4, o4), (256, tabObj #[])] := ⟨_, rfl⟩
  have N6 : News h₀ L hE ((dd, lst [.int (d0 : Int) ta', .int (d1 : Int) tb'] nd) :: (NN, lst [.int z0 tc, .int z1 td] nn) :: E6) := News.sub NE (by rw [hE6]; walk_at "subs")
  -- 7
  refine wpAny_execs_cons (withT ?_)
  refine law_hd (s := { s with heap := hE, toks := tkE }) (.inl rfl) FE N6 X T r (by show 0 < tkE; omega) (fun x dx hl1 t0 hG tkG mG agG hG1 FG NG ltG => ?_)
  simp only [if_true] at agG hG1
  obtain ⟨q1, q2, q3⟩ := ltG
  refine Wt.intro fun htG => ?_
  dsimp only at htG ⊢
  -- 8
  refine wpAny_execs_cons (withT ?_)
  refine law_heads (s := { s with heap := hG, toks := tkG }) (n := nd) (n' := nn) (mk := mk) (tm := tm) FG NG X T r (by show 0 < tkG; omega) hG1 (agG.get hE1) (agG.get (agE.get (agD.get gC2))) (agG.get (agE.get (agD.get hC2))) hmk g0 g1 y0 y1 q1 q2 q3 (fun ra rb t1 t2 t3 t4 n2 hH tkH mH agH FH NH apH => ?_)
  refine Wt.intro fun htH => ?_
  dsimp only at htH ⊢
  have eA : List.replicate d0 46 ++ [97] = nmA d0 d1 0 := nmD_0.symm
  have eB : List.replicate d1 46 ++ [98] = nmB d0 d1 0 := nmD_0.symm
  rw [eA, eB] at NH apH
  -- 9
  refine wpAny_execs_cons (withT ?_)
  refine law_hd (s := { s with heap := hH, toks := tkH }) (.inr rfl) FH NH X T r (by show 0 < tkH; omega) (fun bx bdx bhl bt hI tkI mI agI hI1 FI NI ltI => ?_)
  simp only [show ¬ (9 = 7) by decide, if_false] at agI hI1
  obtain ⟨b1, b2, b3⟩ := ltI
  refine Wt.intro fun htI => ?_
  dsimp only at htI ⊢
  -- 10
  have m_dd : (dd, lst [.int (d0 : Int) ta', .int (d1 : Int) tb'] nd) ∈ (dd, lst [.int (d0 : Int) ta', .int (d1 : Int) tb'] nd) :: (NN, lst [.int z0 tc, .int z1 td] nn) :: E6 := .head _
  have m_NN : (NN, lst [.int z0 tc, .int z1 td] nn) ∈ (dd, lst [.int (d0 : Int) ta', .int (d1 : Int) tb'] nd) :: (NN, lst [.int z0 tc, .int z1 td] nn) :: E6 := .tail _ (.head _)
  have m_Ca : (Ca, lst [.int c0 u0, .int c1 u1, .int c2 u2, .int c3 u3] 4) ∈ (dd, lst [.int (d0 : Int) ta', .int (d1 : Int) tb'] nd) :: (NN, lst [.int z0 tc, .int z1 td] nn) :: E6 := .tail _ (.tail _ (by show _ ∈ E6; rw [hE6]; exact .head _))
  have m_wr : (wr, tup [.int ((wtN kn).1 : Int) ta, .int ((wtN kn).2 : Int) tb]) ∈ (dd, lst [.int (d0 : Int) ta', .int (d1 : Int) tb'] nd) :: (NN, lst [.int z0 tc, .int z1 td] nn) :: E6 := .tail _ (.tail _ (by show _ ∈ E6; rw [hE6]; exact .tail _ (.head _)))
  have m_1 : (L + 1, o1) ∈ (dd, lst [.int (d0 : Int) ta', .int (d1 : Int) tb'] nd) :: (NN, lst [.int z0 tc, .int z1 td] nn) :: E6 := .tail _ (.tail _ (by show _ ∈ E6; rw [hE6]; exact .tail _ (.tail _ (.head _))))
  have m_2 : (L + 2, o2) ∈ (dd, lst [.int (d0 : Int) ta', .int (d1 : Int) tb'] nd) :: (NN, lst [.int z0 tc, .int z1 td] nn) :: E6 := .tail _ (.tail _ (by show _ ∈ E6; rw [hE6]; exact .tail _ (.tail _ (.tail _ (.head _)))))
  have m_3 : (L + 3, o3) ∈ (dd, lst [.int (d0 : Int) ta', .int (d1 : Int) tb'] nd) :: (NN, lst [.int z0 tc, .int z1 td] nn) :: E6 := .tail _ (.tail _ (by show _ ∈ E6; rw [hE6]; exact .tail _ (.tail _ (.tail _ (.tail _ (.head _))))))
  have m_4 : (L + 4, o4) ∈ (dd, lst [.int (d0 : Int) ta', .int (d1 : Int) tb'] nd) :: (NN, lst [.int z0 tc, .int z1 td] nn) :: E6 := .tail _ (.tail _ (by show _ ∈ E6; rw [hE6]; exact .tail _ (.tail _ (.tail _ (.tail _ (.tail _ (.head _)))))))
  have m_t : (256, tabObj #[]) ∈ (dd, lst [.int (d0 : Int) ta', .int (d1 : Int) tb'] nd) :: (NN, lst [.int z0 tc, .int z1 td] nn) :: E6 := .tail _ (.tail _ (by show _ ∈ E6; rw [hE6]; exact .tail _ (.tail _ (.tail _ (.tail _ (.tail _ (.tail _ (.head _))))))))
  clear hE6
  generalize hBG : (dd, lst [.int (d0 : Int) ta', .int (d1 : Int) tb'] nd) :: (NN, lst [.int z0 tc, .int z1 td] nn) :: E6 = BG at *
  obtain ⟨HL, hHL⟩ : ∃ HL, HL = headLed w x dx hl1 ra rb t0 n2 (nmA d0 d1 0) (valL (wordL z0 mk)) (nmB d0 d1 0) (valL (wordL z1 mk)) t1 t2 t3 t4 := ⟨_, rfl⟩
  have NI' : News h₀ L hI (hdLed w bx bdx bhl bt [] 0 ++ (HL ++ BG)) := by rw [hHL]; exact NI
  have apH' : Apart HL BG := by rw [hHL]; exact apH
  have b3' : ∀ q ∈ HL ++ BG, @LT.lt Nat _ q.1 bdx := by rw [hHL]; exact b3
  have bG : ∀ q ∈ BG, @LT.lt Nat _ q.1 bdx := fun q hq => b3' q (List.mem_append_right _ hq)
  have bH : ∀ q ∈ HL, @LT.lt Nat _ q.1 bdx := fun q hq => b3' q (List.mem_append_left _ hq)
  have bge : ∀ q ∈ hdLed w bx bdx bhl bt [] 0, @LE.le Nat _ bdx q.1 := by
    intro q hq
    apply all_by hq
    exact all_cons (Nat.le_of_lt b1) (all_cons (Nat.le_refl _) (all_cons (Nat.le_of_lt (Nat.lt_trans b1 b2)) (all_nil)))
  have iB : ∀ q ∈ hdLed w bx bdx bhl bt [] 0, q ∈ hdLed w bx bdx bhl bt [] 0 ++ (HL ++ BG) := fun q hq => List.mem_append_left _ hq
  have iH : ∀ q ∈ HL, q ∈ hdLed w bx bdx bhl bt [] 0 ++ (HL ++ BG) := fun q hq => List.mem_append_right _ (List.mem_append_left _ hq)
  have iG : ∀ q ∈ BG, q ∈ hdLed w bx bdx bhl bt [] 0 ++ (HL ++ BG) := fun q hq => List.mem_append_right _ (List.mem_append_right _ hq)
  refine wpAny_execs_cons (withT ?_)
  refine law_met (s := { s with heap := hI, toks := tkI }) (oM := o2) (led := hdLed w bx bdx bhl bt [] 0 ++ (HL ++ [(Ca, lst [.int c0 u0, .int c1 u1, .int c2 u2, .int c3 u3] 4), (dd, lst [.int (d0 : Int) ta', .int (d1 : Int) tb'] nd), (NN, lst [.int z0 tc, .int z1 td] nn), (wr, tup [.int ((wtN kn).1 : Int) ta, .int ((wtN kn).2 : Int) tb]), (L + 1, o1), (L + 3, o3), (L + 4, o4), (256, tabObj #[])])) FI (News.sub NI' ?s10) ?cl e2 X T r (by show 0 < tkI; omega) (fun ml oM hJ tkJ e2' FJ NJ apJ => ?_)
  case s10 =>
    intro q hq
    rcases List.mem_cons.mp hq with rfl | hq
    · exact iG _ m_2
    rcases List.mem_append.mp hq with hq | hq
    · exact iB _ hq
    rcases List.mem_append.mp hq with hq | hq
    · exact iH _ hq
    apply all_by hq
    exact all_cons (iG _ m_Ca) (all_cons (iG _ m_dd) (all_cons (iG _ m_NN) (all_cons (iG _ m_wr) (all_cons (iG _ m_1) (all_cons (iG _ m_3) (all_cons (iG _ m_4) (all_cons (iG _ m_t) (all_nil))))))))
  case cl =>
    intro q hq
    rcases List.mem_append.mp hq with hq | hq
    · exact Nat.ne_of_gt (Nat.lt_of_lt_of_le (bG _ m_2) (bge q hq))
    rcases List.mem_append.mp hq with hq | hq
    · exact (apH' _ m_2 q hq).symm
    apply all_by hq
    exact all_cons (ne_cell NI' (iG _ m_Ca) (iG _ m_2) e2) (all_cons (ne_cell NI' (iG _ m_dd) (iG _ m_2) e2) (all_cons (ne_cell NI' (iG _ m_NN) (iG _ m_2) e2) (all_cons (ne_cellT NI' (iG _ m_wr) (iG _ m_2) e2) (all_cons (L32 (by decide)) (all_cons (L32 (by decide)) (all_cons (L32 (by decide)) (all_cons ((low256 l0).symm) (all_nil))))))))
  refine Wt.intro fun htJ => ?_
  dsimp only at htJ ⊢
  have jB : ∀ q ∈ hdLed w bx bdx bhl bt [] 0, q.1 ≠ ml := fun q hq => apJ q (.tail _ (List.mem_append_left _ hq))
  have jH : ∀ q ∈ HL, q.1 ≠ ml := fun q hq => apJ q (.tail _ (List.mem_append_right _ (List.mem_append_left _ hq)))
  have jE : ∀ q ∈ [(Ca, lst [.int c0 u0, .int c1 u1, .int c2 u2, .int c3 u3] 4), (dd, lst [.int (d0 : Int) ta', .int (d1 : Int) tb'] nd), (NN, lst [.int z0 tc, .int z1 td] nn), (wr, tup [.int ((wtN kn).1 : Int) ta, .int ((wtN kn).2 : Int) tb]), (L + 1, o1), (L + 3, o3), (L + 4, o4), (256, tabObj #[])], q.1 ≠ ml := fun q hq => apJ q (.tail _ (List.mem_append_right _ (List.mem_append_right _ hq)))
  -- the loop
  have k1 := jE _ (.head _)
  have k2 := jE _ (.tail _ (.head _))
  have k3 := jE _ (.tail _ (.tail _ (.head _)))
  have k4 := jE _ (.tail _ (.tail _ (.tail _ (.head _))))
  have k5 := jE _ (.tail _ (.tail _ (.tail _ (.tail _ (.head _)))))
  have k6 := jE _ (.tail _ (.tail _ (.tail _ (.tail _ (.tail _ (.head _))))))
  have k7 := jE _ (.tail _ (.tail _ (.tail _ (.tail _ (.tail _ (.tail _ (.head _)))))))
  have k8 := jE _ (.tail _ (.tail _ (.tail _ (.tail _ (.tail _ (.tail _ (.tail _ (.head _))))))))
  have k9 := apJ _ (.head _)
  have bne : ∀ (q p : Addr × Obj), p ∈ BG → q ∈ hdLed w bx bdx bhl bt [] 0 → q.1 ≠ p.1 := fun q p hp hq => Nat.ne_of_gt (Nat.lt_of_lt_of_le (bG p hp) (bge q hq))
  obtain ⟨d, hd⟩ : ∃ d : TD, d = ⟨x, dx, hl1, ra, rb, t0, t1, t2, t3, t4, n2, bx, bdx, bhl, bt, [], 0, [(256, tabObj #[])], ml, [], 0, oM, o3, o4⟩ := ⟨_, rfl⟩
  obtain ⟨K, hK⟩ : ∃ K : List (Addr × Obj), K = [(Ca, lst [.int c0 u0, .int c1 u1, .int c2 u2, .int c3 u3] 4), (dd, lst [.int (d0 : Int) ta', .int (d1 : Int) tb'] nd), (NN, lst [.int z0 tc, .int z1 td] nn), (wr, tup [.int ((wtN kn).1 : Int) ta, .int ((wtN kn).2 : Int) tb]), (L + 1, o1)] := ⟨_, rfl⟩
  have dH : d.H w (nmA d0 d1 0) (wordL z0 mk) (nmB d0 d1 0) (wordL z1 mk) = HL := by rw [hd, hHL]
  have dB : d.B w = hdLed w bx bdx bhl bt [] 0 := by rw [hd]; rfl
  have dX : d.XB = [(256, tabObj #[])] := by rw [hd]
  have dM : d.ml = ml := by rw [hd]
  have KG : ∀ q ∈ K, q ∈ BG := by
    intro q hq
    rw [hK] at hq
    apply all_by hq
    exact all_cons (m_Ca) (all_cons (m_dd) (all_cons (m_NN) (all_cons (m_wr) (all_cons (m_1) (all_nil)))))
  have K256 : ∀ q ∈ K, q.1 ≠ 256 := by
    intro q hq
    rw [hK] at hq
    apply all_by hq
    exact all_cons (ne_tab NI' (iG _ m_Ca) (iG _ m_t)) (all_cons (ne_tab NI' (iG _ m_dd) (iG _ m_t)) (all_cons (ne_tab NI' (iG _ m_NN) (iG _ m_t)) (all_cons (ne_tabT NI' (iG _ m_wr) (iG _ m_t)) (all_cons (low256 l0) (all_nil)))))
  have Kc : ∀ q ∈ K, q.1 ≠ ml ∧ q.1 ≠ L + 2 ∧ q.1 ≠ L + 3 ∧ q.1 ≠ L + 4 := by
    intro q hq
    rw [hK] at hq
    apply all_by hq
    exact all_cons (⟨k1, ne_cell NI' (iG _ m_Ca) (iG _ m_2) e2, ne_cell NI' (iG _ m_Ca) (iG _ m_3) e3, ne_cell NI' (iG _ m_Ca) (iG _ m_4) e4⟩) (all_cons (⟨k2, ne_cell NI' (iG _ m_dd) (iG _ m_2) e2, ne_cell NI' (iG _ m_dd) (iG _ m_3) e3, ne_cell NI' (iG _ m_dd) (iG _ m_4) e4⟩) (all_cons (⟨k3, ne_cell NI' (iG _ m_NN) (iG _ m_2) e2, ne_cell NI' (iG _ m_NN) (iG _ m_3) e3, ne_cell NI' (iG _ m_NN) (iG _ m_4) e4⟩) (all_cons (⟨k4, ne_cellT NI' (iG _ m_wr) (iG _ m_2) e2, ne_cellT NI' (iG _ m_wr) (iG _ m_3) e3, ne_cellT NI' (iG _ m_wr) (iG _ m_4) e4⟩) (all_cons (⟨k5, L32 (by decide), L32 (by decide), L32 (by decide)⟩) (all_nil)))))
  have hI0 : TInv w L d K (nmA d0 d1 0) (wordL z0 mk) (nmB d0 d1 0) (wordL z1 mk) [] := by
    refine ⟨?_, ?_, ?_, ?_, ?_, ?_, ?_, ?_, ?_, ?_, ?_, ?_, ?_, ?_, ?_, ?_, ?_⟩
    · rw [dX]; exact .inl rfl
    · rw [dH, dB]; exact fun q hq z hz => Nat.ne_of_gt (Nat.lt_of_lt_of_le (bH z hz) (bge q hq))
    · rw [dH, dX]; exact fun q hq z hz => by rw [List.mem_singleton.mp hq]; exact apH' _ m_t z hz
    · rw [dH]; exact fun q hq z hz => apH' _ (KG q hq) z hz
    · rw [dH, dM]; exact fun z hz => ⟨jH z hz, (apH' _ m_2 z hz).symm, (apH' _ m_3 z hz).symm, (apH' _ m_4 z hz).symm⟩
    · rw [dB, dX]; exact fun q hq z hz => by rw [List.mem_singleton.mp hq]; exact (bne z _ m_t hz).symm
    · rw [dB]; exact fun q hq z hz => (bne z q (KG q hq) hz).symm
    · rw [dB, dM]; exact fun z hz => ⟨jB z hz, bne z _ m_2 hz, bne z _ m_3 hz, bne z _ m_4 hz⟩
    · rw [dX]; exact fun q hq z hz => by rw [List.mem_singleton.mp hz]; exact K256 q hq
    · rw [dX, dM]; exact fun z hz => by rw [List.mem_singleton.mp hz]; exact ⟨k8, (low256 l0).symm, (low256 l0).symm, (low256 l0).symm⟩
    · rw [dM]; exact Kc
    · rw [dM]; exact ⟨k9.symm, k6.symm, k7.symm⟩
    · rw [hd]; exact e2'
    · rw [hd]; exact ⟨_, e3⟩
    · rw [hd]; exact ⟨_, e4⟩
    · rw [hd]; exact .nil
    · rw [hd]; exact RowsOk.nil
  have NL : News h₀ L hJ (d.led w L K (nmA d0 d1 0) (wordL z0 mk) (nmB d0 d1 0) (wordL z1 mk)) := by
    unfold TD.led
    rw [dH, dB, dX, hK]
    refine News.sub NJ (fun q hq => ?_)
    rcases List.mem_append.mp hq with hq | hq
    · exact .tail _ (.tail _ (List.mem_append_right _ (List.mem_append_left _ hq)))
    rcases List.mem_append.mp hq with hq | hq
    · exact .tail _ (.tail _ (List.mem_append_left _ hq))
    rcases List.mem_append.mp hq with hq | hq
    · rw [List.mem_singleton.mp hq]; exact .tail _ (.tail _ (List.mem_append_right _ (List.mem_append_right _ (by simp))))
    rcases List.mem_append.mp hq with hq | hq
    · rw [hd] at hq
      apply all_by hq
      exact all_cons (.head _) (all_cons (.tail _ (.head _)) (all_cons (.tail _ (.tail _ (List.mem_append_right _ (List.mem_append_right _ (by simp))))) (all_cons (.tail _ (.tail _ (List.mem_append_right _ (List.mem_append_right _ (by simp))))) (all_nil))))
    · refine .tail _ (.tail _ (List.mem_append_right _ (List.mem_append_right _ ?_)))
      exact all_by hq (by walk_at "subs")
  have gI : ∀ {y : Str} {v : Option Value}, mD y = v → y ∉ (["dots", "head", "k", "book"] : List Str) → mI y = v := fun {y v} hx hn => by
    rw [agI y (fun q => hn (by rw [List.mem_singleton.mp q]; simp)), agH y (fun q => hn (by rw [List.mem_singleton.mp q]; simp)), agG y (fun q => hn (by rw [List.mem_singleton.mp q]; simp)), agE y (fun q => hn (by rw [List.mem_singleton.mp q]; simp)), hx]
  have hNm : Names mI Ca wr d.bx mk kn tm tk := ⟨gI (agD.get gC1) (by decide), gI (agD.get hC2) (by decide), gI (agD.get hC1) (by decide), gI hD1 (by decide), by rw [hd]; exact hI1⟩
  have hx9 : mI "head" = some (.ref d.x) := by rw [hd]; exact agI.get (agH.get hG1)
  have hdots : mI "dots" = some (.ref dd) := agI.get (agH.get (agG.get hE1))
  have hnums : mI "numbers" = some (.ref NN) := gI (agD.get gC2) (by decide)
  have hturn : mI "turns" = some (.int (turnsN kn : Int) t5) := gI (agD.get hC3) (by decide)
  refine wpAny_execs_cons (withT ?_)
  refine law_loop (s := { s with heap := hJ, toks := tkJ }) (d := d) (K := K) (a := Ca) (wr := wr) (c0 := c0) (c1 := c1) (c2 := c2) (c3 := c3) (z0 := z0) (z1 := z1) (u0 := u0) (u1 := u1) (u2 := u2) (u3 := u3) (tm := tm) (tk := tk) (ta := ta) (tb := tb) (t5 := t5) (nc := 4) (kn := kn) (mk := mk) (d0 := d0) (d1 := d1) hI0 FJ NL (by rw [hK]; simp) (by rw [hK]; simp) X T r (by show 0 < tkJ; omega) hNm hturn hx9 hmk hm0 (by show @LT.lt Nat _ tm tkJ; omega) hkn g0 g1 y0 y1 (fun d' Dz zs hM tkM mM htM IM hDz hzs FM NM agM hhM hbM => ?_)
  refine Wt.intro fun htM2 => ?_
  dsimp only at htM htM2 ⊢
  refine law_tail (s := { s with heap := hM, toks := tkM }) (dd := dd) (NN := NN) (nd := nd) (nn := nn) (ta := ta') (tb := tb') (tc := tc) (td := td) (tm := tm) (t5 := t5) IM FM NM hDz hzs (by rw [hK]; simp) (by rw [hK]; simp) X T r (by show 0 < tkM; omega) (agM.get hturn) (agM.get hdots) (agM.get hnums) (agM.get hNm.h2) hhM (by rw [hbM]; exact agM.get hNm.h7) hmk hkn g0 g1 y0 y1 (fun h' tk' m' ps F' N' => ret h' tk' m' ps F' N')
end
end
end Mine
end
open PySem PySem.W PyProof.Rows PySem.Calls PySem.Spec Mine
set_option Elab.async false
set_option maxRecDepth 100000 in
set_option maxHeartbeats 8000000 in
theorem PySem.Challenge.cw_jc0034_01_holds : PySem.Challenge.rw_jc0034_01.Holds := by
  refine holds_law said fun sd => holds_open (q := vw) (loose := ["_twin_re_1", "_twin_re_2", "tspecials", "_name_disallowed_re", "_value_disallowed_re", "_formatparam"]) (Xt := fun s => xlAt vw [] s && recOk (RowW.records PySem.Challenge.rw_jc0034_01.row.toRowW) s) (XP := XL vw []) (Yf := (kmHook KF KA KA_eq [256]).obs) (Ya := (kmHook KF KA KA_eq [256]).val) (YP := (kmHook KF KA KA_eq [256]).says) (N := 3668) left (kmHook KF KA KA_eq [256]).of (kmHook KF KA KA_eq [256]).keeps (fun s e => xl_of s (Bool.and_eq_true_iff.mp e).1) XL.keeps (by rfl) (by rfl) (by rfl) (fun s e => recFacts_of (Bool.and_eq_true_iff.mp e).2) (by rfl) sd chains bare wits ?hc
  w_strict k_go0
  have F9 := (by assumption : Fr (ghostOf _ _) _ _ _)
  have N9 := (by assumption : News (ghostOf _ _) _ _ [_, _, _, _, _])
  have X9 := (by assumption : Frag.In _ (ghostOf _ _))
  have T9 := (by assumption : Top topProg _ _ _ _ (ghostOf _ _))
  have l9 := (by assumption : @LT.lt Nat _ 256 _)
  have I9 := (by assumption : IntsAre _ _)
  have L9 := (by assumption : Heap.IsList (ghostOf _ _) _ _)
  have H9 := (by assumption : ¬ (63 : Int) < _)
  refine wpAny_mono (law_body (v2 := none) (v3 := none) (v4 := none) F9 N9 ?c1 ?c2 ?c3 ?c4 X9 T9 ?r l9 L9 I9 ?hn ?ret) (fun _ _ h => h) (fun _ _ h => h.elim)
  case c1 => exact Eq.trans (by assumption) rfl
  case c2 => exact Eq.trans (by assumption) rfl
  case c3 => exact Eq.trans (by assumption) rfl
  case c4 => exact Eq.trans (by assumption) rfl
  case r => exact Room.deeper (d := 15) (u := 150) ⟨rfl, by decide +kernel, by decide +kernel⟩
  case hn => omega
  case ret =>
    intro h' tk' m' ps F' N'
    refine ⟨?_, ⟨ps, (N' _ (.head _)).1⟩, trivial⟩
    have hg9 := (by assumption : Shared.gens _ = #[])
    refine goodW_bool (s' := { heap := h', gens := _, drawn := _, toks := tk', os := _ }) F' hg9 (raisesW_false ?hn) ?hp rfl
    case hn => wrow_none_raised
    case hp => first | wrow_post | kc_post
